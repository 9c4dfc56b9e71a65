import PyProof.Rows.All
import Wide.All
import Open.Pieces
import Open.Line
import Open.FastLooks
import Wide.FinOn
import KE.KIsAll
import KE.KIsBytes
import KE.BytesMake
import KE.BytesMulAny
import KE.IntBitsLaws
import KE.KBytesCut
import KE.KDictList
import KE.KFromBytes
import KE.KIntText
import KE.KPairComp
import KE.KToBytes
import KE.KTurns
import KE.KTurnsDict
import KE.KxBytes
import KE.KxDecode
import KE.LcSums
import OpenK.KGet
import OpenK.KWalk
import OpenK.Peek
import OpenK.KCall
import OpenK.KMake
import PyProof.Draws
import PyProof.CodeObj
import PyProof.NsDelKeeps
import PyProof.ExcStrCall
import PyProof.Rows.Own
import PyProof.Rows.Catch
import PyProof.ExcFactsAll.ValueError
import Lean
import PySem.Challenge.RW_fw0046_01
set_option Elab.async false
set_option linter.unusedVariables false
set_option linter.unusedSimpArgs false
set_option autoImplicit false
set_option maxRecDepth 100000

section
open PySem
namespace Mine

/-- a frozen value: what the text's values are, without the heap -/
inductive FV where
  | none
  | bool (b : Bool)
  | int (i : Int)
  | str (x : Str)
  | bytes (b : List UInt8)
  | tup (l : List FV)
  | lst (l : List FV)
  | dct (l : List (Str × FV))
  | code (x : Str)
  | gl (i : Nat)
  | typ (n : String)
  deriving Inhabited

/-- what a local name holds: a frozen value, or a list or dict that is still being made -/
inductive LV where
  | fv (v : FV)
  | ml (l : List FV)
  | md (l : List (Str × FV))
  deriving Inhabited

inductive EC where
  | blt (n : String)
  | own (i : Nat)
  deriving DecidableEq, Inhabited

structure EK where
  cls : EC
  msg : Option Str
  deriving Inhabited

inductive Res (α : Type) where
  | ok (a : α)
  | exc (e : EK)
  | no
  deriving Inhabited

/-- not to be seen through: a proof by reckoning that stays a proof -/
theorem nr {α : Sort _} {a b : α} (h : a = b) : a = b := h
namespace Res
def bind {α β : Type} : Res α → (α → Res β) → Res β
  | ok a, f => f a
  | exc e, _ => exc e
  | no, _ => no
@[simp] theorem bind_ok {α β : Type} (a : α) (f : α → Res β) : (Res.ok a).bind f = f a := nr rfl
@[simp] theorem bind_exc {α β : Type} (e : EK) (f : α → Res β) : (Res.exc e : Res α).bind f = .exc e := nr rfl
@[simp] theorem bind_no {α β : Type} (f : α → Res β) : (Res.no : Res α).bind f = .no := nr rfl
end Res

inductive Prim where
  | add | sub | mul | div | mod
  | lt | le | gt | ge | eq | ne
  | isNone | isNotNone | inn | not
  | len | idx | slAB | slA | slB
  | mkTup | mkLst
  | isi (cs : List FV)
  | min2 | max2 | sum | all | strInt | tupleOf | listOf
  | bytesOf | join | enc | dec
  | toB (signed : Bool) | fromB
  | get | attr (n : String)
  | mkCode | truth | unkMsg
  deriving Inhabited

inductive Src where
  | lst
  | rng1 | rng2
  | items
  | enum
  deriving DecidableEq, Inhabited

inductive CE where
  | k (v : FV)
  | v (i : Nat)
  | c (i : Nat)
  | lenv (i : Nat)
  | p (f : Prim) (as : List CE)
  | and (a b : CE)
  | or (a b : CE)
  | ife (t a b : CE)
  | chn (a : CE) (o₁ : Prim) (b : CE) (o₂ : Prim) (c : CE)
  | call (f : CE) (as : List CE)
  | comp (elt : CE) (m : Nat) (s : Src) (as : List CE)
  | bad
  deriving Inhabited

inductive Hd where
  | raiseStr (i : Nat) (c : EC)
  | unk (i j : Nat)
  | again
  | ret (v : FV)
  | other
  deriving Inhabited

inductive CS where
  | ex (e : CE)
  | set (i : Nat) (e : CE)
  | ml0 (i : Nat)
  | md0 (i : Nat)
  | ml2 (i j : Nat)
  | un (is : List Nat) (e : CE)
  | app (i : Nat) (e : CE)
  | put (i : Nat) (k e : CE)
  | aug (f : Prim) (i : Nat) (e : CE)
  | ite (t : CE) (a b : List CS)
  | whl (t : CE) (b : List CS)
  | for (is : List Nat) (s : Src) (as : List CE) (b : List CS)
  | ret (e : CE)
  | ret0
  | rs (c : EC) (e : CE)
  | try (b : List CS) (hs : List (EC × Hd))
  | callR (f : CE) (as : List CE) (rs : List Nat)
  | frz (i : Nat)
  | bad
  deriving Inhabited

def FV.truth : FV → Option Bool
  | .none => some false
  | .bool b => some b
  | .int i => some (i != 0)
  | .str x => some (x.length != 0)
  | .bytes b => some (!b.isEmpty)
  | .lst l => some (!l.isEmpty)
  | .tup l => some (!l.isEmpty)
  | _ => Option.none

def big : Nat := 16777216

/-- a slice's end, held against a length -/
def clip (n : Nat) (i : Int) : Nat := if i < 0 then (max 0 (i + n)).toNat else min i.toNat n
def cut {α : Type} (l : List α) (a b : Int) : List α := (l.drop (clip l.length a)).take (clip l.length b - clip l.length a)

def le4 (x : Int) : List UInt8 :=
  let y := (x % 4294967296).toNat
  [(y % 256).toUInt8, (y / 256 % 256).toUInt8, (y / 65536 % 256).toUInt8, (y / 16777216 % 256).toUInt8]

def unLE : List UInt8 → Nat
  | [] => 0
  | b :: r => b.toNat + 256 * unLE r
def ofLE (l : List UInt8) (signed : Bool) : Int :=
  if signed && decide (2 * unLE l ≥ 256 ^ l.length) && !l.isEmpty then (unLE l : Int) - (256 ^ l.length : Nat) else (unLE l : Int)

/-! ## the built-in operations -/
/-- which of the text's own names are classes -/
def clsB (c : Nat) : Bool := c == 100 || c == 103 || c == 105 || c == 106 || c == 107 || c == 108
def typB (n : String) : Bool := ["bool", "int", "str", "bytes", "list", "tuple", "dict"].contains n
def isiOne : FV → FV → Option Bool
  | .none, .typ n => if typB n then some false else Option.none
  | .bool _, .typ n => if typB n then some (n == "bool" || n == "int") else Option.none
  | .int _, .typ n => if typB n then some (n == "int") else Option.none
  | .str _, .typ n => if typB n then some (n == "str") else Option.none
  | .bytes _, .typ n => if typB n then some (n == "bytes") else Option.none
  | .tup _, .typ n => if typB n then some (n == "tuple") else Option.none
  | .lst _, .typ n => if typB n then some (n == "list") else Option.none
  | .dct _, .typ n => if typB n then some (n == "dict") else Option.none
  | .code _, .typ n => if typB n then some false else Option.none
  | .none, .gl c => if clsB c then some false else Option.none
  | .bool _, .gl c => if clsB c then some false else Option.none
  | .int _, .gl c => if clsB c then some false else Option.none
  | .str _, .gl c => if clsB c then some false else Option.none
  | .bytes _, .gl c => if clsB c then some false else Option.none
  | .tup _, .gl c => if clsB c then some false else Option.none
  | .lst _, .gl c => if clsB c then some false else Option.none
  | .dct _, .gl c => if clsB c then some false else Option.none
  | .code _, .gl c => if clsB c then some (c == 100) else Option.none
  | .gl i, .gl c => if i == 102 && c == 103 then some true else Option.none
  | _, _ => Option.none

def refV : FV → Bool
  | .gl _ => true
  | .typ _ => true
  | _ => false
def isiAny (v : FV) : List FV → Option Bool
  | [] => if refV v then Option.none else some false
  | c :: r => match isiOne v c with
    | some true => some true
    | some false => isiAny v r
    | Option.none => Option.none

def dctGet (l : List (Str × FV)) (k : Str) : Option FV := (l.find? fun p => p.1 == k).map (·.2)
def dctPut : List (Str × FV) → Str → FV → List (Str × FV)
  | [], k, v => [(k, v)]
  | p :: r, k, v => if p.1 == k then (p.1, v) :: r else p :: dctPut r k v

def allInts : List FV → Option (List Int)
  | [] => some []
  | .int i :: r => (allInts r).map (i :: ·)
  | _ :: _ => Option.none
def allBools : List FV → Option (List Bool)
  | [] => some []
  | .bool b :: r => (allBools r).map (b :: ·)
  | _ :: _ => Option.none
def allStrs : List FV → Option (List Str)
  | [] => some []
  | .str b :: r => (allStrs r).map (b :: ·)
  | _ :: _ => Option.none
def allBytes : List FV → Option (List (List UInt8))
  | [] => some []
  | .bytes b :: r => (allBytes r).map (b :: ·)
  | _ :: _ => Option.none

def smallInt (i : Int) : Bool := decide (-(2 ^ 62) ≤ i) && decide (i < 2 ^ 62)
def okBytes (b : List UInt8) : Res FV := if b.length ≤ big then .ok (.bytes b) else .no
def okStr (x : Str) : Res FV := if x.length ≤ big then .ok (.str x) else .no
def repStr (x : Str) (n : Nat) : Str := ⟨((List.replicate n x.cps.toList).flatten).toArray⟩

/-- the texts whose octets are known: ASCII, and one of four signs repeated -/
def encSign (n : Nat) : Option (List UInt8) :=
  if n < 128 then some [n.toUInt8] else if n = 233 then some [195, 169] else if n = 8364 then some [226, 130, 172] else if n = 128512 then some [240, 159, 152, 128] else Option.none
def encSigns : List Nat → Option (List UInt8)
  | [] => some []
  | n :: r => match encSign n, encSigns r with
    | some a, some b => some (a ++ b)
    | _, _ => Option.none

def decSigns : List UInt8 → Option (List Nat)
  | [] => some []
  | a :: r =>
    if a < 128 then (decSigns r).map (a.toNat :: ·)
    else match a, r with
      | 195, b :: r => if b = 169 then (decSigns r).map (233 :: ·) else Option.none
      | 226, b :: c :: r => if b = 130 ∧ c = 172 then (decSigns r).map (8364 :: ·) else Option.none
      | 240, b :: c :: d :: r => if b = 159 ∧ c = 152 ∧ d = 128 then (decSigns r).map (128512 :: ·) else Option.none
      | _, _ => Option.none

def digitsOf (n : Nat) : List Nat := (Nat.toDigits 10 n).map Char.toNat

/-- the table of getters: those that are followed, those that are not, and no such key -/
def getterOf (i : Int) : Option (Res FV) :=
  if i = 2 then some (.ok (.gl 35)) else if i = 3 then some (.ok (.gl 36)) else if i = 4 then some (.ok (.gl 37)) else if i = 5 then some (.ok (.gl 38))
  else if i = 13 then some (.ok (.gl 40)) else if i = 16 then some (.ok (.gl 41))
  else if i = 102 then Option.none else some .no

def evP : Prim → List FV → Res FV
  | .add, [.int a, .int b] => .ok (.int (a + b))
  | .add, [.bytes a, .bytes b] => okBytes (a ++ b)
  | .add, [.str a, .str b] => okStr (a ++ b)
  | .sub, [.int a, .int b] => .ok (.int (a - b))
  | .mul, [.int a, .int b] => if smallInt b then .ok (.int (a * b)) else .no
  | .mul, [.bytes a, .int n] => if decide (a.length ≤ 16) && !a.isEmpty && decide (0 ≤ n) && decide (n ≤ 1000) then .ok (.bytes (List.replicate n.toNat a).flatten) else .no
  | .mul, [.str a, .int n] => if decide (a.length = 1) && decide (0 ≤ n) && decide (n ≤ 1000) then .ok (.str (repStr a n.toNat)) else .no
  | .div, [.int a, .int b] => if decide (0 < b) && decide (b < 2 ^ 29) then .ok (.int (a.fdiv b)) else .no
  | .mod, [.int a, .int b] => if decide (0 < b) && decide (b < 2 ^ 33) then .ok (.int (a.fmod b)) else .no
  | .lt, [.int a, .int b] => .ok (.bool (decide (a < b)))
  | .le, [.int a, .int b] => .ok (.bool (decide (a ≤ b)))
  | .gt, [.int a, .int b] => .ok (.bool (decide (a > b)))
  | .ge, [.int a, .int b] => .ok (.bool (decide (a ≥ b)))
  | .eq, [.int a, .int b] => .ok (.bool (decide (a = b)))
  | .ne, [.int a, .int b] => .ok (.bool (!decide (a = b)))
  | .eq, [.bytes a, .bytes b] => .ok (.bool (a == b))
  | .ne, [.bytes a, .bytes b] => .ok (.bool (a != b))
  | .eq, [.str a, .str b] => .ok (.bool (decide (a = b)))
  | .ne, [.str a, .str b] => .ok (.bool (!decide (a = b)))
  | .eq, [.code a, .code b] => .ok (.bool (decide (a = b)))
  | .eq, [.lst a, .lst b] => match allStrs a, allStrs b with
    | some x, some y => .ok (.bool (decide (x = y)))
    | _, _ => match allBools a, allBools b with
      | some x, some y => .ok (.bool (decide (x = y)))
      | _, _ => .no
  | .isNone, [.none] => .ok (.bool true)
  | .isNone, [_] => .ok (.bool false)
  | .isNotNone, [.none] => .ok (.bool false)
  | .isNotNone, [_] => .ok (.bool true)
  | .inn, [.str a, .str b] => if decide (a.length = 1) then .ok (.bool (b.cps.toList.contains (a.cps.toList.headD 0))) else .no
  | .inn, [.int a, .tup l] => match allInts l with | some is => .ok (.bool (is.contains a)) | Option.none => .no
  | .inn, [.str a, .dct l] => .ok (.bool (dctGet l a).isSome)
  | .not, [v] => match v.truth with | some b => .ok (.bool !b) | Option.none => .no
  | .truth, [v] => match v.truth with | some b => .ok (.bool b) | Option.none => .no
  | .len, [.bytes b] => .ok (.int b.length)
  | .len, [.str b] => .ok (.int b.length)
  | .len, [.lst l] => .ok (.int l.length)
  | .len, [.tup l] => .ok (.int l.length)
  | .idx, [.tup l, .int i] => if decide (0 ≤ i) then (match l[i.toNat]? with | some v => .ok v | Option.none => .no) else .no
  | .idx, [.lst l, .int i] => if decide (0 ≤ i) then (match l[i.toNat]? with | some v => .ok v | Option.none => .no) else .no
  | .idx, [.bytes l, .int i] => if decide (0 ≤ i) then (match l[i.toNat]? with | some v => .ok (.int v.toNat) | Option.none => .no) else .no
  | .idx, [.gl g, .int i] => if g = 101 then (match getterOf i with | some r => r | Option.none => .exc ⟨.blt "KeyError", Option.none⟩) else .no
  | .idx, [.dct l, .str k] => match dctGet l k with | some v => .ok v | Option.none => .no
  | .slAB, [.bytes l, .int a, .int b] => if decide (0 ≤ a) && decide (0 ≤ b) && smallInt a && smallInt b then .ok (.bytes ((l.take b.toNat).drop a.toNat)) else .no
  | .slA, [.bytes l, .int a] => if decide (0 ≤ a) && smallInt a then .ok (.bytes (l.drop a.toNat)) else .no
  | .slB, [.bytes l, .int b] => if decide (0 ≤ b) && smallInt b then .ok (.bytes (l.take b.toNat)) else .no
  | .slB, [.lst l, .int b] => if decide (0 ≤ b) && smallInt b then .ok (.lst (l.take b.toNat)) else .no
  | .mkTup, l => if l.length ≤ 1000 then .ok (.tup l) else .no
  | .mkLst, l => if l.length ≤ 1000 then .ok (.lst l) else .no
  | .isi cs, [v] => match isiAny v cs with | some b => .ok (.bool b) | Option.none => .no
  | .min2, [.int a, .int b] => .ok (.int (if b < a then b else a))
  | .max2, [.int a, .int b] => .ok (.int (if b > a then b else a))
  | .sum, [.lst l] => match allInts l with | some is => .ok (.int is.sum) | Option.none => .no
  | .all, [.lst l] => match allBools l with | some bs => .ok (.bool (bs.all id)) | Option.none => .no
  | .strInt, [.int i] => if decide (0 ≤ i) && decide (i < 1000) then .ok (.str ⟨(digitsOf i.toNat).toArray⟩) else .no
  | .tupleOf, [.lst l] => .ok (.tup l)
  | .listOf, [.dct l] => if l.all (fun p => decide (p.1.length ≤ 1000)) then .ok (.lst (l.map fun p => .str p.1)) else .no
  | .bytesOf, [.lst l] => match allInts l with
    | some is => if is.all (fun i => decide (0 ≤ i) && decide (i < 256)) then .ok (.bytes (is.map fun i => i.toNat.toUInt8)) else .no
    | Option.none => .no
  | .join, [.lst l] => match allBytes l with | some bs => okBytes bs.flatten | Option.none => .no
  | .enc, [.str x] => match encSigns x.cps.toList with | some b => okBytes b | Option.none => .no
  | .dec, [.bytes b] => match decSigns b with | some x => okStr ⟨x.toArray⟩ | Option.none => .no
  | .toB sg, [.int i] => if (if sg then decide (-2147483648 ≤ i) && decide (i < 2147483648) else decide (0 ≤ i) && decide (i < 4294967296)) then .ok (.bytes (le4 i)) else .no
  | .fromB, [.bytes b, .bool sg] => if decide (b.length ≤ 8) then .ok (.int (ofLE b sg)) else .no
  | .get, [.dct l, .str k] => .ok ((dctGet l k).getD .none)
  | .attr n, [.code x] => if n = "text" then .ok (.str x) else if n = "scope" then .ok .none else .no
  | .attr n, [.gl i] => if i = 102 ∧ n = "unicode_decode_error_handler" then .ok (.str (Str.ofString "strict")) else .no
  | .mkCode, [.str x] => .ok (.code x)
  | _, _ => .no

def srcItems : Src → List FV → Res (List FV)
  | .lst, [.lst l] => .ok l
  | .lst, [.tup l] => .ok l
  | .rng1, [.int n] => if smallInt n then .ok ((List.range n.toNat).map fun (i : Nat) => FV.int (i : Int)) else .no
  | .rng2, [.int a, .int b] => if smallInt a && smallInt b then .ok ((List.range (b - a).toNat).map fun (i : Nat) => FV.int (a + (i : Int))) else .no
  | .items, [.dct l] => if l.all (fun p => decide (p.1.length ≤ 1000)) then .ok (l.map fun p => .tup [.str p.1, p.2]) else .no
  | .enum, [.lst l] => .ok (l.zipIdx.map fun p => .tup [.int p.2, p.1])
  | .enum, [.tup l] => .ok (l.zipIdx.map fun p => .tup [.int p.2, p.1])
  | _, _ => .no

/-- what a target of m names takes of an item -/
def spread (m : Nat) (v : FV) : Option (List FV) := if m = 0 then some [v] else match v with
  | .tup l => if l.length = m then some l else Option.none
  | _ => Option.none

abbrev Env' := List (Option LV)
def getV (ρ : Env') (i : Nat) : Res FV := match ρ[i]? with
  | some (some (.fv v)) => .ok v
  | _ => .no
def getL (ρ : Env') (i : Nat) : Option (List FV) := match ρ[i]? with
  | some (some (.ml l)) => some l
  | _ => Option.none
def getD' (ρ : Env') (i : Nat) : Option (List (Str × FV)) := match ρ[i]? with
  | some (some (.md l)) => some l
  | _ => Option.none

abbrev CallT := FV → List LV → Res (FV × List (Option LV))

/-- the same element after element -/
def mapRes {α β : Type} (f : α → Res β) : List α → Res (List β)
  | [] => .ok []
  | a :: r => (f a).bind fun b => (mapRes f r).bind fun bs => .ok (b :: bs)

mutual
def evE (C : CallT) (ρ : Env') (γ : List FV) : CE → Res FV
  | .k v => .ok v
  | .v i => getV ρ i
  | .c i => match γ[i]? with | some v => .ok v | Option.none => .no
  | .lenv i => match getL ρ i with | some l => .ok (.int l.length) | Option.none => .no
  | .p f as => (evEs C ρ γ as).bind (evP f)
  | .and a b => (evE C ρ γ a).bind fun v => match v.truth with | some true => evE C ρ γ b | some false => .ok v | Option.none => .no
  | .or a b => (evE C ρ γ a).bind fun v => match v.truth with | some true => .ok v | some false => evE C ρ γ b | Option.none => .no
  | .ife t a b => (evE C ρ γ t).bind fun v => match v.truth with | some true => evE C ρ γ a | some false => evE C ρ γ b | Option.none => .no
  | .chn a o₁ b o₂ c => (evE C ρ γ a).bind fun x => (evE C ρ γ b).bind fun y => (evP o₁ [x, y]).bind fun r => match r with
      | .bool true => (evE C ρ γ c).bind fun z => evP o₂ [y, z]
      | .bool false => .ok (.bool false)
      | _ => .no
  | .call f as => (evE C ρ γ f).bind fun g => (evEs C ρ γ as).bind fun vs => (C g (vs.map .fv)).bind fun r => .ok r.1
  | .comp e m s as => (evEs C ρ γ as).bind fun vs => (srcItems s vs).bind fun xs => if 1000000 < xs.length then .no else
      match mapRes (fun x => match spread m x with | some γ' => evE C ρ γ' e | Option.none => .no) xs with | .ok ys => .ok (.lst ys) | _ => .no
  | .bad => .no
def evEs (C : CallT) (ρ : Env') (γ : List FV) : List CE → Res (List FV)
  | [] => .ok []
  | e :: r => (evE C ρ γ e).bind fun v => (evEs C ρ γ r).bind fun vs => .ok (v :: vs)
end

inductive Fl where
  | next
  | ret (v : FV)
  deriving Inhabited

inductive SR where
  | ok (f : Fl) (ρ : Env')
  | exc (e : EK) (ρ : Env')
  | no
  deriving Inhabited

def setV (ρ : Env') (i : Nat) (x : LV) : Env' := ρ.set i (some x)
def setAll (ρ : Env') : List Nat → List FV → Env'
  | i :: is, v :: vs => setAll (setV ρ i (.fv v)) is vs
  | _, _ => ρ

/-- what stands behind an expression -/
def thenE (r : Res FV) (ρ : Env') (f : FV → SR) : SR := match r with
  | .ok v => f v
  | .exc e => .exc e ρ
  | .no => .no

def forGo (b : Env' → SR) (is : List Nat) (m : Nat) : List FV → Env' → SR
  | [], ρ => .ok .next ρ
  | x :: r, ρ => match spread m x with
    | Option.none => .no
    | some vs => match b (setAll ρ is vs) with
      | .ok .next ρ' => forGo b is m r ρ'
      | o => o
def whlGo (t : Env' → Res FV) (b : Env' → SR) : Nat → Env' → SR
  | 0, _ => .no
  | n + 1, ρ => match t ρ with
    | .ok v => match v.truth with
      | some true => (match b ρ with
        | .ok .next ρ' => whlGo t b n ρ'
        | o => o)
      | some false => .ok .next ρ
      | Option.none => .no
    | .exc e => .exc e ρ
    | .no => .no

/-- which classes catch which, as far as the text asks -/
def matchT : EC → EC → Option Bool
  | .own 104, .own 104 => some true
  | .own 104, .blt "Exception" => some true
  | .own 104, .blt "KeyError" => some false
  | .blt "ValueError", .blt "ValueError" => some true
  | .blt "ValueError", .blt "KeyError" => some false
  | .blt "KeyError", .blt "KeyError" => some true
  | _, _ => Option.none
/-- when a handler may give its exception's words on -/
def strOk (e c : EC) : Bool := e == .blt "ValueError" && c == .own 104
def unb (ρ : Env') (i : Nat) : Bool := match ρ[i]? with | some Option.none => true | _ => false
def pick (c : EC) : List (EC × Hd) → Option (Option Hd)
  | [] => some Option.none
  | (d, h) :: r => match matchT c d with
    | some true => some (some h)
    | some false => pick c r
    | Option.none => Option.none

def whlTurns : Nat := 400

def refsOf (ρ : Env') : List Nat → Option (List LV)
  | [] => some []
  | i :: r => match ρ[i]?, refsOf ρ r with
    | some (some (.ml l)), some q => some (.ml l :: q)
    | _, _ => Option.none
def putBack (ρ : Env') : List Nat → List (Option LV) → Option Env'
  | [], [] => some ρ
  | i :: is, some (.ml l) :: r => putBack (setV ρ i (.ml l)) is r
  | _, _ => Option.none

mutual
def exS (C : CallT) (ρ : Env') : CS → SR
  | .ex e => thenE (evE C ρ [] e) ρ fun _ => .ok .next ρ
  | .set i e => thenE (evE C ρ [] e) ρ fun v => .ok .next (setV ρ i (.fv v))
  | .ml0 i => .ok .next (setV ρ i (.ml []))
  | .md0 i => .ok .next (setV ρ i (.md []))
  | .ml2 i j => .ok .next (setV (setV ρ i (.ml [])) j (.ml []))
  | .un is e => thenE (evE C ρ [] e) ρ fun v => match spread is.length v with
      | some vs => .ok .next (setAll ρ is vs)
      | Option.none => .no
  | .app i e => match getL ρ i with
      | some l => thenE (evE C ρ [] e) ρ fun v => if l.length < 1000000 then .ok .next (setV ρ i (.ml (l ++ [v]))) else .no
      | Option.none => .no
  | .put i k e => match getD' ρ i with
      | some l => thenE (evE C ρ [] e) ρ fun v => thenE (evE C ρ [] k) ρ fun q => match q with
        | .str x => if l.length < 1000 then .ok .next (setV ρ i (.md (dctPut l x v))) else .no
        | _ => .no
      | Option.none => .no
  | .aug f i e => thenE (getV ρ i) ρ fun a => match a with
      | .int _ => thenE (evE C ρ [] e) ρ fun b => thenE (evP f [a, b]) ρ fun v => .ok .next (setV ρ i (.fv v))
      | _ => .no
  | .ite t a b => thenE (evE C ρ [] t) ρ fun v => match v.truth with
      | some true => exSs C ρ a
      | some false => exSs C ρ b
      | Option.none => .no
  | .whl t b => whlGo (fun ρ => evE C ρ [] t) (fun ρ => exSs C ρ b) whlTurns ρ
  | .for is s as b => match (evEs C ρ [] as).bind (srcItems s) with
      | .ok xs => forGo (fun ρ => exSs C ρ b) is (if is.length = 1 then 0 else is.length) xs ρ
      | .exc e => .exc e ρ
      | .no => .no
  | .ret e => thenE (evE C ρ [] e) ρ fun v => .ok (.ret v) ρ
  | .ret0 => .ok (.ret .none) ρ
  | .rs c e => thenE (evE C ρ [] e) ρ fun v => match v with
      | .str x => .exc ⟨c, some x⟩ ρ
      | _ => .no
  | .try b hs => match exSs C ρ b with
      | .exc e ρ' => (match pick e.cls hs with
        | some (some (.raiseStr i c)) => if strOk e.cls c && unb ρ' i then (match e.msg with | some x => .exc ⟨c, some x⟩ ρ' | Option.none => .no) else .no
        | some (some (.unk i j)) => if e.cls == .blt "KeyError" then (match getV ρ' i, getV ρ' j with
          | .ok (.int x), .ok (.str y) => if decide (x = 102) && decide (y.length ≤ 1000) then .exc ⟨.own 104, Option.none⟩ ρ' else .no
          | _, _ => .no) else .no
        | some (some .again) => .exc e ρ'
        | some (some (.ret v)) => .ok (.ret v) ρ'
        | some (some .other) => .no
        | some Option.none => .exc e ρ'
        | Option.none => .no)
      | o => o
  | .callR f as rs => match evE C ρ [] f, evEs C ρ [] as, refsOf ρ rs with
      | .ok g, .ok vs, some ls => (match C g (vs.map .fv ++ ls) with
        | .ok (_, outs) => (match putBack ρ rs (outs.drop vs.length) with
          | some ρ' => .ok .next ρ'
          | Option.none => .no)
        | _ => .no)
      | _, _, _ => .no
  | .frz i => match ρ[i]? with
      | some (some (.ml l)) => .ok .next (setV ρ i (.fv (.lst l)))
      | some (some (.md l)) => .ok .next (setV ρ i (.fv (.dct l)))
      | _ => .no
  | .bad => .no
def exSs (C : CallT) (ρ : Env') : List CS → SR
  | [] => .ok .next ρ
  | s :: r => match exS C ρ s with
    | .ok .next ρ' => exSs C ρ' r
    | o => o
end

structure Fn where
  np : Nat
  nv : Nat
  dflt : List FV
  body : List CS

def fillArgs (f : Fn) (args : List LV) : Option Env' :=
  let miss := f.np - args.length
  if args.length ≤ f.np ∧ miss ≤ f.dflt.length then
    some ((args.map some ++ (f.dflt.drop (f.dflt.length - miss)).map fun v => some (.fv v)) ++ List.replicate (f.nv - f.np) Option.none)
  else Option.none

def runFn (C : CallT) (f : Fn) (args : List LV) : Res (FV × List (Option LV)) := match fillArgs f args with
  | some ρ => (match exSs C ρ f.body with
    | .ok (.ret v) ρ' => .ok (v, ρ'.take args.length)
    | .ok .next ρ' => .ok (.none, ρ'.take args.length)
    | .exc e _ => .exc e
    | .no => .no)
  | Option.none => .no

def callN (T : Nat → Option Fn) : Nat → CallT
  | 0, _, _ => .no
  | n + 1, .gl i, args => match T i with
    | some f => runFn (callN T n) f args
    | Option.none => .no
  | _ + 1, _, _ => .no

end Mine
end

section
open PySem
namespace Mine
open CE CS Prim
abbrev S' (x : String) : FV := .str (Str.ofString x)
abbrev I' (i : Int) : CE := .k (.int i)
abbrev B' (l : List UInt8) : CE := .k (.bytes l)
abbrev G' (i : Nat) : CE := .k (.gl i)

-- _law_digits(k)
def f0 : Fn := ⟨1, 1, [], [ret (ife (p lt [v 0, I' 10]) (p bytesOf [p mkLst [p add [I' 48, v 0]]])
  (p add [call (G' 0) [p div [v 0, I' 10]], p bytesOf [p mkLst [p add [I' 48, p mod [v 0, I' 10]]]]]))]⟩
-- _law_four(number)
def f1 : Fn := ⟨1, 1, [], [ret (p (toB false) [p mod [v 0, I' 4294967296]])]⟩
-- _law_text(kind, unit, count)
def f2 : Fn := ⟨3, 3, [], [ret (p mkTup [v 0, p mkTup [v 1, v 2], p add [I' 5, p mul [p add [v 1, I' 1], v 2]]])]⟩
-- _law_box(kind, pairs)
def f3 : Fn := ⟨2, 2, [], [ret (p mkTup [v 0, v 1, p add [I' 5, p sum [comp (p add [p add [I' 2, p len [c 0]], p idx [c 1, I' 2]]) 2 .lst [v 1]]]])]⟩
-- _law_list(nodes)
def f4 : Fn := ⟨1, 1, [], [ret (call (G' 3) [I' 4, comp (p mkTup [call (G' 0) [c 0], p idx [v 0, c 0]]) 0 .rng1 [p len [v 0]]])]⟩
-- _law_make(pick, m, budget) node k
def f5 : Fn := ⟨3, 5, [], [
  ite (p eq [v 0, I' 0]) [set 3 (call (G' 4) [comp (p mkTup [I' 16, p sub [p mod [p mul [v 1, p add [c 0, I' 1]], I' 4294967296], I' 2147483648], I' 4]) 0 .rng1
      [p min2 [v 2, p idx [.k (.tup [.int 3, .int 12, .int 104, .int 11, .int 1, .int 0, .int 27]), p mod [v 1, I' 7]]]]])]
    [ite (p eq [v 0, I' 1]) [set 3 (call (G' 2) [I' 2, p mod [v 1, I' 4], p mod [p mul [v 1, I' 61], I' 331]])]
      [ite (p eq [v 0, I' 2]) [set 3 (p mkTup [I' 5, p mkTup [I' 0, p mod [p mul [v 1, I' 61], I' 700]], p add [I' 5, p mod [p mul [v 1, I' 61], I' 700]]])]
        [ite (p eq [v 0, I' 3]) [set 3 (call (G' 2) [I' 13, p mod [v 1, I' 4], p mod [p mul [v 1, I' 61], I' 331]])]
          [set 3 (call (G' 4) [comp (call (G' 2) [I' 2, p mod [c 0, I' 4], p mod [p add [v 1, p mul [I' 37, c 0]], I' 150]]) 0 .rng1 [p min2 [v 2, p mod [v 1, I' 14]]]])]]]],
  .for [4] .rng1 [p mod [p div [v 1, I' 7], I' 4]] [set 3 (ife (p mod [p add [v 4, v 1], I' 2]) (call (G' 4) [p mkLst [v 3]]) (call (G' 3) [I' 3, p mkLst [p mkTup [B' [102], v 3]]]))],
  ret (v 3)]⟩
abbrev units : CE := .k (.tup [.str ⟨#[97]⟩, .str ⟨#[233]⟩, .str ⟨#[8364]⟩, .str ⟨#[128512]⟩])
abbrev raws : CE := .k (.tup [.bytes [97], .bytes [195, 169], .bytes [226, 130, 172], .bytes [240, 159, 152, 128]])
abbrev counts : CE := .k (.tup [.int 3, .int 12, .int 104, .int 11, .int 1, .int 0, .int 27])
-- _law_value(node) kind held size items document name one
def f6 : Fn := ⟨1, 8, [], [
  un [1, 2, 3] (v 0),
  ite (p eq [v 1, I' 16]) [ret (v 2)] [],
  ite (p eq [v 1, I' 5]) [ret (p mul [B' [102], p idx [v 2, I' 1]])] [],
  ite (p eq [v 1, I' 2]) [ret (p mul [p idx [units, p idx [v 2, I' 0]], p idx [v 2, I' 1]])] [],
  ite (p eq [v 1, I' 13]) [ret (p mkCode [p mul [p idx [units, p idx [v 2, I' 0]], p idx [v 2, I' 1]]])] [],
  ite (p eq [v 1, I' 4]) [set 4 (comp (call (G' 6) [c 1]) 2 .lst [v 2]), ret (ife (p mod [v 3, I' 2]) (p tupleOf [v 4]) (v 4))] [],
  md0 5,
  .for [6, 7] .lst [v 2] [put 5 (p dec [v 6]) (call (G' 6) [v 7])],
  frz 5,
  ret (v 5)]⟩
-- _law_lay(node, at, out, places) kind held size told name one
def f7 : Fn := ⟨4, 10, [], [
  un [4, 5, 6] (v 0),
  ite (p eq [v 4, I' 16]) [app 2 (call (G' 1) [v 5]), ret0] [],
  set 7 (ife (and (p lt [v 4, I' 5]) (p ne [v 4, I' 2])) (v 6) (ife (p eq [v 4, I' 5]) (p sub [v 6, I' 5]) (p sub [v 6, I' 4]))),
  app 3 (p mkTup [v 1, v 7]),
  app 2 (call (G' 1) [v 7]),
  ite (p eq [v 4, I' 5]) [app 2 (p add [B' [0], p mul [B' [102], p idx [v 5, I' 1]]])]
    [ite (or (p eq [v 4, I' 2]) (p eq [v 4, I' 13])) [app 2 (p add [p mul [p idx [raws, p idx [v 5, I' 0]], p idx [v 5, I' 1]], B' [0]])]
      [set 1 (p add [v 1, I' 4]),
       .for [8, 9] .lst [v 5] [
         app 2 (p add [p add [p bytesOf [p mkLst [p idx [v 9, I' 0]]], v 8], B' [0]]),
         callR (G' 7) [v 9, p add [p add [v 1, p len [v 8]], I' 2]] [2, 3],
         set 1 (p add [p add [p add [v 1, p len [v 8]], I' 2], p idx [v 9, I' 2]])],
       app 2 (B' [0])]]]⟩
-- _law_like(got, node) kind held size names text
def f8 : Fn := ⟨2, 7, [], [
  un [2, 3, 4] (v 1),
  ite (p eq [v 2, I' 16]) [ret (and (p (isi [.typ "int"]) [v 0]) (and (p not [p (isi [.typ "bool"]) [v 0]]) (p eq [v 0, v 3])))] [],
  ite (p eq [v 2, I' 4]) [ret (and (p (isi [.typ "list"]) [v 0]) (and (p eq [p len [v 0], p len [v 3]]) (p all [comp (call (G' 8) [p idx [v 0, c 0], p idx [p idx [v 3, c 0], I' 1]]) 0 .rng1 [p len [v 3]]])))] [],
  ite (p eq [v 2, I' 3]) [set 5 (comp (p dec [c 0]) 2 .lst [v 3]),
    ret (and (p (isi [.typ "dict"]) [v 0]) (and (p eq [p listOf [v 0], v 5]) (p all [comp (call (G' 8) [p idx [v 0, p idx [v 5, c 0]], p idx [p idx [v 3, c 0], I' 1]]) 0 .rng1 [p len [v 3]]])))] [],
  ite (p eq [v 2, I' 5]) [ret (and (p (isi [.typ "bytes"]) [v 0]) (p eq [v 0, p mul [B' [102], p idx [v 3, I' 1]]]))] [],
  set 6 (p mul [p idx [units, p idx [v 3, I' 0]], p idx [v 3, I' 1]]),
  ret (ife (p eq [v 2, I' 2]) (and (p (isi [.typ "str"]) [v 0]) (p eq [v 0, v 6])) (and (p (isi [.gl 100]) [v 0]) (p eq [v 0, p mkCode [v 6]])))]⟩
-- law(script) budget pairs n node whole out places octets seed at told other
def f9 : Fn := ⟨1, 13, [], [
  set 1 (I' 104),
  ml0 2,
  .for [3] .lst [p slB [v 0, I' 7]] [
    set 4 (call (G' 5) [p mod [v 3, I' 5], p div [v 3, I' 5], v 1]),
    set 1 (p max2 [I' 0, p sub [v 1, ife (p eq [p mod [v 3, I' 5], I' 0]) (p idx [counts, p mod [p div [v 3, I' 5], I' 7]]) (ife (p eq [p mod [v 3, I' 5], I' 4]) (p mod [p div [v 3, I' 5], I' 14]) (I' 0))]]),
    app 2 (p mkTup [p add [B' [102], call (G' 0) [lenv 2]], v 4])],
  frz 2,
  set 5 (call (G' 3) [I' 3, v 2]),
  ml2 6 7,
  callR (G' 7) [v 5, I' 0] [6, 7],
  frz 6,
  frz 7,
  set 8 (p join [v 6]),
  ite (or (p ne [call (G' 10) [call (G' 6) [v 5]], v 8]) (p not [call (G' 8) [call (G' 24) [v 8], v 5]])) [ret (.k (.bool false))] [],
  set 9 (p sum [p slB [v 0, I' 7]]),
  un [10, 11] (p idx [v 7, p mod [v 9, p len [v 7]]]),
  set 12 (p add [p add [p slB [v 8, v 10], call (G' 1) [ife (p mod [p div [v 9, I' 64], I' 2]) (p add [v 11, I' 1]) (p sub [v 11, I' 1])]], p slA [v 8, p add [v 10, I' 4]]]),
  ret (p eq [comp (call (G' 43) [c 0]) 0 .lst [p mkTup [v 12, p slB [v 8, p mod [v 9, p len [v 8]]], p add [v 8, B' [0]]]], p mkLst [.k (.bool false), .k (.bool false), .k (.bool false)]])]⟩

-- encode(document, check_keys=False, codec_options=DEFAULT_CODEC_OPTIONS)
def f10 : Fn := ⟨3, 3, [.bool false, .gl 102], [
  ite (p not [p (isi [.gl 103]) [v 2]]) [CS.bad] [],
  ret (call (G' 11) [v 0, v 1, v 2])]⟩
-- _dict_to_bson(doc, check_keys, opts, top_level=True) elements key value encoded
def f11 : Fn := ⟨4, 9, [.bool true], [
  ite (p not [p (isi [.typ "dict"]) [v 0]]) [CS.bad] [],
  ml0 4,
  ite (and (v 3) (p inn [.k (S' "_id"), v 0])) [CS.bad] [],
  .for [5, 6] .items [v 0] [ite (or (p not [v 3]) (p ne [v 5, .k (S' "_id")])) [.try [app 4 (call (G' 12) [v 5, v 6, v 1, v 2])] [(.own 110, .other)]] []],
  frz 4,
  set 7 (p join [v 4]),
  ret (p add [p add [call (G' 23) [p add [p len [v 7], I' 5]], v 7], B' [0]])]⟩
-- _element_to_bson(key, value, check_keys, opts) name
def f12 : Fn := ⟨4, 5, [], [
  ite (p not [p (isi [.typ "str"]) [v 0]]) [CS.bad] [],
  ite (v 2) [CS.bad] [],
  set 4 (call (G' 13) [v 0]),
  ret (call (G' 15) [v 4, v 1, v 2, v 3])]⟩
-- _make_name(string)
def f13 : Fn := ⟨1, 1, [], [
  ite (p inn [.k (.str ⟨#[0]⟩), v 0]) [CS.bad] [],
  ret (p add [p idx [call (G' 14) [v 0], I' 0], B' [0]])]⟩
-- _utf_8_encode(string)
def f14 : Fn := ⟨1, 1, [], [ret (p mkTup [p enc [v 0], p len [v 0]])]⟩
-- _name_value_to_bson(name, value, check_keys, opts, in_fallback_call=False) was_integer_overflow fallback_encoder
def f15 : Fn := ⟨5, 7, [.bool false], [
  set 5 (.k (.bool false)),
  ite (p isNone [v 1]) [CS.bad] [],
  ite (p (isi [.typ "bool"]) [v 1]) [CS.bad] [],
  ite (p (isi [.typ "int"]) [v 1]) [.try [ret (call (G' 16) [v 0, v 1, v 2, v 3])] [(.blt "OverflowError", .other)]] [],
  ite (p (isi [.typ "str"]) [v 1]) [ret (call (G' 17) [v 0, v 1, v 2, v 3])] [],
  ite (p (isi [.typ "bytes"]) [v 1]) [ret (call (G' 18) [v 0, v 1, v 2, v 3])] [],
  ite (p (isi [.typ "dict"]) [v 1]) [ret (call (G' 19) [v 0, v 1, v 2, v 3])] [],
  ite (p (isi [.typ "list", .typ "tuple"]) [v 1]) [ret (call (G' 20) [v 0, v 1, v 2, v 3])] [],
  ite (p (isi [.gl 105]) [v 1]) [CS.bad] [],
  ite (p (isi [.gl 106]) [v 1]) [CS.bad] [],
  ite (p (isi [.gl 107]) [v 1]) [CS.bad] [],
  ite (p (isi [.gl 108]) [v 1]) [CS.bad] [],
  ite (p (isi [.gl 100]) [v 1]) [ret (call (G' 21) [v 0, v 1, v 2, v 3])] [],
  CS.bad]⟩
-- _encode_int(name, value, dummy0, dummy1)
def f16 : Fn := ⟨4, 4, [], [
  ite (chn (I' (-2147483648)) le (v 1) le (I' 2147483647)) [ret (p add [p add [B' [16], v 0], call (G' 23) [v 1]])] [CS.bad]]⟩
-- _encode_text(name, value, dummy0, dummy1) bvalue
def f17 : Fn := ⟨4, 5, [], [
  set 4 (p idx [call (G' 14) [v 1], I' 0]),
  ret (p add [p add [p add [p add [B' [2], v 0], call (G' 23) [p add [p len [v 4], I' 1]]], v 4], B' [0]])]⟩
-- _encode_bytes(name, value, dummy0, dummy1)
def f18 : Fn := ⟨4, 4, [], [ret (p add [p add [p add [p add [B' [5], v 0], call (G' 23) [p len [v 1]]], B' [0]], v 1])]⟩
-- _encode_mapping(name, value, check_keys, opts) data
def f19 : Fn := ⟨4, 5, [], [
  set 4 (p join [comp (call (G' 12) [c 0, c 1, v 2, v 3]) 2 .items [v 1]]),
  ret (p add [p add [p add [p add [B' [3], v 0], call (G' 23) [p add [p len [v 4], I' 5]]], v 4], B' [0]])]⟩
-- _encode_list(name, value, check_keys, opts) data
def f20 : Fn := ⟨4, 5, [], [
  set 4 (p join [comp (call (G' 15) [p enc [p add [p strInt [c 0], .k (.str ⟨#[0]⟩)]], c 1, v 2, v 3]) 2 .enum [v 1]]),
  ret (p add [p add [p add [p add [B' [4], v 0], call (G' 23) [p add [p len [v 4], I' 5]]], v 4], B' [0]])]⟩
-- _encode_code(name, value, dummy, opts) cstring cstrlen scope full_length
def f21 : Fn := ⟨4, 8, [], [
  set 4 (call (G' 22) [p (attr "text") [v 1]]),
  set 5 (p len [v 4]),
  ite (p isNone [p (attr "scope") [v 1]]) [ret (p add [p add [p add [B' [13], v 0], call (G' 23) [v 5]], v 4])] [],
  CS.bad]⟩
-- _make_c_string(string)
def f22 : Fn := ⟨1, 1, [], [
  ite (p (isi [.typ "bytes"]) [v 0]) [CS.bad] [ret (p add [p idx [call (G' 14) [v 0], I' 0], B' [0]])]]⟩
-- _PACK_INT(value)
def f23 : Fn := ⟨1, 1, [], [ret (p (toB true) [v 0])]⟩

-- decode(data, codec_options=None) opts
def f24 : Fn := ⟨2, 3, [.none], [
  set 2 (or (v 1) (G' 102)),
  ite (p not [p (isi [.gl 103]) [v 2]]) [CS.bad] [],
  ret (call (G' 25) [v 0, v 2])]⟩
-- _bson_to_dict(data, opts) view under end
def f25 : Fn := ⟨2, 5, [], [
  un [0, 2] (call (G' 26) [v 0]),
  .try [un [3, 4] (call (G' 27) [v 0, I' 0, p len [v 0]]), ret (call (G' 30) [v 0, v 2, I' 4, v 4, v 1])] [(.own 104, .again), (.blt "Exception", .other)]]⟩
-- get_data_and_view(data)
def f26 : Fn := ⟨1, 1, [], [ret (p mkTup [v 0, v 0])]⟩
-- _get_object_size(data, position, obj_end) obj_size end exc
def f27 : Fn := ⟨3, 6, [], [
  .try [set 3 (p idx [call (G' 28) [v 0, v 1], I' 0])] [(.blt "ValueError", .raiseStr 5 (.own 104))],
  set 4 (p sub [p add [v 1, v 3], I' 1]),
  ite (p ge [v 4, v 2]) [rs (.own 104) (.k (S' "invalid object length"))] [],
  ite (p ne [p idx [v 0, v 4], I' 0]) [rs (.own 104) (.k (S' "bad eoo"))] [],
  ite (and (p eq [v 1, I' 0]) (p ne [v 3, v 2])) [rs (.own 104) (.k (S' "invalid object length"))] [],
  ret (p mkTup [v 3, v 4])]⟩
-- _UNPACK_INT_FROM(data, position)
def f28 : Fn := ⟨2, 2, [], [ret (p mkTup [call (G' 29) [v 0, v 1, I' 4, .k (.bool true)]])]⟩
-- _unpack(data, position, size, signed)
def f29 : Fn := ⟨4, 4, [], [
  ite (p gt [p add [v 1, v 2], p len [v 0]]) [rs (.blt "ValueError") (.k (S' "unpack_from requires a longer buffer"))] [],
  ret (p fromB [p slAB [v 0, v 1, p add [v 1, v 2]], v 3])]⟩
-- _elements_to_dict(data, view, position, obj_end, opts) result end key value
def f30 : Fn := ⟨5, 9, [], [
  md0 5,
  set 6 (p sub [v 3, I' 1]),
  whl (p lt [v 2, v 6]) [un [7, 8, 2] (call (G' 31) [v 0, v 1, v 2, v 3, v 4]), put 5 (v 7) (v 8)],
  ite (p ne [v 2, v 3]) [rs (.own 104) (.k (S' "bad object or element length"))] [],
  frz 5,
  ret (v 5)]⟩
-- _element_to_dict(data, view, position, obj_end, opts) element_type element_name value
def f31 : Fn := ⟨5, 8, [], [
  set 5 (p idx [v 0, v 2]),
  aug add 2 (I' 1),
  un [6, 2] (call (G' 32) [v 0, v 1, v 2, v 4]),
  .try [un [7, 2] (call (p idx [G' 101, v 5]) [v 0, v 1, v 2, v 3, v 4, v 6])] [(.blt "KeyError", .unk 5 6)],
  ret (p mkTup [v 6, v 7, v 2])]⟩
-- _get_c_string(data, view, position, opts) end
def f32 : Fn := ⟨4, 5, [], [
  set 4 (call (G' 33) [v 0, v 2]),
  ret (p mkTup [p idx [call (G' 34) [p slAB [v 1, v 2, v 4], p (attr "unicode_decode_error_handler") [v 3], .k (.bool true)], I' 0], p add [v 4, I' 1]])]⟩
-- _index_nul(data, position) k
def f33 : Fn := ⟨2, 3, [], [
  .for [2] .rng2 [v 1, p len [v 0]] [ite (p eq [p idx [v 0, v 2], I' 0]) [ret (v 2)] []],
  rs (.blt "ValueError") (.k (S' "subsection not found"))]⟩
-- _utf_8_decode(octets, errors, final)
def f34 : Fn := ⟨3, 3, [], [ret (p mkTup [p dec [v 0], p len [v 0]])]⟩
-- _get_string(data, view, position, obj_end, opts, dummy) length end
def f35 : Fn := ⟨6, 8, [], [
  set 6 (p idx [call (G' 28) [v 0, v 2], I' 0]),
  aug add 2 (I' 4),
  ite (or (p lt [v 6, I' 1]) (p lt [p sub [v 3, v 2], v 6])) [rs (.own 104) (.k (S' "invalid string length"))] [],
  set 7 (p sub [p add [v 2, v 6], I' 1]),
  ite (p ne [p idx [v 0, v 7], I' 0]) [rs (.own 104) (.k (S' "invalid end of string"))] [],
  ret (p mkTup [p idx [call (G' 34) [p slAB [v 1, v 2, v 7], p (attr "unicode_decode_error_handler") [v 4], .k (.bool true)], I' 0], p add [v 7, I' 1]])]⟩
-- _get_object(data, view, position, obj_end, opts, dummy) obj_size end obj
def f36 : Fn := ⟨6, 9, [], [
  un [6, 7] (call (G' 27) [v 0, v 2, v 3]),
  set 8 (call (G' 30) [v 0, v 1, p add [v 2, I' 4], v 7, v 4]),
  aug add 2 (v 6),
  ite (and (p (isi [.typ "str", .gl 100]) [p get [v 8, .k (S' "$ref")]]) (and CE.bad CE.bad)) [CS.bad] [],
  ret (p mkTup [v 8, v 2])]⟩
-- _get_array(data, view, position, obj_end, opts, element_name) size end result getter element_type value
def f37 : Fn := ⟨6, 12, [], [
  set 6 (p idx [call (G' 28) [v 0, v 2], I' 0]),
  set 7 (p sub [p add [v 2, v 6], I' 1]),
  ite (p ne [p idx [v 0, v 7], I' 0]) [rs (.own 104) (.k (S' "bad eoo"))] [],
  aug add 2 (I' 4),
  aug sub 7 (I' 1),
  ml0 8,
  set 9 (G' 101),
  whl (p lt [v 2, v 7]) [
    set 10 (p idx [v 0, v 2]),
    set 2 (p add [call (G' 33) [v 0, v 2], I' 1]),
    .try [un [11, 2] (call (p idx [v 9, v 10]) [v 0, v 1, v 2, v 3, v 4, v 5])] [(.blt "KeyError", .unk 10 5)],
    app 8 (v 11)],
  ite (p ne [v 2, p add [v 7, I' 1]]) [rs (.own 104) (.k (S' "bad array length"))] [],
  frz 8,
  ret (p mkTup [v 8, p add [v 2, I' 1]])]⟩
-- _get_binary(data, _view, position, obj_end, opts, dummy1) length subtype length2 end uuid_rep binary_value value
def f38 : Fn := ⟨6, 13, [], [
  un [6, 7] (call (G' 39) [v 0, v 2]),
  aug add 2 (I' 5),
  ite (p eq [v 7, I' 2]) [CS.bad] [],
  set 9 (p add [v 2, v 6]),
  ite (or (p lt [v 6, I' 0]) (p gt [v 9, v 3])) [rs (.own 104) (.k (S' "bad binary object length"))] [],
  ite (p inn [v 7, .k (.tup [.int 3, .int 4])]) [CS.bad] [],
  ite (p eq [v 7, I' 0]) [set 12 (p slAB [v 0, v 2, v 9])] [CS.bad],
  ret (p mkTup [v 12, v 9])]⟩
-- _UNPACK_LENGTH_SUBTYPE_FROM(data, position)
def f39 : Fn := ⟨2, 2, [], [ret (p mkTup [call (G' 29) [v 0, v 1, I' 4, .k (.bool true)], call (G' 29) [v 0, p add [v 1, I' 4], I' 1, .k (.bool false)]])]⟩
-- _get_code(data, view, position, obj_end, opts, element_name) code
def f40 : Fn := ⟨6, 7, [], [
  un [6, 2] (call (G' 35) [v 0, v 1, v 2, v 3, v 4, v 5]),
  ret (p mkTup [p mkCode [v 6], v 2])]⟩
-- _get_int(data, _view, position, dummy0, dummy1, dummy2)
def f41 : Fn := ⟨6, 6, [], [ret (p mkTup [p idx [call (G' 28) [v 0, v 2], I' 0], p add [v 2, I' 4]])]⟩
-- is_valid(bson)
def f43 : Fn := ⟨1, 1, [], [
  ite (p not [p (isi [.typ "bytes"]) [v 0]]) [CS.bad] [],
  .try [ex (call (G' 25) [v 0, G' 102]), ret (.k (.bool true))] [(.blt "Exception", .ret (.bool false))]]⟩

def fnT : Nat → Option Fn
  | 0 => some f0 | 1 => some f1 | 2 => some f2 | 3 => some f3 | 4 => some f4 | 5 => some f5 | 6 => some f6 | 7 => some f7 | 8 => some f8 | 9 => some f9
  | 10 => some f10 | 11 => some f11 | 12 => some f12 | 13 => some f13 | 14 => some f14 | 15 => some f15 | 16 => some f16 | 17 => some f17 | 18 => some f18 | 19 => some f19
  | 20 => some f20 | 21 => some f21 | 22 => some f22 | 23 => some f23 | 24 => some f24 | 25 => some f25 | 26 => some f26 | 27 => some f27 | 28 => some f28 | 29 => some f29
  | 30 => some f30 | 31 => some f31 | 32 => some f32 | 33 => some f33 | 34 => some f34 | 35 => some f35 | 36 => some f36 | 37 => some f37 | 38 => some f38 | 39 => some f39
  | 40 => some f40 | 41 => some f41 | 43 => some f43
  | _ => none
end Mine
end

section
open PySem PySem.W PySem.Calls PyProof.Rows
namespace Mine

/-- what is fixed for the whole call -/
structure Cfg where
  prog : Program
  w : World
  base : Heap
  G : Nat → Value
  /-- the class of codes -/
  cc : Addr
  mg : Str → Option Value
  mb : Str → Option Value

def CodeAt (K : Cfg) (h : Heap) (B : Addr → Prop) (a : Addr) (y : Str) : Prop :=
  ∃ d es n, ¬ B d ∧ h.get? a = some ⟨.ref K.cc, some d, .plain, #[]⟩ ∧ h.get? d = some (dictOf es n) ∧
    (∃ t, lookIn (Str.ofString "text") (dictOf es n) = some (some (.str y t))) ∧ lookIn (Str.ofString "_scope") (dictOf es n) = some (some .none)

mutual
def RV (K : Cfg) (h : Heap) (B : Addr → Prop) : FV → Value → Prop
  | .none, x => x = .none
  | .bool b, x => x = .bool b
  | .int i, x => ∃ t, x = .int i t
  | .str y, x => y.length ≤ big ∧ ∃ t, x = .str y t
  | .bytes b, x => b.length ≤ big ∧ ∃ t, x = .bytes b.toArray t
  | .tup l, x => l.length ≤ big ∧ ∃ a vs, x = .ref a ∧ ¬ B a ∧ IsTup h a (List.toArray vs) ∧ RVs K h B l vs
  | .lst l, x => l.length ≤ big ∧ ∃ a vs, x = .ref a ∧ ¬ B a ∧ h.IsList a (List.toArray vs) ∧ RVs K h B l vs
  | .dct l, x => l.length ≤ big ∧ ∃ a kvs, x = .ref a ∧ ¬ B a ∧ (a == sysModules) = false ∧ h.DictOf (strKind K.prog K.w) a kvs ∧ RVd K h B l kvs
  | .code y, x => y.length ≤ big ∧ ∃ a, x = .ref a ∧ ¬ B a ∧ CodeAt K h B a y
  | .gl i, x => x = K.G i
  | .typ n, x => x = .type n
def RVs (K : Cfg) (h : Heap) (B : Addr → Prop) : List FV → List Value → Prop
  | [], vs => vs = []
  | f :: l, vs => ∃ x r, vs = x :: r ∧ RV K h B f x ∧ RVs K h B l r
def RVd (K : Cfg) (h : Heap) (B : Addr → Prop) : List (Str × FV) → List (Str × Value) → Prop
  | [], vs => vs = []
  | p :: l, vs => ∃ x r, vs = x :: r ∧ RVp K h B p x ∧ RVd K h B l r
def RVp (K : Cfg) (h : Heap) (B : Addr → Prop) : Str × FV → Str × Value → Prop
  | (k, f), x => x.1 = k ∧ RV K h B f x.2
end

/-- what a step keeps: fr are the frames (their slots alone may turn), X is what may change -/
structure Kp (fr : List Addr) (X : Addr → Prop) (h h' : Heap) : Prop where
  there : ∀ b o, h.get? b = some o → ∃ o', h'.get? b = some o'
  keep : ∀ b o, h.get? b = some o → ¬ X b → b ∉ fr → h'.get? b = some o
  slots : ∀ b o, h.get? b = some o → ¬ X b → b ∈ fr → ∃ sl, h'.get? b = some { o with slots := sl }

abbrev N0 : Addr → Prop := fun _ => False

theorem Kp.refl (fr : List Addr) (X : Addr → Prop) (h : Heap) : Kp fr X h h := ⟨fun _ o e => ⟨o, e⟩, fun _ _ e _ _ => e, fun _ o e _ _ => ⟨o.slots, e⟩⟩
theorem Kp.old {fr : List Addr} {X : Addr → Prop} {h h' : Heap} (k : Kp fr X h h') {b : Addr} {o : Obj} (e : h.get? b = some o) (hx : ¬ X b) : ∃ sl, h'.get? b = some { o with slots := sl } := by
  by_cases q : b ∈ fr
  · exact k.slots b o e hx q
  · exact ⟨o.slots, k.keep b o e hx q⟩
/-- what is new to the first heap may be changed freely in the second step -/
theorem Kp.trans {fr : List Addr} {X Y Z : Addr → Prop} {h₁ h₂ h₃ : Heap} (x : Kp fr X h₁ h₂) (y : Kp fr Y h₂ h₃) (hx : ∀ b, X b → Z b) (hy : ∀ b o, h₁.get? b = some o → Y b → Z b) : Kp fr Z h₁ h₃ := by
  refine ⟨fun b o e => let ⟨o', e'⟩ := x.there b o e; y.there b o' e', fun b o e nz nf => ?_, fun b o e nz nf => ?_⟩
  · exact y.keep b o (x.keep b o e (fun q => nz (hx b q)) nf) (fun q => nz (hy b o e q)) nf
  · obtain ⟨sl, e₁⟩ := x.slots b o e (fun q => nz (hx b q)) nf
    obtain ⟨sl', e₂⟩ := y.slots b _ e₁ (fun q => nz (hy b o e q)) nf
    exact ⟨sl', e₂⟩
theorem Kp.trans0 {fr : List Addr} {h₁ h₂ h₃ : Heap} (x : Kp fr N0 h₁ h₂) (y : Kp fr N0 h₂ h₃) : Kp fr N0 h₁ h₃ := x.trans y (fun _ q => q) (fun _ _ _ q => q)
theorem Kp.mono {fr : List Addr} {X Y : Addr → Prop} {h₁ h₂ : Heap} (x : Kp fr X h₁ h₂) (hx : ∀ b, X b → Y b) : Kp fr Y h₁ h₂ :=
  ⟨x.there, fun b o e n => x.keep b o e fun q => n (hx b q), fun b o e n => x.slots b o e fun q => n (hx b q)⟩
theorem Kp.of_keep {fr : List Addr} {X : Addr → Prop} {h h' : Heap} (hk : ∀ b o, h.get? b = some o → h'.get? b = some o) : Kp fr X h h' :=
  ⟨fun b o e => ⟨o, hk b o e⟩, fun b o e _ _ => hk b o e, fun b o e _ _ => ⟨o.slots, hk b o e⟩⟩
theorem Kp.push (fr : List Addr) (X : Addr → Prop) (h : Heap) (o : Obj) : Kp fr X h (h.push o) := .of_keep fun _ _ e => Heap.get?_push_of_some o e

section
variable {K : Cfg} {B B' : Addr → Prop} {h h' : Heap}

/-- the objects of a frozen value stay as they were -/
theorem codeAt_keep (hk : ∀ b o, h.get? b = some o → ¬ B b → h'.get? b = some o) (hB : ∀ b o, h.get? b = some o → B' b → B b) {a : Addr} {y : Str} (na : ¬ B a) (x : CodeAt K h B a y) : CodeAt K h' B' a y := by
  obtain ⟨d, es, n, nd, e1, e2, r⟩ := x
  exact ⟨d, es, n, fun q => nd (hB d _ e2 q), hk _ _ e1 na, hk _ _ e2 nd, r⟩
mutual
theorem RV.keep (hk : ∀ b o, h.get? b = some o → ¬ B b → h'.get? b = some o) (hB : ∀ b o, h.get? b = some o → B' b → B b) : ∀ {f : FV} {x : Value}, RV K h B f x → RV K h' B' f x
  | .none, _, r => r
  | .bool _, _, r => r
  | .int _, _, r => r
  | .str _, _, r => r
  | .bytes _, _, r => r
  | .tup l, x, r => by
    obtain ⟨sz, a, vs, rfl, nb, ⟨o, ho, q⟩, rs⟩ := r
    exact ⟨sz, a, vs, rfl, fun z => nb (hB a o ho z), ⟨o, hk _ _ ho nb, q⟩, RVs.keep hk hB rs⟩
  | .lst l, x, r => by
    obtain ⟨sz, a, vs, rfl, nb, ⟨o, ho, q⟩, rs⟩ := r
    exact ⟨sz, a, vs, rfl, fun z => nb (hB a o ho z), ⟨o, hk _ _ ho nb, q⟩, RVs.keep hk hB rs⟩
  | .dct l, x, r => by
    obtain ⟨sz, a, kvs, rfl, nb, ns, ⟨o, es, ep, ho, q⟩, rs⟩ := r
    exact ⟨sz, a, kvs, rfl, fun z => nb (hB a o ho z), ns, ⟨o, es, ep, hk _ _ ho nb, q⟩, RVd.keep hk hB rs⟩
  | .code y, x, r => by
    obtain ⟨sz, a, rfl, nb, c⟩ := r
    refine ⟨sz, a, rfl, fun z => ?_, codeAt_keep hk hB nb c⟩
    obtain ⟨d, es, n, nd, e1, _⟩ := c
    exact nb (hB a _ e1 z)
  | .gl _, _, r => r
  | .typ _, _, r => r
theorem RVs.keep (hk : ∀ b o, h.get? b = some o → ¬ B b → h'.get? b = some o) (hB : ∀ b o, h.get? b = some o → B' b → B b) : ∀ {l : List FV} {vs : List Value}, RVs K h B l vs → RVs K h' B' l vs
  | [], _, r => r
  | f :: l, vs, r => by
    obtain ⟨x, q, rfl, r1, r2⟩ := r
    exact ⟨x, q, rfl, RV.keep hk hB r1, RVs.keep hk hB r2⟩
theorem RVd.keep (hk : ∀ b o, h.get? b = some o → ¬ B b → h'.get? b = some o) (hB : ∀ b o, h.get? b = some o → B' b → B b) : ∀ {l : List (Str × FV)} {vs : List (Str × Value)}, RVd K h B l vs → RVd K h' B' l vs
  | [], _, r => r
  | p :: l, vs, r => by
    obtain ⟨x, q, rfl, r1, r2⟩ := r
    exact ⟨x, q, rfl, RVp.keep hk hB r1, RVd.keep hk hB r2⟩
theorem RVp.keep (hk : ∀ b o, h.get? b = some o → ¬ B b → h'.get? b = some o) (hB : ∀ b o, h.get? b = some o → B' b → B b) : ∀ {p : Str × FV} {x : Str × Value}, RVp K h B p x → RVp K h' B' p x
  | (_, _), _, r => ⟨r.1, RV.keep hk hB r.2⟩
end

theorem RVs.length : ∀ {l : List FV} {vs : List Value}, RVs K h B l vs → vs.length = l.length
  | [], _, r => by subst r; rfl
  | _ :: _, _, ⟨_, _, e, _, r⟩ => by subst e; rw [List.length_cons, List.length_cons, RVs.length r]
theorem RVs.get : ∀ {l : List FV} {vs : List Value}, RVs K h B l vs → ∀ {i : Nat} {f : FV}, l[i]? = some f → ∃ x, vs[i]? = some x ∧ RV K h B f x
  | [], _, _, _, _, e => by simp at e
  | g :: l, _, ⟨x, r, e, r1, r2⟩, i, f, q => by
    subst e
    cases i with
    | zero => cases q; exact ⟨x, rfl, r1⟩
    | succ i => exact RVs.get r2 (by simpa using q)
theorem RVs.append : ∀ {l l' : List FV} {vs vs' : List Value}, RVs K h B l vs → RVs K h B l' vs' → RVs K h B (l ++ l') (vs ++ vs')
  | [], _, _, _, r, r' => by subst r; exact r'
  | _ :: _, _, _, _, ⟨x, q, e, r1, r2⟩, r' => by subst e; exact ⟨x, _, rfl, r1, RVs.append r2 r'⟩
theorem RVs.one {f : FV} {x : Value} (r : RV K h B f x) : RVs K h B [f] [x] := ⟨x, [], rfl, r, rfl⟩
theorem RVs.take : ∀ {l : List FV} {vs : List Value} (n : Nat), RVs K h B l vs → RVs K h B (l.take n) (vs.take n)
  | _, _, 0, _ => by simp [RVs]
  | [], _, _ + 1, r => by subst r; simp [RVs]
  | _ :: _, _, n + 1, ⟨x, q, e, r1, r2⟩ => by subst e; exact ⟨x, _, rfl, r1, RVs.take n r2⟩
end
end Mine
end

section
open PySem PySem.W PySem.Calls PyProof.Rows
namespace Mine

abbrev frsOf (fe : Env) (outer : List Env) : List Addr := (fe :: outer).filterMap (·.frame)

/-- what holds of the machine's state while a body runs: fe is the frame at hand, outer the frames below, B what no frozen value may lean on -/
structure Inv (K : Cfg) (A : Around) (fe : Env) (outer : List Env) (B : Addr → Prop) (h : Heap) : Prop where
  stay : K.base.StaysIn h
  frs : A.frames = some (fe :: outer)
  ff : h.FunFrames K.base (fe :: outer)
  bfr : ∀ b ∈ frsOf fe outer, B b
  bb : ∀ b, B b → K.base.get? b = none ∧ ∃ o, h.get? b = some o
  hd : A.handled = none

theorem funFrames_of {h h' base : Heap} : ∀ {l : List Env}, h.FunFrames base l → (∀ b ∈ l.filterMap (·.frame), ∀ o, h.get? b = some o → (∀ vs, o.data ≠ .fields vs) → ∃ o', h'.get? b = some o' ∧ ∀ vs, o'.data ≠ .fields vs) → h'.FunFrames base l
  | [], _, _ => trivial
  | env :: rest, ⟨hk, ⟨L, o, hf, hn, ho, hd⟩, hr⟩, k => by
    obtain ⟨o', ho', hd'⟩ := k L (by rw [List.filterMap_cons, hf]; exact .head _) o ho hd
    exact ⟨hk, ⟨L, o', hf, hn, ho', hd'⟩, funFrames_of hr fun b hb => k b (by rw [List.filterMap_cons, hf]; exact .tail _ hb)⟩

section
variable {K : Cfg} {A : Around} {fe : Env} {outer : List Env} {B : Addr → Prop} {h h' : Heap}

theorem Inv.step {X : Addr → Prop} (I : Inv K A fe outer B h) (k : Kp (frsOf fe outer) X h h') (hX : ∀ b o, h.get? b = some o → X b → B b)
    (hf : ∀ b ∈ frsOf fe outer, X b → ∃ o', h'.get? b = some o' ∧ ∀ vs, o'.data ≠ .fields vs) : Inv K A fe outer B h' := by
  refine ⟨fun b o e => ?_, I.frs, ?_, I.bfr, fun b hb => ⟨(I.bb b hb).1, let ⟨o, e⟩ := (I.bb b hb).2; k.there b o e⟩, I.hd⟩
  · refine k.keep b o (I.stay b o e) (fun q => ?_) (fun q => ?_)
    · have := (I.bb b (hX b o (I.stay b o e) q)).1; rw [e] at this; cases this
    · have := (I.bb b (I.bfr b q)).1; rw [e] at this; cases this
  · refine funFrames_of I.ff fun b hb o ho hd => ?_
    by_cases q : X b
    · exact hf b hb q
    · obtain ⟨sl, e⟩ := k.slots b o ho q hb
      exact ⟨_, e, hd⟩
theorem Inv.step0 (I : Inv K A fe outer B h) (k : Kp (frsOf fe outer) N0 h h') : Inv K A fe outer B h' := I.step k (fun _ _ _ q => q.elim) fun _ _ q => q.elim

theorem RV.step0 {f : FV} {x : Value} (I : Inv K A fe outer B h) (r : RV K h B f x) (k : Kp (frsOf fe outer) N0 h h') : RV K h' B f x :=
  RV.keep (fun b o e nb => k.keep b o e (fun q => q.elim) fun q => nb (I.bfr b q)) (fun _ _ _ q => q) r
theorem RVs.step0 {f : List FV} {x : List Value} (I : Inv K A fe outer B h) (r : RVs K h B f x) (k : Kp (frsOf fe outer) N0 h h') : RVs K h' B f x :=
  RVs.keep (fun b o e nb => k.keep b o e (fun q => q.elim) fun q => nb (I.bfr b q)) (fun _ _ _ q => q) r
theorem RV.stepX {X : Addr → Prop} {f : FV} {x : Value} (I : Inv K A fe outer B h) (r : RV K h B f x) (k : Kp (frsOf fe outer) X h h') (hX : ∀ b o, h.get? b = some o → X b → B b) : RV K h' B f x :=
  RV.keep (fun b o e nb => k.keep b o e (fun q => nb (hX b o e q)) fun q => nb (I.bfr b q)) (fun _ _ _ q => q) r
theorem RVs.stepX {X : Addr → Prop} {f : List FV} {x : List Value} (I : Inv K A fe outer B h) (r : RVs K h B f x) (k : Kp (frsOf fe outer) X h h') (hX : ∀ b o, h.get? b = some o → X b → B b) : RVs K h' B f x :=
  RVs.keep (fun b o e nb => k.keep b o e (fun q => nb (hX b o e q)) fun q => nb (I.bfr b q)) (fun _ _ _ q => q) r
theorem RVd.stepX {X : Addr → Prop} {f : List (Str × FV)} {x : List (Str × Value)} (I : Inv K A fe outer B h) (r : RVd K h B f x) (k : Kp (frsOf fe outer) X h h') (hX : ∀ b o, h.get? b = some o → X b → B b) : RVd K h' B f x :=
  RVd.keep (fun b o e nb => k.keep b o e (fun q => nb (hX b o e q)) fun q => nb (I.bfr b q)) (fun _ _ _ q => q) r
end

/-- the names of a block: the def's own, and a comprehension's -/
structure Nms where
  vs : List Str
  cs : List Str

def lookV (ev : Env) (m cm : Str → Option Value) (n : Str) : Option Value := match ev.kindOf n with
  | some .local => m n
  | some .cell => if (ev.cells.lookup n).isSome then cm n else none
  | some .free => if (ev.cells.lookup n).isSome then cm n else none
  | _ => none

structure FrS (h : Heap) (ev : Env) (m cm : Str → Option Value) : Prop where
  ns : h.Ns ev.locals m
  cell : ∀ n c, ev.cells.lookup n = some c → h.IsCell c (cm n)

/-- a list and a dict that are still being made -/
def Own (K : Cfg) (h : Heap) (B : Addr → Prop) (a : Addr) : LV → Prop
  | .fv _ => False
  | .ml l => l.length ≤ big ∧ ∃ ys, h.PlainList a (List.toArray ys) ∧ RVs K h B l ys
  | .md l => l.length ≤ big ∧ ∃ kvs, (a == sysModules) = false ∧ h.DictOf (strKind K.prog K.w) a kvs ∧ RVd K h B l kvs

/-- the names of the frame, held against what stands abstractly: ow tells where what is still being made stands -/
structure EnvR (K : Cfg) (nm : Nms) (ev : Env) (h : Heap) (B : Addr → Prop) (ow : Nat → Option Addr) (ρ : Env') (γ : List FV) (m cm : Str → Option Value) : Prop where
  fr : FrS h ev m cm
  fv : ∀ (i : Nat) (n : Str) (v : FV), ρ[i]? = some (some (LV.fv v)) → nm.vs[i]? = some n → n ∉ nm.cs → ev.kindOf n ≠ none → ev.kindOf n ≠ some .globalImplicit → ∃ x, lookV ev m cm n = some x ∧ RV K h B v x
  cv : ∀ (i : Nat) (n : Str) (v : FV), γ[i]? = some v → nm.cs[i]? = some n → ∃ x, lookV ev m cm n = some x ∧ RV K h B v x
  own : ∀ (i : Nat) (n : Str) (lv : LV), ρ[i]? = some (some lv) → (∀ v, lv ≠ LV.fv v) → nm.vs[i]? = some n → ∃ a, ow i = some a ∧ (nm.cs = [] → lookV ev m cm n = some (.ref a)) ∧ B a ∧ Own K h B a lv

/-- where the block stands: its names live in ban, its frame is fe's -/
structure EvOk (fe : Env) (B : Addr → Prop) (ev : Env) : Prop where
  kind : ev.scope.kind = .function
  gl : ev.globals = mainGlobals
  bl : ev.builtins = builtinsNs
  frame : ev.frame = fe.frame
  bl' : B ev.locals
  bc : ∀ n c, ev.cells.lookup n = some c → B c
  hc : ∀ n, ev.kindOf n = some .cell → (ev.cells.lookup n).isSome = true
  apart : (ev.cells.Pairwise fun x y => x.2 ≠ y.2) ∧ ∀ n c, ev.cells.lookup n = some c → c ≠ ev.locals

section
variable {K : Cfg} {A : Around} {fe ev : Env} {outer : List Env} {B : Addr → Prop} {h h' : Heap} {nm : Nms} {ow : Nat → Option Addr} {ρ : Env'} {γ : List FV} {m cm : Str → Option Value}

theorem ns_slots {h h' : Heap} {a : Addr} {m : Str → Option Value} (x : h.Ns a m) (k : ∀ o, h.get? a = some o → ∃ sl, h'.get? a = some { o with slots := sl }) : h'.Ns a m := by
  obtain ⟨o, es, ep, ho, hd, r⟩ := x
  obtain ⟨sl, e⟩ := k o ho
  exact ⟨_, es, ep, e, hd, r⟩
theorem cell_slots {h h' : Heap} {a : Addr} {v : Option Value} (x : h.IsCell a v) (k : ∀ o, h.get? a = some o → ∃ sl, h'.get? a = some { o with slots := sl }) : h'.IsCell a v := by
  obtain ⟨o, ho, hd⟩ := x
  obtain ⟨sl, e⟩ := k o ho
  exact ⟨_, e, hd⟩
theorem FrS.step0 (F : FrS h ev m cm) (k : Kp (frsOf fe outer) N0 h h') : FrS h' ev m cm :=
  ⟨ns_slots F.ns fun o e => k.old e fun q => q, fun n c hc => cell_slots (F.cell n c hc) fun o e => k.old e fun q => q⟩

theorem list_slots {h h' : Heap} {a : Addr} {v : Array Value} (x : h.IsList a v) (k : ∀ o, h.get? a = some o → ∃ sl, h'.get? a = some { o with slots := sl }) : h'.IsList a v := by
  obtain ⟨o, ho, hc, hd⟩ := x
  obtain ⟨sl, e⟩ := k o ho
  exact ⟨_, e, hc, hd⟩

/-- what is still being made is no frame -/
def OwFree (fe : Env) (outer : List Env) (ev : Env) (ow : Nat → Option Addr) : Prop :=
  (∀ i a, ow i = some a → a ∉ frsOf fe outer ∧ a ≠ ev.locals ∧ ∀ n c, ev.cells.lookup n = some c → c ≠ a) ∧ ∀ i j a, ow i = some a → ow j = some a → i = j

theorem Own.stepX {X : Addr → Prop} {a : Addr} {lv : LV} (I : Inv K A fe outer B h) (o : Own K h B a lv) (na : a ∉ frsOf fe outer) (nx : ¬ X a) (k : Kp (frsOf fe outer) X h h') (hX : ∀ b o, h.get? b = some o → X b → B b) : Own K h' B a lv := by
  cases lv with
  | fv _ => exact o
  | ml l =>
    obtain ⟨sz, ys, hl, r⟩ := o
    exact ⟨sz, ys, hl.at fun o ho => k.keep _ _ ho nx na, r.stepX I k hX⟩
  | md l =>
    obtain ⟨sz, kvs, ns, ⟨ob, es, ep, ho, q⟩, r⟩ := o
    exact ⟨sz, kvs, ns, ⟨ob, es, ep, k.keep _ _ ho nx na, q⟩, r.stepX I k hX⟩

theorem EnvR.step0 (I : Inv K A fe outer B h) (O : OwFree fe outer ev ow) (R : EnvR K nm ev h B ow ρ γ m cm) (k : Kp (frsOf fe outer) N0 h h') : EnvR K nm ev h' B ow ρ γ m cm := by
  refine ⟨R.fr.step0 k, fun i n v h1 h2 h3 h4 h5 => ?_, fun i n v h1 h2 => ?_, fun i n lv h1 h2 h3 => ?_⟩
  · obtain ⟨x, e, r⟩ := R.fv i n v h1 h2 h3 h4 h5; exact ⟨x, e, r.step0 I k⟩
  · obtain ⟨x, e, r⟩ := R.cv i n v h1 h2; exact ⟨x, e, r.step0 I k⟩
  · obtain ⟨a, e1, e2, e3, e4⟩ := R.own i n lv h1 h2 h3
    exact ⟨a, e1, e2, e3, e4.stepX I (O.1 i a e1).1 (fun q => q) k fun _ _ _ q => q.elim⟩

variable {M : Model} {E : Value → Shared → Prop} {s : Shared}
theorem load_lookV {n : Str} {pos : Pos} {x : Value} {Q : Value → Shared → Prop} (W : EvOk fe B ev) (F : FrS s.heap ev m cm) (e : lookV ev m cm n = some x) (hq : Q x s)
    (n1 : (n == ("__debug__" : Str)) = false) (n2 : (n == ("__classdict__" : Str)) = false) : wpAny M A (eval (.Name n pos) ev) Q E s := by
  refine wpAny_Name ?_ n1
  unfold lookV at e
  split at e
  · rename_i q; exact wpAny_loadName_local W.kind q F.ns e hq
  · rename_i q
    split at e
    · rename_i z
      obtain ⟨c, hc⟩ := Option.isSome_iff_exists.mp z
      exact wpAny_loadName_cell W.kind q hc (e ▸ F.cell n c hc) hq
    · cases e
  · rename_i q
    split at e
    · rename_i z
      obtain ⟨c, hc⟩ := Option.isSome_iff_exists.mp z
      exact wpAny_loadName_free W.kind q hc (e ▸ F.cell n c hc) hq n2
    · cases e
  · cases e

/-- where a name is stored -/
def seatOf (ev : Env) (n : Str) (b : Addr) : Prop := (ev.kindOf n = some .local ∧ b = ev.locals) ∨ (ev.kindOf n = some .cell ∧ ev.cells.lookup n = some b)
def putM (ev : Env) (n : Str) (x : Value) (m : Str → Option Value) : Str → Option Value := if ev.kindOf n = some .local then fun y => if y = n then some x else m y else m
def putC (ev : Env) (n : Str) (x : Value) (cm : Str → Option Value) : Str → Option Value := if ev.kindOf n = some .local then cm else fun y => if y = n then some x else cm y

theorem store_seat {n : Str} {x : Value} {Q : Unit → Shared → Prop} (W : EvOk fe B ev) (F : FrS s.heap ev m cm) (hk : ev.kindOf n = some .local ∨ (ev.kindOf n = some .cell ∧ (ev.cells.lookup n).isSome = true))
    (hq : ∀ h' tk b, seatOf ev n b → Heap.SameBut b s.heap h' → FrS h' ev (putM ev n x m) (putC ev n x cm) → (b = ev.locals → ∃ m', h'.Ns b m') → Q () { s with heap := h', toks := tk }) : wpAny M A (storeName ev n x) Q E s := by
  rcases hk with hl | ⟨hl, hc⟩
  · refine wpAny_storeName_local hl F.ns (fun h' hn hs => hq h' _ ev.locals (.inl ⟨hl, rfl⟩) hs ?_ fun _ => ⟨_, hn⟩) (by rw [W.kind]; rfl)
    unfold putM putC
    rw [if_pos hl, if_pos hl]
    exact ⟨hn, fun n' c hc => (F.cell n' c hc).sameBut hs (W.apart.2 n' c hc)⟩
  · obtain ⟨c, hc⟩ := Option.isSome_iff_exists.mp hc
    have hnl : ¬ ev.kindOf n = some .local := by rw [hl]; decide
    have e : ∀ t, { s with toks := t } = { s with heap := s.heap, toks := t } := fun _ => rfl
    refine wpAny_storeName_cell W.kind hl hc (F.cell n c hc) fun h' hi hs => ?_
    refine hq h' s.toks c (.inr ⟨hl, hc⟩) hs ?_ fun q => absurd q (W.apart.2 n c hc)
    unfold putM putC
    rw [if_neg hnl, if_neg hnl]
    refine ⟨F.ns.sameBut hs (Ne.symm (W.apart.2 n c hc)), fun n' c' hc' => ?_⟩
    by_cases q : n' = n
    · subst q; rw [hc] at hc'; cases hc'; simpa using hi
    · simp only [q, if_false]
      exact (F.cell n' c' hc').sameBut hs fun z => q (name_of_addr W.apart.1 (mem_of_lookup hc') (z ▸ mem_of_lookup hc))

theorem lookV_put {n n' : Str} {x : Value} (hk : ev.kindOf n = some .local ∨ (ev.kindOf n = some .cell ∧ (ev.cells.lookup n).isSome = true)) : lookV ev (putM ev n x m) (putC ev n x cm) n' = if n' = n then some x else lookV ev m cm n' := by
  unfold lookV putM putC
  by_cases q : n' = n
  · subst q
    rcases hk with hl | ⟨hl, hc⟩
    · simp [hl]
    · simp [hl, hc]
  · rcases hk with hl | ⟨hl, hc⟩
    · simp [hl, q]
    · simp [hl, q]

end
end Mine
end

section
open PySem PySem.W PySem.Calls PyProof.Rows
namespace Mine

def clsV (K : Cfg) : EC → Value
  | .blt n => .type n
  | .own i => K.G i

/-- an exception on its way: new to h₀, with or without a traceback that is at rest -/
structure ExcAt (K : Cfg) (k : EK) (a : Addr) (h₀ h : Heap) : Prop where
  new : h₀.get? a = none
  at_ : ∃ t tb cx c3 c4 c5 sl dd, h.get? a = some ⟨clsV K k.cls, dd, .fields #[.ref t, tb, cx, c3, c4, c5], sl⟩ ∧
    (tb = .none ∨ ∃ T oT ts, tb = .ref T ∧ h₀.get? T = none ∧ T ≠ a ∧ h.get? T = some oT ∧ oT.data = .fields ts ∧ ts[3]? = some .none) ∧
    (∀ n, k.cls = .blt n → cx = .none) ∧
    (∀ x, k.msg = some x → h₀.get? t = none ∧ ∃ tk, IsTup h t #[.str x tk])

/-- a tree ends as an abstract answer says -/
def EndsG {α β : Type} (K : Cfg) (A : Around) (fr : List Addr) (RR : Heap → β → α → Prop) (r : Res β) (s : Shared) (t : Sem α) : Prop := match r with
  | .ok v => ∀ (Q : α → Shared → Prop) (E : Value → Shared → Prop), (∀ x h' tk, Kp fr N0 s.heap h' → RR h' v x → Q x { s with heap := h', toks := tk }) → wpAny (model K.prog K.w) A t Q E s
  | .exc k => ∀ (Q : α → Shared → Prop) (E : Value → Shared → Prop), (∀ a h' tk, Kp fr N0 s.heap h' → ExcAt K k a s.heap h' → E (.ref a) { s with heap := h', toks := tk }) → wpAny (model K.prog K.w) A t Q E s
  | .no => True

section
variable {K : Cfg} {A : Around} {fr : List Addr} {α β γ δ : Type} {RR : Heap → β → α → Prop} {SS : Heap → δ → γ → Prop} {s : Shared}

theorem gone {X : Addr → Prop} {h h' : Heap} (k : Kp fr X h h') {b : Addr} (e : h'.get? b = none) : h.get? b = none := by
  cases q : h.get? b with
  | none => rfl
  | some o => obtain ⟨o', e'⟩ := k.there b o q; rw [e] at e'; cases e'
theorem ExcAt.low {X : Addr → Prop} {k : EK} {a : Addr} {h₀ h₁ h : Heap} (x : ExcAt K k a h₁ h) (kp : Kp fr X h₀ h₁) : ExcAt K k a h₀ h := by
  obtain ⟨n1, t, tb, cx, c3, c4, c5, sl, dd, e, q, c, m⟩ := x
  refine ⟨gone kp n1, t, tb, cx, c3, c4, c5, sl, dd, e, ?_, c, fun y hy => ⟨gone kp (m y hy).1, (m y hy).2⟩⟩
  rcases q with q | ⟨T, oT, ts, q1, q2, q3⟩
  · exact .inl q
  · exact .inr ⟨T, oT, ts, q1, gone kp q2, q3⟩

theorem EndsG.no {t : Sem α} : EndsG K A fr RR .no s t := trivial
theorem EndsG.bind {r : Res β} {f : β → Res δ} {m : Sem α} {k : α → Sem γ} (h : EndsG K A fr RR r s m)
    (hk : ∀ v x h' tk, r = .ok v → Kp fr N0 s.heap h' → RR h' v x → EndsG K A fr SS (f v) { s with heap := h', toks := tk } (k x)) : EndsG K A fr SS (r.bind f) s (m >>= k) := by
  cases r with
  | no => trivial
  | exc e => exact fun Q E hE => wpAny_bind (h _ _ hE)
  | ok v =>
    show EndsG K A fr SS (f v) s _
    cases hf : f v with
    | no => trivial
    | exc e =>
      intro Q E hE
      refine wpAny_bind (h _ _ fun x h' tk k1 r1 => ?_)
      have z := hk v x h' tk rfl k1 r1
      rw [hf] at z
      exact z _ _ fun a h'' tk' k2 x2 => hE a h'' tk' (k1.trans0 k2) (x2.low k1)
    | ok u =>
      intro Q E hQ
      refine wpAny_bind (h _ _ fun x h' tk k1 r1 => ?_)
      have z := hk v x h' tk rfl k1 r1
      rw [hf] at z
      exact z _ _ fun y h'' tk' k2 r2 => hQ y h'' tk' (k1.trans0 k2) r2
/-- what the tree asks, asked in another way -/
theorem EndsG.via {r : Res β} {t t' : Sem α} (h : EndsG K A fr RR r s t) (w : ∀ Q E, wpAny (model K.prog K.w) A t Q E s → wpAny (model K.prog K.w) A t' Q E s) : EndsG K A fr RR r s t' := by
  cases r with
  | no => trivial
  | exc e => exact fun Q E hE => w _ _ (h _ _ hE)
  | ok v => exact fun Q E hQ => w _ _ (h _ _ hQ)
theorem EndsG.holding {r : Res β} {t : Sem α} {vs : List Value} (h : EndsG K A fr RR r s t) : EndsG K A fr RR r s (holding vs t) := h.via fun _ _ => wpAny_holding
theorem EndsG.standAt {r : Res β} {k : Unit → Sem α} {pos : Pos} (h : EndsG K A fr RR r s (k ())) : EndsG K A fr RR r s (standAt pos >>= k) := h.via fun _ _ x => wpAny_bind (wpAny_standAt x)
theorem EndsG.rule {r : Res β} {k : Unit → Sem α} {x : String} (h : EndsG K A fr RR r s (k ())) : EndsG K A fr RR r s (rule x >>= k) := h.via fun _ _ x => wpAny_bind (wpAny_rule x)
theorem EndsG.pure {v : β} {x : α} (h : RR s.heap v x) : EndsG K A fr RR (.ok v) s (pure x) := fun Q E hQ => wpAny_pure (hQ x s.heap s.toks (.refl ..) h)
theorem EndsG.of_eq {r : Res β} {t t' : Sem α} (h : EndsG K A fr RR r s t') (e : t = t') : EndsG K A fr RR r s t := by rw [e]; exact h
theorem EndsG.res {r r' : Res β} {t : Sem α} (h : EndsG K A fr RR r' s t) (e : r = r') : EndsG K A fr RR r s t := by rw [e]; exact h
theorem EndsG.operate {r : Res FV} {B : Addr → Prop} {t : Sem Value} {vs : List Value} (h : EndsG K A fr (fun h => RV K h B) r s t) : EndsG K A fr (fun h => RV K h B) r s (operate vs t) := h.via fun _ _ => wpAny_operateT
/-- a tree that lands at once, the heap as it was -/
theorem EndsG.here {v : β} {t : Sem α} (h : ∀ Q E, (∀ x tk, RR s.heap v x → Q x { s with toks := tk }) → wpAny (model K.prog K.w) A t Q E s) : EndsG K A fr RR (.ok v) s t :=
  fun Q E hQ => h Q E fun x tk r => hQ x s.heap tk (.refl ..) r
theorem EndsG.mk {v : β} {t : Sem α} (h : ∀ Q E, (∀ x h' tk, Kp fr N0 s.heap h' → RR h' v x → Q x { s with heap := h', toks := tk }) → wpAny (model K.prog K.w) A t Q E s) : EndsG K A fr RR (.ok v) s t := h
end

abbrev Ends (K : Cfg) (A : Around) (fr : List Addr) (B : Addr → Prop) (r : Res FV) (s : Shared) (t : Sem Value) : Prop := EndsG K A fr (fun h => RV K h B) r s t
abbrev EndsL (K : Cfg) (A : Around) (fr : List Addr) (B : Addr → Prop) (r : Res (List FV)) (s : Shared) (t : Sem (List Value)) : Prop := EndsG K A fr (fun h => RVs K h B) r s t
abbrev EndsB (K : Cfg) (A : Around) (fr : List Addr) (r : Res Bool) (s : Shared) (t : Sem Bool) : Prop := EndsG K A fr (fun _ b x => b = x) r s t

def resT (r : Res FV) : Res Bool := r.bind fun v => match v.truth with | some b => .ok b | Option.none => .no

/-! ## operations on values -/
section
variable {K : Cfg} {A : Around} {fe : Env} {outer : List Env} {B : Addr → Prop} {s : Shared}
local macro_rules | `(tactic| decreasing_tactic) => `(tactic| simp_all)

theorem clip0 {x : Str} : (x.length == 0) = (x.cps.size == 0) := rfl

theorem truth_ends (I : Inv K A fe outer B s.heap) {v : FV} {x : Value} (r : RV K s.heap B v x) :
    EndsB K A (frsOf fe outer) (resT (.ok v)) s (truthy x) := by
  cases v with
  | none => cases r; exact .here fun Q E h => wpAny_of_eq (a := false) rfl (h false s.toks rfl)
  | bool b => cases r; exact .here fun Q E h => wpAny_truthy_bool (h b s.toks rfl)
  | int i => obtain ⟨t, rfl⟩ := r; exact .here fun Q E h => P.truthy_int (h _ s.toks rfl)
  | str y =>
    obtain ⟨sz, t, rfl⟩ := r
    unfold big at sz
    refine .here fun Q E h => P.truthy_str (by omega) (h _ _ ?_)
    rw [Bool.eq_iff_iff]; simp
  | bytes b =>
    obtain ⟨sz, t, rfl⟩ := r
    unfold big at sz
    refine .here fun Q E h => PySem.W.truthy_bytes (by simp; omega) (h _ _ ?_)
    cases b with
    | nil => simp
    | cons _ _ => simp; omega
  | tup l =>
    obtain ⟨sz, a, vs, rfl, nb, ht, rs⟩ := r
    have hl := rs.length
    unfold big at sz
    refine .here fun Q E h => PyProof.Rows.truthy_tuple ht (by simp; omega) (h _ _ ?_)
    cases l <;> cases vs <;> simp_all
  | lst l =>
    obtain ⟨sz, a, vs, rfl, nb, ht, rs⟩ := r
    have hl := rs.length
    unfold big at sz
    refine .here fun Q E h => wpAny_truthy_list ht (by simp; omega) (h _ _ ?_)
    cases l <;> cases vs <;> simp_all
  | dct l => exact EndsG.no
  | code y => exact EndsG.no
  | gl i => exact EndsG.no
  | typ n => exact EndsG.no
end
end Mine
end

section
open PySem PySem.W PySem.Calls PyProof.Rows
namespace Mine
theorem big_line : big = sizeLine := by decide
theorem lt63_of_le {n : Nat} (h : n ≤ big) : (n : Int) < 2 ^ 63 := by unfold big at h; omega

section
variable {K : Cfg} {A : Around} {fr : List Addr} {B : Addr → Prop} {s : Shared} {t u : Tok} {a b : Int}

theorem op_add_int : Ends K A fr B (.ok (.int (a + b))) s (binaryOp .Add (.int a t) (.int b u)) := .here fun Q E h => P.add_int (h _ _ ⟨_, rfl⟩)
theorem op_iadd_int : Ends K A fr B (.ok (.int (a + b))) s (inplaceOp .Add (.int a t) (.int b u)) := .here fun Q E h => P.iadd_int (h _ _ ⟨_, rfl⟩)
theorem op_isub_int : Ends K A fr B (.ok (.int (a - b))) s (inplaceOp .Sub (.int a t) (.int b u)) := .here fun Q E h => P.isub_int (h _ _ ⟨_, rfl⟩)
theorem op_sub_int : Ends K A fr B (.ok (.int (a - b))) s (binaryOp .Sub (.int a t) (.int b u)) := .here fun Q E h => P.sub_int (h _ _ ⟨_, rfl⟩)
theorem op_mod_int (hb : 0 < b) : Ends K A fr B (.ok (.int (a.fmod b))) s (binaryOp .Mod (.int a t) (.int b u)) := .here fun Q E h => mod_int' (by omega) (h _ _ ⟨_, rfl⟩)
theorem op_div_int (hb : 0 < b) (hs : b < 2 ^ 29) : Ends K A fr B (.ok (.int (a.fdiv b))) s (binaryOp .FloorDiv (.int a t) (.int b u)) :=
  .here fun Q E h => floordiv_int (by omega) (h _ _ ⟨_, rfl⟩) (.inl (PyProof.noPylong_small (by omega)))
theorem op_lt : Ends K A fr B (.ok (.bool (decide (a < b)))) s (compareOp .Lt (.int a t) (.int b u)) := .here fun Q E h => P.lt_int (h _ s.toks rfl)
theorem op_le : Ends K A fr B (.ok (.bool (decide (a ≤ b)))) s (compareOp .LtE (.int a t) (.int b u)) := .here fun Q E h => P.le_int (h _ s.toks rfl)
theorem op_gt : Ends K A fr B (.ok (.bool (decide (a > b)))) s (compareOp .Gt (.int a t) (.int b u)) := .here fun Q E h => P.gt_int (h _ s.toks rfl)
theorem op_ge : Ends K A fr B (.ok (.bool (decide (a ≥ b)))) s (compareOp .GtE (.int a t) (.int b u)) := .here fun Q E h => P.ge_int (h _ s.toks rfl)
theorem op_eq_int : Ends K A fr B (.ok (.bool (decide (a = b)))) s (compareOp .Eq (.int a t) (.int b u)) := .here fun Q E h => P.eq_int (h _ s.toks rfl)
theorem op_ne_int : Ends K A fr B (.ok (.bool (!decide (a = b)))) s (compareOp .NotEq (.int a t) (.int b u)) := .here fun Q E h => P.ne_int (h _ s.toks rfl)
theorem op_neg : Ends K A fr B (.ok (.int (-a))) s (unaryOp .USub (.int a t)) := .here fun Q E h => P.neg_int (h _ _ ⟨_, rfl⟩)

theorem small_iff {i : Int} : smallInt i = true ↔ -(2 ^ 62) ≤ i ∧ i < 2 ^ 62 := by simp [smallInt]
theorem op_mul_int (hb : smallInt b = true) : Ends K A fr B (.ok (.int (a * b))) s (binaryOp .Mult (.int a t) (.int b u)) :=
  .here fun Q E h => P.mul_int (h _ _ ⟨_, rfl⟩) (IntMulOk.of_right (intBits_le_64 (by have := (small_iff.mp hb); omega) (by have := (small_iff.mp hb); omega)))

variable {x y : List UInt8} {p q : Str}
theorem op_add_bytes (h : (x ++ y).length ≤ big) : Ends K A fr B (.ok (.bytes (x ++ y))) s (binaryOp .Add (.bytes x.toArray t) (.bytes y.toArray u)) :=
  .here fun Q E k => KBy.add_bytes (by simp only [List.size_toArray]; rw [List.length_append] at h; exact h) fun t' tk => by
    have := k (.bytes (x ++ y).toArray t') tk ⟨h, _, rfl⟩
    simpa using this
theorem op_eq_bytes : Ends K A fr B (.ok (.bool (x == y))) s (compareOp .Eq (.bytes x.toArray t) (.bytes y.toArray u)) := .here fun Q E h => eq_bytes (h _ s.toks rfl)
theorem op_ne_bytes : Ends K A fr B (.ok (.bool (x != y))) s (compareOp .NotEq (.bytes x.toArray t) (.bytes y.toArray u)) := .here fun Q E h => ne_bytes (h _ s.toks rfl)
theorem str_eq_iff : (p.cps.toList == q.cps.toList) = decide (p = q) := by
  by_cases h : p = q
  · subst h; simp
  · have : p.cps ≠ q.cps := fun e => h (by cases p; cases q; congr)
    simp [h, this]
theorem op_eq_str : Ends K A fr B (.ok (.bool (decide (p = q)))) s (compareOp .Eq (.str p t) (.str q u)) := .here fun Q E h => P.eq_str (h _ s.toks (by rw [str_eq_iff]; rfl))
theorem op_ne_str : Ends K A fr B (.ok (.bool (!decide (p = q)))) s (compareOp .NotEq (.str p t) (.str q u)) := .here fun Q E h => P.ne_str (h _ s.toks (by rw [bne, str_eq_iff]; rfl))
theorem op_add_str (h : (p ++ q).length ≤ big) : Ends K A fr B (.ok (.str (p ++ q))) s (binaryOp .Add (.str p t) (.str q u)) :=
  .here fun Q E k => P.add_str (by
    split
    · rename_i z
      have e : p ++ q = q := by
        have : p.cps = #[] := Array.eq_empty_of_size_eq_zero (beq_iff_eq.mp z)
        show Str.mk (p.cps ++ q.cps) = q
        rw [this]; simp
      exact k _ s.toks ⟨h, _, by rw [e]⟩
    · split
      · rename_i z
        have e : p ++ q = p := by
          have : q.cps = #[] := Array.eq_empty_of_size_eq_zero (beq_iff_eq.mp z)
          show Str.mk (p.cps ++ q.cps) = p
          rw [this]; simp
        exact k _ s.toks ⟨h, _, by rw [e]⟩
      · exact ⟨big_line ▸ h, k _ _ ⟨h, _, rfl⟩⟩)
theorem op_len_bytes (h : x.length ≤ 1099511627776) : Ends K A fr B (.ok (.int x.length)) s (call (.builtin "len") [.bytes x.toArray t]) :=
  .here fun Q E k => len_bytes (by simpa using h) (by simpa using k _ _ ⟨s.toks + 1, rfl⟩)
theorem op_len_str (h : p.length ≤ 1099511627776) : Ends K A fr B (.ok (.int p.length)) s (call (.builtin "len") [.str p t]) :=
  .here fun Q E k => P.len_str (by omega) (k _ _ ⟨_, rfl⟩)

theorem len_flat {α : Type} (l : List α) (n : Nat) : (List.replicate n l).flatten.length = n * l.length := by simp
theorem op_mul_bytes (hx : x.length ≤ 16) (he : x.isEmpty = false) (h0 : 0 ≤ a) (h1 : a ≤ 1000) : Ends K A fr B (.ok (.bytes (List.replicate a.toNat x).flatten)) s (binaryOp .Mult (.bytes x.toArray t) (.int a u)) :=
  .here fun Q E k => bytes_mul_any (by intro e; subst e; cases he) (by omega) (by omega) hx fun t' tk => k _ _ ⟨by
    rw [len_flat]
    have : a.toNat * x.length ≤ 1000 * 16 := Nat.mul_le_mul (by omega) hx
    unfold big; omega, t', rfl⟩
theorem fold_rep (l : Array Nat) : ∀ (n : Nat) (acc : List Nat), (List.replicate n l).foldl (· ++ ·) acc.toArray = (acc ++ (List.replicate n l.toList).flatten).toArray
  | 0, acc => by simp
  | n + 1, acc => by
    rw [List.replicate_succ, List.foldl_cons]
    have e : acc.toArray ++ l = (acc ++ l.toList).toArray := by apply Array.ext'; simp
    rw [e, fold_rep l n]
    simp [List.replicate_succ, List.append_assoc]
theorem rep_eq (p : Str) (n : Nat) : (⟨(List.replicate n p.cps).foldl (· ++ ·) #[]⟩ : Str) = repStr p n := by
  have := fold_rep p.cps n []
  unfold repStr
  simpa using this
theorem op_mul_str (hx : p.length = 1) (h0 : 0 ≤ a) (h1 : a ≤ 1000) : Ends K A fr B (.ok (.str (repStr p a.toNat))) s (binaryOp .Mult (.str p t) (.int a u)) := by
  have hl : p.length * a.toNat ≤ 1000 := by rw [hx]; omega
  have hb : (repStr p a.toNat).length ≤ big := by
    have e2 : p.cps.toList.length = 1 := by rw [Array.length_toList]; exact hx
    show ((List.replicate a.toNat p.cps.toList).flatten.toArray).size ≤ big
    rw [List.size_toArray, len_flat, e2]
    unfold big; omega
  refine .here fun Q E k => P.mul_str ?_ ?_ ?_ ?_
  · rw [decide_eq_false (show ¬ a < -(2 ^ 63 : Int) by omega), decide_eq_false (show ¬ a ≥ 2 ^ 63 by omega)]; rfl
  · intro h2 _
    rw [hx]
    have : 1 ≤ (2 ^ 63 - 1) / a := by
      rw [Int.le_ediv_iff_mul_le (by omega)]
      omega
    omega
  · intro _ _
    show decide (p.length * a.toNat > sizeLine) = false
    exact decide_eq_false (by rw [sizeLine_eq]; omega)
  · split
    · have e : a.toNat = 0 := by omega
      refine ⟨by decide, k _ _ ⟨hb, s.toks, ?_⟩⟩
      rw [e]; rfl
    · split
      · rename_i z
        have e : a = 1 := by
          rw [hx] at z
          simpa using z
        subst e
        refine k _ s.toks ⟨hb, t, ?_⟩
        have : repStr p (1 : Int).toNat = p := by unfold repStr; simp
        rw [this]
      · refine ⟨?_, k _ _ ⟨hb, s.toks, ?_⟩⟩
        · rw [rep_eq]
          show (repStr p a.toNat).cps.size ≤ sizeLine
          unfold repStr
          have e2 : p.cps.size = 1 := hx
          simp [e2]
          rw [sizeLine_eq]; omega
        · rw [rep_eq]

theorem op_min (hh : A.handled = none) : Ends K A fr B (.ok (.int (if b < a then b else a))) s (call (.builtin "min") [.int a t, .int b u]) :=
  .mk fun Q E k => min_two_ints hh fun h' tk hk => k _ _ _ (.of_keep hk) (by split <;> exact ⟨_, rfl⟩)
theorem op_max (hh : A.handled = none) : Ends K A fr B (.ok (.int (if b > a then b else a))) s (call (.builtin "max") [.int a t, .int b u]) :=
  .mk fun Q E k => max_two_ints hh fun h' tk hk => k _ _ _ (.of_keep hk) (by split <;> exact ⟨_, rfl⟩)

theorem op_isNone {v : FV} {z : Value} (r : RV K s.heap B v z) (hG : ∀ i, K.G i ≠ .none) : Ends K A fr B (evP .isNone [v]) s (compareOp .Is z .none) := by
  have key : ∀ w : Bool, (z == Value.none) = w → Ends K A fr B (.ok (.bool w)) s (compareOp .Is z .none) := fun w e => .here fun Q E k => is_none (e ▸ k (.bool w) s.toks rfl)
  cases v
  case none => cases r; exact key true rfl
  all_goals first
    | (obtain ⟨_, _, _, rfl, _⟩ := r; exact key false rfl)
    | (obtain ⟨_, _, rfl, _⟩ := r; exact key false rfl)
    | (obtain ⟨_, _, rfl⟩ := r; exact key false rfl)
    | (obtain ⟨_, rfl, _⟩ := r; exact key false rfl)
    | (obtain ⟨_, rfl⟩ := r; exact key false rfl)
    | (cases r; exact key false rfl)
    | (cases r; exact key false (by simp [*]))
end
end Mine
end

section
open PySem PySem.W PySem.Calls PyProof.Rows
namespace Mine
theorem picked_eq' (b : List UInt8) (lo hi : Option Int) : KBy.picked b.toArray lo hi = ((b.drop (lo.elim 0 (clipAt b.length))).take (hi.elim b.length (clipAt b.length) - lo.elim 0 (clipAt b.length))).toArray := by
  rw [KBc.picked_eq]
  simp
theorem clipAt_pos {n : Nat} {i : Int} (h : 0 ≤ i) : clipAt n i = min i.toNat n := by
  obtain ⟨k, rfl⟩ := Int.eq_ofNat_of_zero_le h
  rw [clipAt_nat]; simp
theorem drop_min {α : Type} (l : List α) (k : Nat) : l.drop (min k l.length) = l.drop k := by
  rcases Nat.le_total k l.length with h | h
  · rw [Nat.min_eq_left h]
  · rw [Nat.min_eq_right h, List.drop_length, List.drop_eq_nil_of_le h]
theorem cutAB {α : Type} (l : List α) (a b : Nat) : (l.drop (min a l.length)).take (min b l.length - min a l.length) = (l.take b).drop a := by
  rw [drop_min, List.drop_take]
  apply List.ext_getElem?
  intro i
  simp only [List.getElem?_take, List.getElem?_drop]
  split <;> split <;> first | rfl | omega | (rw [List.getElem?_eq_none (by omega)])
theorem pick_range {α : Type} : ∀ (l : List α) (k : Nat), k ≤ l.length → (List.range k).filterMap (fun i => l[i]?) = l.take k
  | l, 0, _ => by simp
  | l, k + 1, h => by
    rw [List.range_succ, List.filterMap_append, pick_range l k (by omega), List.filterMap_cons, List.getElem?_eq_getElem (by omega : k < l.length), List.filterMap_nil, List.take_add_one, List.getElem?_eq_getElem (by omega : k < l.length)]
    rfl
theorem slicePick_upto (vs : List Value) {b : Int} (hb : 0 ≤ b) : slicePick vs.toArray none (some b) none = (vs.take b.toNat).toArray := by
  have h0 : ¬ b < 0 := by omega
  have e1 : sliceBounds none (some b) none vs.toArray.size = (0, ((min b.toNat vs.length : Nat) : Int), 1) := by
    simp only [sliceBounds, h0, Option.getD_none, List.size_toArray]
    simp only [Int.reduceLT, if_true, if_false, Prod.mk.injEq, true_and, and_true, gt_iff_lt]
    omega
  have e2 : ∀ n : Nat, sliceRange 0 (n : Int) 1 = List.range n := by
    intro n
    unfold sliceRange
    simp only [Int.reduceLT, gt_iff_lt, if_true]
    have : (if (0 : Int) < (n : Int) then ((n : Int) - 0 + 1 - 1) / 1 else 0).toNat = n := by
      split <;> omega
    rw [this]
    have e3 : (fun k : Nat => ((0 : Int) + 1 * (k : Int)).toNat) = id := by funext k; simp
    rw [e3, List.map_id]
  unfold slicePick
  rw [e1]
  simp only
  rw [e2]
  congr 1
  have e4 : (fun x => (vs.toArray)[x]?) = fun i : Nat => vs[i]? := by funext i; simp
  rw [e4, pick_range vs _ (Nat.min_le_right ..)]
  rcases Nat.le_total b.toNat vs.length with h | h
  · rw [Nat.min_eq_left h]
  · rw [Nat.min_eq_right h, List.take_length, List.take_of_length_le h]
section
variable {K : Cfg} {A : Around} {fr : List Addr} {B : Addr → Prop} {s : Shared} {t u : Tok} {a b : Int} {x y : List UInt8}

theorem slice_bytes {sl : Addr} {l v : Value} {lo hi : Option Int} (hl : IsPart l lo) (hu : IsPart v hi) (hs : s.heap.IsSliceOf sl l v .none) (hz : x.length ≤ big) :
    Ends K A fr B (.ok (.bytes ((x.drop (lo.elim 0 (clipAt x.length))).take (hi.elim x.length (clipAt x.length) - lo.elim 0 (clipAt x.length))))) s (getItem (.bytes x.toArray t) (.ref sl)) :=
  .here fun Q E k => getItem_meets (typeIs_bytes _ _ _) (by decide) FB.slot_bytes_getitem FB.entry_bytes_getitem (FB.args_bytes_getitem_2 _ _) (KBc.meets_slice2 x.toArray t _ hl hu)
    ⟨hs, Nat.le_trans (KBc.size_picked_le x.toArray lo hi) (by rw [List.size_toArray, ← big_line]; exact hz), fun t' tk => k _ _ ⟨Nat.le_trans (by rw [List.length_take, List.length_drop]; omega) hz, t', by rw [picked_eq']⟩⟩
theorem op_slAB {sl : Addr} {t' : Tok} (hs : s.heap.IsSliceOf sl (.int a t') (.int b u) .none) (hz : x.length ≤ big) (ha : 0 ≤ a) (hb : 0 ≤ b) :
    Ends K A fr B (.ok (.bytes ((x.take b.toNat).drop a.toNat))) s (getItem (.bytes x.toArray t) (.ref sl)) := by
  have := slice_bytes (K := K) (A := A) (fr := fr) (B := B) (t := t) (.int a t') (.int b u) hs hz
  simp only [Option.elim, clipAt_pos ha, clipAt_pos hb, cutAB] at this
  exact this
theorem op_slA {sl : Addr} {t' : Tok} (hs : s.heap.IsSliceOf sl (.int a t') .none .none) (hz : x.length ≤ big) (ha : 0 ≤ a) :
    Ends K A fr B (.ok (.bytes (x.drop a.toNat))) s (getItem (.bytes x.toArray t) (.ref sl)) := by
  have := slice_bytes (K := K) (A := A) (fr := fr) (B := B) (t := t) (.int a t') .none hs hz
  simp only [Option.elim, clipAt_pos ha, drop_min] at this
  have e : (x.drop a.toNat).take (x.length - min a.toNat x.length) = x.drop a.toNat := List.take_of_length_le (by rw [List.length_drop]; omega)
  rw [e] at this
  exact this
theorem op_slB {sl : Addr} {t' : Tok} (hs : s.heap.IsSliceOf sl .none (.int b t') .none) (hz : x.length ≤ big) (hb : 0 ≤ b) :
    Ends K A fr B (.ok (.bytes (x.take b.toNat))) s (getItem (.bytes x.toArray t) (.ref sl)) := by
  have := slice_bytes (K := K) (A := A) (fr := fr) (B := B) (t := t) .none (.int b t') hs hz
  simp only [Option.elim, clipAt_pos hb, List.drop_zero, Nat.sub_zero] at this
  have e : x.take (min b.toNat x.length) = x.take b.toNat := by
    rcases Nat.le_total b.toNat x.length with h | h
    · rw [Nat.min_eq_left h]
    · rw [Nat.min_eq_right h, List.take_length, List.take_of_length_le h]
  rw [e] at this
  exact this

theorem fresh_notB {fe : Env} {outer : List Env} (I : Inv K A fe outer B s.heap) : ¬ B s.heap.objs.size := fun h => by
  obtain ⟨o, e⟩ := (I.bb _ h).2
  exact Nat.lt_irrefl _ (Heap.lt_size e)

/-- a new list, a new tuple -/
theorem new_list {fe : Env} {outer : List Env} (I : Inv K A fe outer B s.heap) {l : List FV} {vs : List Value} (r : RVs K s.heap B l vs) (hz : l.length ≤ big) : Ends K A (frsOf fe outer) B (.ok (.lst l)) s (newList vs) :=
  .mk fun Q E k => wpAny_newObj_type (k _ _ s.toks (Kp.push _ _ _ _)
    ⟨hz, _, vs, rfl, fresh_notB I, ⟨_, Heap.get?_push_size _ rfl, rfl, _, rfl⟩, r.step0 I (Kp.push _ _ _ _)⟩) (by show vs.toArray.size ≤ sizeLine; rw [List.size_toArray, r.length, ← big_line]; exact hz)
theorem new_tup {fe : Env} {outer : List Env} (I : Inv K A fe outer B s.heap) {l : List FV} {vs : List Value} (r : RVs K s.heap B l vs) (hz : l.length ≤ big) : Ends K A (frsOf fe outer) B (.ok (.tup l)) s (newTuple vs) :=
  .mk fun Q E k => wpAny_newObj_type (k _ _ s.toks (Kp.push _ _ _ _)
    ⟨hz, _, vs, rfl, fresh_notB I, ⟨_, Heap.get?_push_size _ rfl, rfl, _, rfl⟩, r.step0 I (Kp.push _ _ _ _)⟩) (by show vs.toArray.size ≤ sizeLine; rw [List.size_toArray, r.length, ← big_line]; exact hz)

theorem slice_list' {fe : Env} {outer : List Env} (I : Inv K A fe outer B s.heap) {l : Addr} {fs : List FV} {vs : List Value} {sl : Addr} {t' : Tok} (hl : s.heap.IsList l (List.toArray vs)) (nb : ¬ B l) (r : RVs K s.heap B fs vs)
    (hs : s.heap.IsSliceOf sl .none (.int b t') .none) (hb : 0 ≤ b) (hz : fs.length ≤ big) : Ends K A (frsOf fe outer) B (.ok (.lst (fs.take b.toNat))) s (getItem (.ref l) (.ref sl)) :=
  .mk fun Q E k => wpAny_getItem_list_slice hl hs .none (.int b t') .none (by simp) (k _ _ s.toks (Kp.push _ _ _ _) (by
    have e : slicePick (List.toArray vs) none (some b) none = (vs.take b.toNat).toArray := slicePick_upto vs hb
    rw [e]
    exact ⟨Nat.le_trans (by rw [List.length_take]; omega) hz, _, vs.take b.toNat, rfl, fresh_notB I, ⟨_, Heap.get?_push_size _ rfl, rfl, _, rfl⟩, (r.take _).step0 I (Kp.push _ _ _ _)⟩)) (by rw [List.size_toArray, r.length, ← big_line]; exact hz)

theorem op_idx_tup {l : Addr} {vs : List Value} {fs : List FV} {f : FV} (ht : IsTup s.heap l (List.toArray vs)) (r : RVs K s.heap B fs vs) (h0 : 0 ≤ a) (hz : vs.length ≤ big) (e : fs[a.toNat]? = some f) :
    Ends K A fr B (.ok f) s (getItem (.ref l) (.int a t)) := by
  obtain ⟨v, e1, e2⟩ := r.get e
  have hlt : a.toNat < vs.length := (List.getElem?_eq_some_iff.mp e1).1
  refine .here fun Q E k => getItem_tuple ht (by omega) (by unfold big at hz; omega) (j := a.toNat) ?_ (by simpa using e1) (k v s.toks e2)
  rw [List.size_toArray]
  exact seqIndex_of h0 (by omega)
theorem op_idx_lst {l : Addr} {vs : List Value} {fs : List FV} {f : FV} (ht : s.heap.IsList l (List.toArray vs)) (r : RVs K s.heap B fs vs) (h0 : 0 ≤ a) (hz : vs.length ≤ big) (e : fs[a.toNat]? = some f) :
    Ends K A fr B (.ok f) s (getItem (.ref l) (.int a t)) := by
  obtain ⟨v, e1, e2⟩ := r.get e
  have hlt : a.toNat < vs.length := (List.getElem?_eq_some_iff.mp e1).1
  exact .here fun Q E k => wpAny_getItem_list ht h0 (by unfold big at hz; omega) (by simpa using e1) (k v s.toks e2)
theorem op_idx_bytes {c : UInt8} (h0 : 0 ≤ a) (hz : x.length ≤ big) (e : x[a.toNat]? = some c) : Ends K A fr B (.ok (.int c.toNat)) s (getItem (.bytes x.toArray t) (.int a u)) := by
  have hlt : a.toNat < x.length := (List.getElem?_eq_some_iff.mp e).1
  have e' : x.getD a.toNat 0 = c := by rw [List.getD_eq_getElem?_getD, e]; rfl
  exact .here fun Q E k => getItem_bytes (by unfold big at hz; omega) h0 (by omega) (k _ _ ⟨_, by rw [e']⟩)
theorem op_len_tup {l : Addr} {vs : List Value} {fs : List FV} (ht : IsTup s.heap l (List.toArray vs)) (r : RVs K s.heap B fs vs) (hz : vs.length ≤ big) : Ends K A fr B (.ok (.int fs.length)) s (call (.builtin "len") [.ref l]) :=
  .here fun Q E k => PyProof.Rows.len_tuple ht (by rw [List.size_toArray]; exact lt63_of_le hz) (k _ _ ⟨_, by rw [List.size_toArray, r.length]⟩)
theorem op_len_lst {l : Addr} {vs : List Value} {fs : List FV} (ht : s.heap.IsList l (List.toArray vs)) (r : RVs K s.heap B fs vs) (hz : vs.length ≤ big) : Ends K A fr B (.ok (.int fs.length)) s (call (.builtin "len") [.ref l]) :=
  .here fun Q E k => call_len_list ht (by rw [List.size_toArray]; exact lt63_of_le hz) (k _ _ ⟨_, by rw [List.size_toArray, r.length]⟩)

theorem op_sum (hh : A.handled = none) {l : Addr} {vs : List Value} {fs : List FV} {is : List Int} (ht : s.heap.IsList l (List.toArray vs)) (r : RVs K s.heap B fs vs) (e : allInts fs = some is) :
    Ends K A fr B (.ok (.int is.sum)) s (call (.builtin "sum") [.ref l]) := by
  have hi : IntsAre vs is := by
    clear ht
    induction fs generalizing vs is with
    | nil => cases r; cases e; exact .nil
    | cons f fs ih =>
      obtain ⟨v, q, rfl, r1, r2⟩ := r
      cases f with
      | int i =>
        obtain ⟨t, rfl⟩ := r1
        simp only [allInts] at e
        cases q' : allInts fs with
        | none => rw [q'] at e; cases e
        | some js => rw [q'] at e; cases e; exact .cons _ _ (ih r2 q')
      | _ => cases e
  obtain ⟨xs, hx⟩ := hi.allInts.items
  refine .mk fun Q E k => sum_intListG hh (hx ▸ ht) fun h' tk t' hk => ?_
  have e1 : is = xs.toList.map (·.1) := by
    rw [← nums_intItems, ← hx]
    exact (show numsOf vs.toArray.toList = is from hi.numsOf).symm
  have e2 : preSum (numAt xs) xs.size = is.sum := by
    rw [preSum_eq, List.take_of_length_le (by simp), e1]
  exact k _ _ _ (.of_keep hk) ⟨_, by rw [e2]⟩
end
end Mine
end

section
open PySem PySem.W PySem.Calls PyProof.Rows
namespace Mine

section
variable {K : Cfg} {B : Addr → Prop} {h : Heap}
theorem RVd.length : ∀ {l : List (Str × FV)} {vs : List (Str × Value)}, RVd K h B l vs → vs.length = l.length
  | [], _, r => by subst r; rfl
  | _ :: _, _, ⟨_, _, e, _, r⟩ => by subst e; rw [List.length_cons, List.length_cons, RVd.length r]
theorem RVd.names : ∀ {l : List (Str × FV)} {vs : List (Str × Value)}, RVd K h B l vs → vs.map (·.1) = l.map (·.1)
  | [], _, r => by subst r; rfl
  | (k, f) :: _, _, ⟨x, _, e, r1, r⟩ => by subst e; rw [List.map_cons, List.map_cons, RVd.names r, r1.1]
theorem RVd.value : ∀ {l : List (Str × FV)} {vs : List (Str × Value)}, RVd K h B l vs → ∀ k : Str, (∀ f, dctGet l k = some f → ∃ x, valueAt vs k = some x ∧ RV K h B f x) ∧ (dctGet l k = none → valueAt vs k = none)
  | [], _, r, k => by subst r; exact ⟨fun f e => by simp [dctGet] at e, fun _ => rfl⟩
  | (k', f') :: l, _, ⟨x, q, e, r1, r⟩, k => by
    subst e
    have ih := RVd.value r k
    obtain ⟨e1, e2⟩ := r1
    by_cases hk : k' = k
    · subst hk
      refine ⟨fun f hf => ⟨x.2, ?_, ?_⟩, fun hn => ?_⟩
      · simp [valueAt, e1]
      · simp [dctGet] at hf; rw [← hf]; exact e2
      · simp [dctGet] at hn
    · have a1 : dctGet ((k', f') :: l) k = dctGet l k := by simp [dctGet, hk]
      have a2 : valueAt (x :: q) k = valueAt q k := by simp [valueAt, e1, hk]
      rw [a1, a2]
      exact ih
theorem RVs.items : ∀ {l : List (Str × FV)} {vs : List (Str × Value)}, RVd K h B l vs → ∀ {us : List Value}, us.length = vs.length → (∀ (j : Nat) (v : Value), us[j]? = some v → ∃ k x, vs[j]? = some (k, x) ∧ ∃ t, v = Value.str k t) → (∀ p ∈ l, p.1.length ≤ big) → RVs K h B (l.map fun p => FV.str p.1) us
  | [], _, r, us, hl, _, _ => by subst r; simpa [RVs] using hl
  | (k, f) :: l, _, ⟨x, q, e, r1, r⟩, us, hl, hv, hb => by
    subst e
    cases us with
    | nil => simp at hl
    | cons u us =>
      obtain ⟨k', x', e1, t, e2⟩ := hv 0 u rfl
      simp only [List.getElem?_cons_zero, Option.some.injEq] at e1
      refine ⟨u, us, rfl, ⟨hb (k, f) (.head _), t, ?_⟩, RVs.items r (by simpa using hl) (fun j v e => by simpa using hv (j + 1) v (by simpa using e)) fun p hp => hb p (.tail _ hp)⟩
      rw [e2, ← r1.1, e1]
end

section
variable {K : Cfg} {A : Around} {fr : List Addr} {B : Addr → Prop} {s : Shared} {t u : Tok} {a b : Int} {x y : List UInt8} {p q : Str}

theorem op_in_str (h : p.length = 1) : Ends K A fr B (.ok (.bool (q.cps.toList.contains (p.cps.toList.headD 0)))) s (compareOp .In (.str p t) (.str q u)) :=
  .here fun Q E k => P.in_str (k _ s.toks (by
    obtain ⟨c⟩ := p
    have e : c.toList.length = 1 := by rw [Array.length_toList]; exact h
    obtain ⟨z, hz⟩ := List.length_eq_one_iff.mp e
    have : c = #[z] := by apply Array.ext'; rw [hz]
    subst this
    rw [StrLaws.found_one]
    show Value.bool _ = Value.bool _
    congr 1
    rw [Bool.eq_iff_iff]; simp))
theorem ints_are {h : Heap} : ∀ {fs : List FV} {vs : List Value} {is : List Int}, RVs K h B fs vs → allInts fs = some is → IntsAre vs is
  | [], _, _, r, e => by cases r; cases e; exact .nil
  | f :: fs, _, is, r, e => by
    obtain ⟨v, q, rfl, r1, r2⟩ := r
    cases f with
    | int i =>
      obtain ⟨t, rfl⟩ := r1
      simp only [allInts] at e
      cases q' : allInts fs with
      | none => rw [q'] at e; cases e
      | some js => rw [q'] at e; cases e; exact .cons _ _ (ints_are r2 q')
    | _ => cases e
theorem any_contains (is : List Int) (a : Int) : is.any (· == a) = is.contains a := by
  induction is with
  | nil => rfl
  | cons i is ih =>
    rw [List.any_cons, List.contains_cons, ih]
    congr 1
    rw [Bool.eq_iff_iff, beq_iff_eq, beq_iff_eq]; exact eq_comm
theorem op_in_tup {l : Addr} {vs : List Value} {fs : List FV} {is : List Int} (ht : IsTup s.heap l (List.toArray vs)) (r : RVs K s.heap B fs vs) (e : allInts fs = some is) :
    Ends K A fr B (.ok (.bool (is.contains a))) s (compareOp .In (.int a t) (.ref l)) :=
  .here fun Q E k => in_tuple_ints ht (ints_are r e) (k _ s.toks (by rw [any_contains]; rfl))
theorem op_in_dct {d : Addr} {kvs : List (Str × Value)} {l : List (Str × FV)} (hd : s.heap.DictOf (strKind K.prog K.w) d kvs) (ns : (d == sysModules) = false) (r : RVd K s.heap B l kvs) :
    Ends K A fr B (.ok (.bool (dctGet l p).isSome)) s (compareOp .In (.str p t) (.ref d)) :=
  .here fun Q E k => wpAny_in_of (strKind_is K.prog K.w p t) ns hd.mapOf (k _ _ (by
    cases e : dctGet l p with
    | none => rw [(r.value p).2 e]; rfl
    | some f => obtain ⟨z, e1, _⟩ := (r.value p).1 f e; rw [e1]; rfl))
theorem op_idx_dct {d : Addr} {kvs : List (Str × Value)} {l : List (Str × FV)} {f : FV} (hd : s.heap.DictOf (strKind K.prog K.w) d kvs) (r : RVd K s.heap B l kvs) (e : dctGet l p = some f) :
    Ends K A fr B (.ok f) s (getItem (.ref d) (.str p t)) := by
  obtain ⟨z, e1, e2⟩ := (r.value p).1 f e
  exact .here fun Q E k => wpAny_getItem_of (strKind_is K.prog K.w p t) hd.mapOf e1 (k _ _ e2)
theorem op_tuple_of {fe : Env} {outer : List Env} (I : Inv K A fe outer B s.heap) {l : Addr} {vs : List Value} {fs : List FV} (ht : s.heap.IsList l (List.toArray vs)) (r : RVs K s.heap B fs vs) (hz : fs.length ≤ big) :
    Ends K A (frsOf fe outer) B (.ok (.tup fs)) s (call (.type "tuple") [.ref l]) :=
  .mk fun Q E k => call_tuple_list (hsz := by rw [List.size_toArray, r.length, ← big_line]; exact hz) ht fun h' hk => by
    have kp : Kp (frsOf fe outer) N0 s.heap h' := .of_keep hk
    have kp2 := kp.trans0 (Kp.push _ N0 h' { cls := .type "tuple", data := .seq (List.toArray vs) })
    refine k _ _ s.toks kp2 ⟨hz, _, vs, rfl, ?_, ⟨_, Heap.get?_push_size _ rfl, rfl, _, rfl⟩, r.step0 I kp2⟩
    exact fresh_notB (s := { s with heap := h' }) (I.step0 kp)
theorem op_list_of (hh : A.handled = none) {fe : Env} {outer : List Env} (I : Inv K A fe outer B s.heap) {d : Addr} {kvs : List (Str × Value)} {l : List (Str × FV)} (hd : s.heap.DictOf (strKind K.prog K.w) d kvs) (ns : (d == sysModules) = false) (r : RVd K s.heap B l kvs)
    (hz : l.length ≤ big) (hb : ∀ p ∈ l, p.1.length ≤ big) :
    Ends K A (frsOf fe outer) B (.ok (.lst (l.map fun p => .str p.1))) s (call (.type "list") [.ref d]) :=
  .mk fun Q E k => by
    obtain ⟨ep, hat⟩ := hd.dictAt
    refine kdl_call (kdl_dict (knd := strKind K.prog K.w) (kvs := kvs) (ep := ep) ns) hh hat (by rw [r.length, ← big_line]; exact hz) fun h' tk acc' c' hk hD hacc => ?_
    have kp : Kp (frsOf fe outer) N0 s.heap h' := .of_keep hk
    have nb := fresh_notB I
    have e1 : acc'.toList.length = kvs.length := by rw [Array.length_toList]; exact hacc.1
    refine k _ _ tk kp ⟨by rw [List.length_map]; exact hz, _, acc'.toList, rfl, nb, ⟨_, hD, rfl, c', by simp⟩, ?_⟩
    refine RVs.step0 I (RVs.items r e1 (fun j v e => ?_) hb) kp
    obtain ⟨k', x', e2, e3⟩ := hacc.2 j v (by rw [← Array.getElem?_toList]; exact e)
    exact ⟨k', x', e2, Value.isStrOf_shape e3⟩
theorem byteArr_eq : ∀ (is : List Int), byteArr is = (is.map fun i => i.toNat.toUInt8).toArray := by
  intro is; simp [byteArr]
theorem op_bytes_of (hh : A.handled = none) {l : Addr} {vs : List Value} {fs : List FV} {is : List Int} (ht : s.heap.IsList l (List.toArray vs)) (r : RVs K s.heap B fs vs) (e : allInts fs = some is) (hz : fs.length ≤ big)
    (hr : is.all (fun i => decide (0 ≤ i) && decide (i < 256)) = true) : Ends K A fr B (.ok (.bytes (is.map fun i => i.toNat.toUInt8))) s (call (.type "bytes") [.ref l]) :=
  .mk fun Q E k => by
    have hi := ints_are r e
    refine call_bytes_ints ht hi (fun n hn => by simpa using List.all_eq_true.mp hr n hn) (by rw [r.length, ← big_line]; exact hz) hh fun h' t' tk hk => k _ _ _ (.of_keep hk) ⟨?_, t', by rw [byteArr_eq]⟩
    rw [List.length_map, ← hi.length, r.length]; exact hz
theorem bools_at {h : Heap} : ∀ {fs : List FV} {vs : List Value} {bs : List Bool}, RVs K h B fs vs → allBools fs = some bs → vs = bs.map Value.bool
  | [], _, _, r, e => by cases r; cases e; rfl
  | f :: fs, _, bs, r, e => by
    obtain ⟨v, q, rfl, r1, r2⟩ := r
    cases f with
    | bool i =>
      cases r1
      simp only [allBools] at e
      cases q' : allBools fs with
      | none => rw [q'] at e; cases e
      | some js => rw [q'] at e; cases e; rw [bools_at r2 q']; rfl
    | _ => cases e
theorem op_all (hh : A.handled = none) {l : Addr} {vs : List Value} {fs : List FV} {bs : List Bool} (hl : s.heap.IsList l (List.toArray vs)) (r : RVs K s.heap B fs vs) (e : allBools fs = some bs) :
    Ends K A fr B (.ok (.bool (bs.all id))) s (call (.builtin "all") [.ref l]) :=
  .mk fun Q E k => by
    have hb := bools_at r e
    have hlt : l < s.heap.objs.size := by obtain ⟨_, e, _⟩ := hl; exact Heap.lt_size e
    refine call_all_walk (wpAny_pyIter_list hl ?_)
    refine ⟨s.heap.objs.size, [s.heap.objs.size, l], [s.heap.objs.size], vs.toArray.size, _, _, fun i => (bs[i]?).getD true, rfl, Walks.list (A := A.in1) hh _ l (Nat.ne_of_lt hlt) vs.toArray,
      ⟨⟨_, Heap.get?_push_size _ rfl, rfl, rfl⟩, hl.push _⟩, fun i v s' Q' E' hP hQ => ?_, fun h' tk hk => ?_⟩
    · have hv : vs[i]? = some v := by simpa using hP
      rw [hb, List.getElem?_map] at hv
      cases q : bs[i]? with
      | none => rw [q] at hv; cases hv
      | some z =>
        rw [q] at hv
        cases hv
        simp only [q, Option.getD_some] at hQ
        exact wpAny_truthy_bool hQ
    · have e2 : ((List.range vs.toArray.size).all fun i => (bs[i]?).getD true) = bs.all id := by
        rw [List.size_toArray, hb, List.length_map]; exact LSm.range_all bs
      rw [e2]
      exact k _ _ _ (.of_keep (LSm.kept_iter hk)) rfl
end
end Mine
end

section
open PySem PySem.W PySem.Calls PyProof.Rows
namespace Mine
theorem buf_eq {id : String} {b : Array UInt8} {t : Tok} : Builtin.Bytes.takeBufferQuiet? id (.bytes b t) 0 = pure (some (b, none)) := by
  unfold Builtin.Bytes.takeBufferQuiet? Builtin.Bytes.takeBuffer?
  rw [KBy.special_eq KBy.look_buffer, KBy.own_buffer]
  have e : Builtin.Bytes.buffer? id (.bytes b t) ((0 : Int) == Builtin.Bytes.fullReadOnly) = pure (some b) := KBy.buffer_eq
  rw [e]
  kernel_rfl
theorem joined_nil : ∀ (ps : List (Array UInt8)) (k : Nat) (acc : Array UInt8), ((ps.zipIdx k).foldl (fun out (q : Array UInt8 × Nat) => (if q.2 > 0 then out ++ (#[] : Array UInt8) else out) ++ q.1) acc) = acc ++ ((ps.map (·.toList)).flatten).toArray
  | [], k, acc => by simp
  | p :: ps, k, acc => by
    rw [List.zipIdx_cons, List.foldl_cons, joined_nil ps]
    apply Array.ext'
    simp
theorem joined_eq (bs : List (List UInt8)) : Builtin.Bytes.joined #[] (bs.map List.toArray) = bs.flatten.toArray := by
  have := joined_nil (bs.map List.toArray) 0 #[]
  rw [List.map_map] at this
  have e : ((fun x : Array UInt8 => x.toList) ∘ List.toArray) = id := by funext x; rfl
  rw [e, List.map_id] at this
  unfold Builtin.Bytes.joined
  rw [this]; simp
theorem sizes_eq : ∀ (bs : List (List UInt8)) (n : Nat), (bs.map List.toArray).foldl (fun x1 x2 => x1 + x2.size) n = n + bs.flatten.length
  | [], n => by simp
  | b :: bs, n => by
    rw [List.map_cons, List.foldl_cons, sizes_eq bs]
    simp; omega
section
variable {prog : Program} {w : World} {A : Around} {s : Shared} {l : Addr} {vs : List Value} {t : Tok} {P : Fin → Shared → Prop} {E : Value → Shared → Prop}
theorem letgo_all : ∀ (l : List (Value × Option Value)) (keep : List Value) {Q : Unit → Shared → Prop} {s : Shared}, (∀ p ∈ l, p.2 = none) → Q () s → wpAny (model prog w) A (Builtin.Bytes.joinLetGo l keep) Q E s
  | [], _, Q, s, _, h => wpAny_pure h
  | (x, u) :: r, keep, Q, s, hn, h => by
    have e : u = none := hn (x, u) (.head _)
    subst e
    unfold Builtin.Bytes.joinLetGo
    dsimp only
    exact wpAny_bind (wpAny_letGo (letgo_all r keep (fun p hp => hn p (.tail _ hp)) h))

theorem join_tree {bs : List (List UInt8)} (hl : s.heap.IsList l (List.toArray vs)) (hb : ∀ (i : Nat) (v : Value), vs[i]? = some v → ∃ b t, bs[i]? = some b ∧ v = Value.bytes b.toArray t) (hlen : bs.length = vs.length) (hz : bs.flatten.length ≤ big)
    (h : ∀ t tk, P (.done (.ret (.bytes bs.flatten.toArray t))) { s with toks := tk }) :
    wpAny (model prog w) A (Builtin.«bytes.join» ⟨[.bytes #[] t, .ref l], []⟩) P E s := by
  unfold Builtin.«bytes.join» Builtin.Bytes.joinM
  refine wpAny_bind (wpAny_of_eq (a := (.bytes #[] t, .ref l)) rfl ?_)
  dsimp -zeta only
  refine wpAny_bind ?_
  unfold Builtin.Bytes.joinItems
  refine wpAny_bind (wpAny_typeOf hl.typeIs ?_)
  rw [if_pos (by decide)]
  refine wpAny_pure ?_
  obtain ⟨o, ho, hc, n, hd⟩ := hl
  refine wpAny_bind (wpAny_seqItems ho hd ?_)
  dsimp -zeta only
  extract_lets parts taken jp
  have key : wpAny (model prog w) A (jp ()) P E s := by
    unfold jp
    refine wpAny_bind ?_
    rw [Std.Legacy.Range.forIn_eq_forIn_range']
    simp only [Std.Legacy.Range.size, Nat.sub_zero, Nat.add_sub_cancel, Nat.div_one]
    refine wpAny_forIn_list _ (fun rest r s' => s' = s ∧ ∃ i, rest = List.range' i ((List.toArray vs).size - i) ∧ i ≤ (List.toArray vs).size ∧ r.1 = ((bs.take i).map List.toArray).toArray ∧ r.2 = (vs.take i).map fun v => (v, none)) _ ?_ ?_ _ _ ⟨rfl, 0, by simp, Nat.zero_le _, by simp [parts], by simp [taken]⟩
    · rintro x rest ⟨r1, r2⟩ s' ⟨rfl, i, hr, hi, e1, e2⟩
      dsimp only at e1 e2
      have hlt : i < (List.toArray vs).size := by
        rcases Nat.lt_or_ge i (List.toArray vs).size with h | h
        · exact h
        · rw [Nat.sub_eq_zero_of_le h] at hr; simp at hr
      obtain ⟨rfl, hrest⟩ : x = i ∧ rest = List.range' (i + 1) ((List.toArray vs).size - (i + 1)) := by
        have e : (List.toArray vs).size - i = ((List.toArray vs).size - (i + 1)) + 1 := by omega
        rw [e, List.range'_succ] at hr
        injection hr with h1 h2
        exact ⟨h1, h2⟩
      have hlt' : x < vs.length := by simpa using hlt
      obtain ⟨b, tb, eb, ev⟩ := hb x _ (List.getElem?_eq_getElem hlt')
      refine wpAny_bind (wpAny_seqItems ho hd ?_)
      dsimp only
      rw [if_neg (by
        rw [e2]
        have : ((vs.take x).map fun v => ((v, none) : Value × Option Value)).any (fun z => z.fst.onHeap) = false := by
          rw [List.any_eq_false]
          intro p hp
          obtain ⟨v, hv, rfl⟩ := List.mem_map.mp hp
          obtain ⟨j, hj⟩ := List.getElem?_of_mem (List.mem_of_mem_take hv)
          obtain ⟨b', t', _, rfl⟩ := hb j v hj
          exact Bool.false_ne_true
        rw [this]; decide)]
      have ey : (List.toArray vs).getD x Value.none = .bytes b.toArray tb := by
        rw [← ev]; simp [hlt']
      rw [ey]
      refine wpAny_bind (wpAny_holding (wpAny_of_eq buf_eq ?_))
      dsimp only
      refine wpAny_bind (wpAny_seqItems ho hd ?_)
      dsimp only
      rw [if_neg (by simp)]
      refine wpAny_pure ⟨rfl, x + 1, hrest, hlt, ?_, ?_⟩
      · rw [e1, List.take_add_one, eb]; simp
      · rw [e2, List.take_add_one, List.getElem?_eq_getElem hlt', ev]; simp
    · rintro ⟨r1, r2⟩ s' ⟨rfl, i, hr, hi, e1, e2⟩
      dsimp only at e1 e2
      have hi' : i = (List.toArray vs).size := by
        rcases Nat.lt_or_ge i (List.toArray vs).size with h | h
        · have e : (List.toArray vs).size - i = ((List.toArray vs).size - (i + 1)) + 1 := by omega
          rw [e, List.range'_succ] at hr; exact nomatch hr
        · exact Nat.le_antisymm hi h
      have hi2 : i = vs.length := by rw [hi', List.size_toArray]
      rw [hi2, ← hlen, List.take_length] at e1
      rw [hi2, List.take_length] at e2
      refine wpAny_bind (wpAny_of_eq (a := #[]) rfl ?_)
      dsimp only
      have e4 : Array.foldl (fun x1 (x2 : Array UInt8) => x1 + x2.size) ((#[] : Array UInt8).size * (r1.size - 1)) r1 = bs.flatten.length := by
        rw [e1, ← Array.foldl_toList]
        rw [show (bs.map List.toArray).toArray.toList = bs.map List.toArray from rfl, sizes_eq]
        simp
      rw [e4, if_neg (by
        unfold Builtin.Bytes.tooLong
        rw [← big_line, decide_eq_false (by omega)]
        exact Bool.false_ne_true), e1]
      refine wpAny_bind ?_
      show wpAny _ _ (mkBytes (Builtin.Bytes.joined #[] (bs.map List.toArray))) _ _ _
      rw [joined_eq]
      refine wpAny_mkBytes ?_ (by rw [List.size_toArray, ← big_line]; exact hz)
      refine wpAny_bind (wpAny_holding (wpAny_point ?_))
      refine wpAny_bind (letgo_all _ _ (fun p hp => ?_) ?_)
      · rw [e2] at hp
        obtain ⟨v, hv, rfl⟩ := List.mem_map.mp hp
        rfl
      · exact wpAny_pure (h _ _)
  clear_value jp
  rw [if_pos (by decide)]
  rcases vs with _ | ⟨v, _ | ⟨v', r⟩⟩
  · exact key
  · obtain ⟨b, tb, eb, ev⟩ := hb 0 v rfl
    subst ev
    have hbs : bs = [b] := by
      cases bs with
      | nil => cases eb
      | cons c r => cases eb; simp at hlen; subst hlen; rfl
    subst hbs
    show wpAny _ _ (typeOf (Value.bytes b.toArray tb) >>= _) _ _ _
    refine wpAny_bind (wpAny_typeOf (PySem.W.typeIs_bytes _ _ _) ?_)
    rw [if_pos (by decide)]
    refine wpAny_bind (wpAny_rule (wpAny_pure ?_))
    have := h tb s.toks
    have e9 : [b].flatten = b := by simp
    rw [e9] at this
    exact this
  · exact key
end
end Mine
end

section
open PySem PySem.W PySem.Calls PyProof.Rows
namespace Mine
open PySem.Builtin.Int (intBits)
theorem u8_eq {a b : Nat} (h : a % 256 = b % 256) : a.toUInt8 = b.toUInt8 := by
  apply UInt8.toNat_inj.mp
  show (UInt8.ofNat a).toNat = (UInt8.ofNat b).toNat
  rw [UInt8.toNat_ofNat', UInt8.toNat_ofNat']
  exact h
theorem shift8 (X i : Nat) : X >>> (8 * i) = X / 256 ^ i := by
  have e2 : (2 : Nat) ^ 8 = 256 := by decide
  rw [Nat.shiftRight_eq_div_pow, Nat.pow_mul, e2]
theorem u8_lit {a b : Nat} (h : a % 256 = b % 256) : (a % 256).toUInt8 = b.toUInt8 := u8_eq (by omega)
theorem low4 {x : Int} (h0 : -2147483648 ≤ x) (h1 : x < 4294967296) : KTBy.low x 4 = le4 x := by
  unfold KTBy.low
  have key : ∀ own : Nat, min 4 (intBits x / 8 + 1) = own → own < 4 → x.natAbs < 2 ^ (8 * own - 1) := by
    intro own ho hlt
    have h2 : intBits x ≤ 8 * own - 1 := by omega
    exact intBits_le_iff.mp h2
  have hr : min 4 (intBits x / 8 + 1) = 1 ∨ min 4 (intBits x / 8 + 1) = 2 ∨ min 4 (intBits x / 8 + 1) = 3 ∨ min 4 (intBits x / 8 + 1) = 4 := by omega
  have e0 : ∀ n : Nat, n / 256 ^ 0 = n := fun n => by simp
  have e1 : ∀ n : Nat, n / 256 ^ 1 = n / 256 := fun n => by simp
  have e2 : ∀ n : Nat, n / 256 ^ 2 = n / 65536 := fun n => rfl
  have e3 : ∀ n : Nat, n / 256 ^ 3 = n / 16777216 := fun n => rfl
  have f1 : (256 : Int) ^ 1 = 256 := rfl
  have f2 : (256 : Int) ^ 2 = 65536 := rfl
  have f3 : (256 : Int) ^ 3 = 16777216 := rfl
  have f4 : (256 : Int) ^ 4 = 4294967296 := rfl
  have z255 : (255 : UInt8) = (255 : Nat).toUInt8 := rfl
  have z0 : (0 : UInt8) = (0 : Nat).toUInt8 := rfl
  have p1 : 2 ^ (8 * 1 - 1) = 128 := rfl
  have p2 : 2 ^ (8 * 2 - 1) = 32768 := rfl
  have p3 : 2 ^ (8 * 3 - 1) = 8388608 := rfl
  unfold le4
  rcases hr with e | e | e | e
  · have k := key _ e (by decide)
    rw [p1] at k
    rw [e]
    simp only [shift8, List.range_succ, List.range_zero, List.nil_append, List.map_cons, List.map_nil, List.singleton_append, List.replicate, Nat.reduceSub, e0, f1]
    by_cases hx : x < 0
    · rw [if_pos hx, z255]
      congr 1
      · exact u8_eq (by omega)
      congr 1
      · exact u8_eq (by omega)
      congr 1
      · exact u8_eq (by omega)
      congr 1
      · exact u8_eq (by omega)
    · rw [if_neg hx, z0]
      congr 1
      · exact u8_eq (by omega)
      congr 1
      · exact u8_eq (by omega)
      congr 1
      · exact u8_eq (by omega)
      congr 1
      · exact u8_eq (by omega)
  · have k := key _ e (by decide)
    rw [p2] at k
    rw [e]
    simp only [shift8, List.range_succ, List.range_zero, List.nil_append, List.map_cons, List.map_nil, List.singleton_append, List.cons_append, List.replicate, Nat.reduceSub, e0, e1, f2]
    by_cases hx : x < 0
    · rw [if_pos hx, z255]
      congr 1
      · exact u8_eq (by omega)
      congr 1
      · exact u8_eq (by omega)
      congr 1
      · exact u8_eq (by omega)
      congr 1
      · exact u8_eq (by omega)
    · rw [if_neg hx, z0]
      congr 1
      · exact u8_eq (by omega)
      congr 1
      · exact u8_eq (by omega)
      congr 1
      · exact u8_eq (by omega)
      congr 1
      · exact u8_eq (by omega)
  · have k := key _ e (by decide)
    rw [p3] at k
    rw [e]
    simp only [shift8, List.range_succ, List.range_zero, List.nil_append, List.map_cons, List.map_nil, List.singleton_append, List.cons_append, List.replicate, Nat.reduceSub, e0, e1, e2, f3]
    by_cases hx : x < 0
    · rw [if_pos hx, z255]
      congr 1
      · exact u8_eq (by omega)
      congr 1
      · exact u8_eq (by omega)
      congr 1
      · exact u8_eq (by omega)
      congr 1
      · exact u8_eq (by omega)
    · rw [if_neg hx, z0]
      congr 1
      · exact u8_eq (by omega)
      congr 1
      · exact u8_eq (by omega)
      congr 1
      · exact u8_eq (by omega)
      congr 1
      · exact u8_eq (by omega)
  · rw [e]
    simp only [shift8, List.range_succ, List.range_zero, List.nil_append, List.map_cons, List.map_nil, List.singleton_append, List.cons_append, List.replicate, Nat.reduceSub, e0, e1, e2, e3, f4, List.append_nil]

section
variable {K : Cfg} {A : Around} {fr : List Addr} {B : Addr → Prop} {s : Shared} {t u v : Tok} {x : Int}
theorem le4_length (x : Int) : (le4 x).length = 4 := rfl
theorem toB_tail {P : Fin → Shared → Prop} {E : Value → Shared → Prop} {M : Model} (h0 : -2147483648 ≤ x) (h1 : x < 4294967296) (h : ∀ t' k, P (.done (.ret (.bytes (le4 x).toArray t'))) { s with toks := k }) :
    wpAny M A (mkBytes (KTBy.low x (Int.toNat (4 : Nat))).toArray >>= fun b => ret b) P E s := by
  rw [show Int.toNat ((4 : Nat) : Int) = 4 from rfl, low4 h0 h1]
  exact wpAny_bind (wpAny_mkBytes (wpAny_pure (h _ _)) (by rw [List.size_toArray, le4_length, sizeLine_eq]; decide))
theorem args4 (a b c d : Value) : argsOk "int.to_bytes" ⟨[a, b, c], [(Str.ofString "signed", d)]⟩ := by unfold argsOk; kernel_rfl
theorem op_toB_signed (h0 : -2147483648 ≤ x) (h1 : x < 2147483648) :
    Ends K A fr B (.ok (.bytes (le4 x))) s (call (.builtin "int.to_bytes") [.int x t, .int 4 u, .str (Str.ofString "little") v] [(Str.ofString "signed", .bool true)]) :=
  .here fun Q E k => by
    have hb : intBits (if x < 0 then -x - 1 else x) + 1 ≤ 32 := by
      have : intBits (if x < 0 then -x - 1 else x) ≤ 31 := intBits_le_iff.mpr (by split <;> omega)
      omega
    refine wpAny_call_entry_kw KTBy.slot (typeIs_int s x t) KTBy.entry ?_ (args4 _ _ _ _)
    show wpAny _ _ (Builtin.Int.intOfSelf (.int x t) >>= fun y => _) _ _ s
    refine wpAny_bind (wpAny_of_eq (a := x) rfl ?_)
    show wpAny _ _ (Builtin.Int.intBindNamed "to_bytes" ["length", "byteorder", "signed"] 0 2 [.int 4 u, .str (PySem.Str.ofString "little") v] [(Str.ofString "signed", .bool true)] >>= fun l => _) _ _ s
    refine wpAny_bind (wpAny_of_eq (a := [some (.int 4 u), some (.str (PySem.Str.ofString "little") v), some (.bool true)]) (by kernel_rfl) ?_)
    show wpAny _ _ (Builtin.Int.intIndex "int.to_bytes" (.int 4 u) >>= fun n => _) _ _ s
    refine wpAny_bind (wpAny_of_eq (a := (4 : Int)) rfl ?_)
    refine KTBy.if_not (by decide) ?_
    refine wpAny_bind (wpAny_of_eq (a := PySem.Str.ofString "little") (by kernel_rfl) ?_)
    refine wpAny_bind (wpAny_truthy_bool ?_)
    refine wpAny_bind (wpAny_of_eq (a := true) (by kernel_rfl) ?_)
    refine wpAny_ite_false (by decide) ?_
    refine wpAny_ite_false (by decide) ?_
    refine wpAny_ite_false (by rw [sizeLine_eq]; decide) ?_
    refine KTBy.if_not (by show (decide (x < 0) && !true) = false; rw [Bool.not_true, Bool.and_false]) ?_
    refine KTBy.if_not (by show (_ && decide ((intBits (if x < 0 then -x - 1 else x) : Int) + 1 > 8 * (4 : Int))) = false; rw [decide_eq_false (by omega), Bool.and_false]) ?_
    exact toB_tail h0 (by omega) fun t' k' => ⟨_, rfl, k _ _ ⟨by rw [le4_length]; decide, t', rfl⟩⟩
theorem op_toB_plain (h0 : 0 ≤ x) (h1 : x < 4294967296) :
    Ends K A fr B (.ok (.bytes (le4 x))) s (call (.builtin "int.to_bytes") [.int x t, .int 4 u, .str (Str.ofString "little") v]) :=
  .here fun Q E k => by
    have hb : intBits x ≤ 32 := intBits_le_iff.mpr (by omega)
    refine wpAny_call_entry KTBy.slot (typeIs_int s x t) KTBy.entry ?_ (KTBy.args _ _ _)
    show wpAny _ _ (Builtin.Int.intOfSelf (.int x t) >>= fun y => _) _ _ s
    refine wpAny_bind (wpAny_of_eq (a := x) rfl ?_)
    show wpAny _ _ (Builtin.Int.intBindNamed "to_bytes" ["length", "byteorder", "signed"] 0 2 [.int 4 u, .str (PySem.Str.ofString "little") v] [] >>= fun l => _) _ _ s
    refine wpAny_bind (wpAny_of_eq (a := [some (.int 4 u), some (.str (PySem.Str.ofString "little") v), none]) (by kernel_rfl) ?_)
    show wpAny _ _ (Builtin.Int.intIndex "int.to_bytes" (.int 4 u) >>= fun n => _) _ _ s
    refine wpAny_bind (wpAny_of_eq (a := (4 : Int)) rfl ?_)
    refine KTBy.if_not (by decide) ?_
    refine wpAny_bind (wpAny_of_eq (a := PySem.Str.ofString "little") (by kernel_rfl) ?_)
    refine wpAny_bind (wpAny_of_eq (a := false) rfl ?_)
    refine wpAny_bind (wpAny_of_eq (a := true) (by kernel_rfl) ?_)
    refine wpAny_ite_false (by decide) ?_
    refine wpAny_ite_false (by decide) ?_
    refine wpAny_ite_false (by rw [sizeLine_eq]; decide) ?_
    refine KTBy.if_not (by show (decide (x < 0) && !false) = false; rw [decide_eq_false (show ¬ x < 0 by omega)]; rfl) ?_
    refine KTBy.if_not (by show (_ && decide ((intBits x : Int) > 8 * (4 : Int))) = false; rw [decide_eq_false (by omega), Bool.and_false]) ?_
    exact toB_tail (by omega) h1 fun t' k' => ⟨_, rfl, k _ _ ⟨by rw [le4_length]; decide, t', rfl⟩⟩
end
end Mine
end

section
open PySem PySem.W PySem.Calls PyProof.Rows
namespace Mine
theorem unLE_snoc : ∀ (l : List UInt8) (c : UInt8), unLE (l ++ [c]) = unLE l + 256 ^ l.length * c.toNat
  | [], c => by simp [unLE]
  | b :: l, c => by
    rw [List.cons_append, unLE, unLE, unLE_snoc l c, List.length_cons, Nat.pow_succ]
    have : 256 * (unLE l + 256 ^ l.length * c.toNat) = 256 * unLE l + 256 ^ l.length * 256 * c.toNat := by rw [Nat.mul_add]; congr 1; rw [← Nat.mul_assoc, Nat.mul_comm 256]
    omega
theorem unLE_lt : ∀ (l : List UInt8), unLE l < 256 ^ l.length
  | [] => by simp [unLE]
  | b :: l => by
    have := unLE_lt l
    have hb := b.toNat_lt
    rw [unLE, List.length_cons, Nat.pow_succ]
    omega
theorem fold_un : ∀ (l : List UInt8), l.reverse.foldl (fun (acc : Nat) (b : UInt8) => acc * 256 + b.toNat) 0 = unLE l
  | [] => rfl
  | b :: l => by
    rw [List.reverse_cons, List.foldl_append, fold_un l, List.foldl_cons, List.foldl_nil, unLE]; omega
theorem neg_iff (l : List UInt8) : (l.reverse.head?.any fun c => decide (c ≥ 128)) = (decide (2 * unLE l ≥ 256 ^ l.length) && !l.isEmpty) := by
  rcases List.eq_nil_or_concat l with rfl | ⟨l', c, rfl⟩
  · simp
  · have h1 := unLE_lt l'
    rw [List.concat_eq_append, List.reverse_append, unLE_snoc, List.length_append]
    have e : (l' ++ [c]).isEmpty = false := by simp
    rw [e]
    simp only [List.reverse_cons, List.reverse_nil, List.nil_append, List.cons_append, List.head?_cons, Option.any_some, List.length_cons, List.length_nil, Nat.zero_add, Nat.pow_succ, Nat.pow_zero, Nat.one_mul, Bool.not_false, Bool.and_true]
    rw [Bool.eq_iff_iff, decide_eq_true_eq, decide_eq_true_eq]
    have hc : c ≥ 128 ↔ c.toNat ≥ 128 := UInt8.le_iff_toNat_le
    rw [hc]
    generalize 256 ^ l'.length = p at *
    constructor
    · intro h
      have : p * 128 ≤ p * c.toNat := Nat.mul_le_mul_left p h
      omega
    · intro h
      apply Nat.le_of_not_lt
      intro hlt
      have : p * c.toNat ≤ p * 127 := Nat.mul_le_mul_left p (by omega)
      omega
section
variable {M : Model} {A : Around} {E : Value → Shared → Prop} {s : Shared}
theorem grownI {n : Int} {Q : Value → Shared → Prop} (hn : n.natAbs < 2 ^ 65) (h : Q (.int n s.toks) { s with toks := s.toks + 1 }) : wpAny M A (mkIntGrown n) Q E s := by
  unfold mkIntGrown
  have hl : ¬ (n.natAbs.log2 ≥ bitsLine) := by
    have hb : bitsLine = 134217728 := by first | rfl | decide
    by_cases hz : n.natAbs = 0
    · rw [hz, hb]; decide
    · have h1 := (Nat.log2_lt hz).mpr hn
      omega
  rw [if_neg hl]
  exact wpAny_mkInt h
theorem tree_from {l : List UInt8} {t u : Tok} {sg : Bool} {P : Fin → Shared → Prop} (hl : l.length ≤ 8) (h : P (.done (.ret (.int (ofLE l sg) s.toks))) { s with toks := s.toks + 1 }) :
    wpAny M A (Builtin.«int.from_bytes» ⟨[.type "int", .bytes l.toArray t, .str (PySem.Str.ofString "little") u], [(Str.ofString "signed", .bool sg)]⟩) P E s := by
  unfold Builtin.«int.from_bytes»
  refine wpAny_bind (wpAny_of_eq (a := true) KFB.type_int ?_)
  refine KFB.if_not rfl ?_
  refine wpAny_bind (wpAny_of_eq (a := true) F.conv_sub_int ?_)
  refine KFB.if_not rfl ?_
  refine wpAny_bind (wpAny_of_eq (a := [some (.bytes l.toArray t), some (.str (PySem.Str.ofString "little") u), some (.bool sg)]) (by kernel_rfl) ?_)
  refine wpAny_bind (wpAny_of_eq (a := PySem.Str.ofString "little") (by kernel_rfl) ?_)
  refine wpAny_bind (wpAny_truthy_bool ?_)
  refine wpAny_bind (wpAny_of_eq (a := true) (by kernel_rfl) ?_)
  refine wpAny_bind (wpAny_of_eq (a := l.toArray) rfl ?_)
  show wpAny _ _ (mkIntGrown (if (sg && (l.reverse.head?.any fun c => decide (c ≥ 128))) = true then l.reverse.foldl (fun (acc : Int) (b : UInt8) => acc * 256 + (b.toNat : Int)) ((0 : Nat) : Int) - 256 ^ l.reverse.length else l.reverse.foldl (fun (acc : Int) (b : UInt8) => acc * 256 + (b.toNat : Int)) ((0 : Nat) : Int)) >>= fun v => _) _ _ _
  rw [KFB.foldI_eq, fold_un, neg_iff, List.length_reverse]
  have hu := unLE_lt l
  have h2 : 256 ^ l.length ≤ 256 ^ 8 := Nat.pow_le_pow_right (by decide) hl
  have e : (if (sg && (decide (2 * unLE l ≥ 256 ^ l.length) && !l.isEmpty)) = true then ((unLE l : Nat) : Int) - 256 ^ l.length else ((unLE l : Nat) : Int)) = ofLE l sg := by
    unfold ofLE
    rw [Bool.and_assoc, Int.natCast_pow]
    rfl
  rw [e]
  refine wpAny_bind (grownI ?_ ?_)
  · unfold ofLE
    split
    · omega
    · omega
  · refine KFB.if_so (by decide +kernel) ?_
    exact wpAny_bind (wpAny_pure (wpAny_pure h))
end
end Mine
end

section
open PySem PySem.W PySem.Calls PyProof.Rows
namespace Mine
open Builtin
theorem getD_drop {b : Array UInt8} {p : Nat} {c : UInt8} {r : List UInt8} (h : b.toList.drop p = c :: r) : b.getD p 0 = c ∧ b.toList.drop (p + 1) = r ∧ p < b.size := by
  have h1 : b.toList[p]? = some c := by
    have := congrArg (fun l => l[0]?) h
    simpa [List.getElem?_drop] using this
  have h2 : p < b.size := by
    have := (List.getElem?_eq_some_iff.mp h1).1
    simpa using this
  refine ⟨?_, ?_, h2⟩
  · rw [Array.getElem?_toList] at h1
    rw [Array.getD_eq_getD_getElem?, h1]; rfl
  · rw [← List.drop_drop, h]; rfl
theorem get_drop {b : Array UInt8} {p : Nat} {c : UInt8} {r : List UInt8} (h : b.toList.drop p = c :: r) : b[p]? = some c := by
  have h1 : b.toList[p]? = some c := by
    have := congrArg (fun l => l[0]?) h
    simpa [List.getElem?_drop] using this
  rwa [Array.getElem?_toList] at h1
theorem at1 {b : Array UInt8} {p : Nat} {a : UInt8} {r : List UInt8} (h : b.toList.drop p = a :: r) (ha : a < 128) : Bytes.utf8At b p = (.char a.toNat, p + 1) := by
  have h0 := (getD_drop h).1
  have ha' : a.toNat < 0x80 := UInt8.lt_iff_toNat_lt.mp ha
  unfold Bytes.utf8At
  rw [h0]
  exact if_pos ha'
theorem at2 {b : Array UInt8} {p : Nat} {r : List UInt8} (h : b.toList.drop p = 195 :: 169 :: r) : Bytes.utf8At b p = (.char 233, p + 2) := by
  have h0 := (getD_drop h).1
  have h1 := get_drop (getD_drop h).2.1
  unfold Bytes.utf8At
  rw [h0]
  simp [h1, List.range_succ, Except.bind]
theorem at3 {b : Array UInt8} {p : Nat} {r : List UInt8} (h : b.toList.drop p = 226 :: 130 :: 172 :: r) : Bytes.utf8At b p = (.char 8364, p + 3) := by
  have h0 := (getD_drop h).1
  have h1 := get_drop (getD_drop h).2.1
  have h2 := get_drop (getD_drop (getD_drop h).2.1).2.1
  unfold Bytes.utf8At
  rw [h0]
  have h2' : b[p + 2]? = some 172 := h2
  simp [h1, h2', List.range_succ, Except.bind]
theorem at4 {b : Array UInt8} {p : Nat} {r : List UInt8} (h : b.toList.drop p = 240 :: 159 :: 152 :: 128 :: r) : Bytes.utf8At b p = (.char 128512, p + 4) := by
  have h0 := (getD_drop h).1
  have h1 := get_drop (getD_drop h).2.1
  have h2 := get_drop (getD_drop (getD_drop h).2.1).2.1
  have h3 := get_drop (getD_drop (getD_drop (getD_drop h).2.1).2.1).2.1
  unfold Bytes.utf8At
  rw [h0]
  have h2' : b[p + 2]? = some 152 := h2
  have h3' : b[p + 3]? = some 128 := h3
  simp [h1, h2', h3', List.range_succ, Except.bind]

theorem dec_cases {l : List UInt8} {cs : List Nat} (h : decSigns l = some cs) :
    (l = [] ∧ cs = []) ∨ (∃ a r cs', l = a :: r ∧ a < 128 ∧ cs = a.toNat :: cs' ∧ decSigns r = some cs') ∨ (∃ r cs', l = 195 :: 169 :: r ∧ cs = 233 :: cs' ∧ decSigns r = some cs') ∨
    (∃ r cs', l = 226 :: 130 :: 172 :: r ∧ cs = 8364 :: cs' ∧ decSigns r = some cs') ∨ (∃ r cs', l = 240 :: 159 :: 152 :: 128 :: r ∧ cs = 128512 :: cs' ∧ decSigns r = some cs') := by
  cases l with
  | nil => simp [decSigns] at h; exact .inl ⟨rfl, h⟩
  | cons a r =>
    rw [decSigns.eq_def] at h
    dsimp only at h
    split at h
    · obtain ⟨cs', e, rfl⟩ := Option.map_eq_some_iff.mp h
      exact .inr (.inl ⟨a, r, cs', rfl, by assumption, rfl, e⟩)
    · split at h
      · split at h
        · obtain ⟨cs', e, rfl⟩ := Option.map_eq_some_iff.mp h
          subst_vars
          exact .inr (.inr (.inl ⟨_, cs', rfl, rfl, e⟩))
        · cases h
      · split at h
        · rename_i hc
          obtain ⟨cs', e, rfl⟩ := Option.map_eq_some_iff.mp h
          obtain ⟨rfl, rfl⟩ := hc
          exact .inr (.inr (.inr (.inl ⟨_, cs', rfl, rfl, e⟩)))
        · cases h
      · split at h
        · rename_i hc
          obtain ⟨cs', e, rfl⟩ := Option.map_eq_some_iff.mp h
          obtain ⟨rfl, rfl, rfl⟩ := hc
          exact .inr (.inr (.inr (.inr ⟨_, cs', rfl, rfl, e⟩)))
        · cases h
      · cases h

def decBody (id : String) (b : Array UInt8) (_x : Nat) (q : Nat × Array Nat × _codecs.Faults) : Sem (ForInStep (Nat × Array Nat × _codecs.Faults)) :=
  let jp := fun (_ : PUnit) =>
    if q.1 ≥ b.size then pure (ForInStep.done (q.1, q.2.1, q.2.2))
    else match _codecs.utf8Decoder.find true b q.1 with
      | _codecs.Found.text cs nx => pure (ForInStep.yield (nx, q.2.1 ++ cs.toArray, q.2.2))
      | _codecs.Found.refuse tag => do
        (unsupported s!"{id}:{tag}" : Sem PUnit)
        pure (ForInStep.yield (q.1, q.2.1, q.2.2))
      | _codecs.Found.bad stop reason mayGrow =>
        if (mayGrow && !true) = true then do
          rule s!"{id}.held-back"
          pure (ForInStep.done (q.1, q.2.1, q.2.2))
        else do
          rule s!"{id}.fault"
          let x ← _codecs.decodeFault id q.2.2 none _codecs.utf8Decoder.own _codecs.utf8Decoder.name b q.1 stop reason
          match x with
          | (st', text, nx) => pure (ForInStep.yield (nx, q.2.1 ++ text, st'))
  if q.2.1.size > sizeLine then do
    let r ← (unsupported "str:memory" : Sem PUnit)
    jp r
  else jp ()
theorem run_eq (id : String) (b : Array UInt8) : _codecs.runDecoder id _codecs.utf8Decoder none true b 0 [] = (do
    let q ← forIn [:b.size] ((0 : Nat), (#[] : Array Nat), ({ held := [] } : _codecs.Faults)) (decBody id b)
    pure (q.2.1, q.1)) := rfl
theorem body_step {id : String} {b : Array UInt8} {x p n : Nat} {c : Nat} {out : Array Nat} {st : _codecs.Faults} (h : Bytes.utf8At b p = (.char c, n)) (hp : p < b.size) (hs : out.size ≤ big) :
    decBody id b x (p, out, st) = pure (.yield (n, out.push c, st)) := by
  unfold decBody
  dsimp only
  rw [if_neg (by rw [← big_line]; omega), if_neg (by omega)]
  have : _codecs.utf8Decoder.find true b p = .char c n := by
    show (match Bytes.utf8At b p with | (.char c, nx) => _codecs.Found.char c nx | (.bad _ stop reason, _) => _) = _
    rw [h]
  rw [this]
  show pure (ForInStep.yield (n, out ++ [c].toArray, st)) = _
  congr 4
theorem body_done {id : String} {b : Array UInt8} {x p : Nat} {out : Array Nat} {st : _codecs.Faults} (hp : b.size ≤ p) (hs : out.size ≤ big) :
    decBody id b x (p, out, st) = pure (.done (p, out, st)) := by
  unfold decBody
  dsimp only
  rw [if_neg (by rw [← big_line]; omega), if_pos hp]
theorem dec_loop (id : String) (b : Array UInt8) (st : _codecs.Faults) : ∀ (l : List Nat) (p : Nat) (out : Array Nat) (cs : List Nat), decSigns (b.toList.drop p) = some cs → (b.toList.drop p).length ≤ l.length → out.size + cs.length ≤ big → p ≤ b.size →
    (forIn l (p, out, st) (decBody id b) : Sem _) = pure (b.size, out ++ cs.toArray, st)
  | [], p, out, cs, h, hl, hs, hp => by
    have e : b.toList.drop p = [] := List.eq_nil_of_length_eq_zero (by simpa using hl)
    have e2 : p = b.size := by
      have := congrArg List.length e
      rw [List.length_drop, Array.length_toList] at this
      simp at this; omega
    rw [e] at h
    simp [decSigns] at h
    subst h
    subst e2
    simp
  | x :: l, p, out, cs, h, hl, hs, hp => by
    have step : ∀ (c k : Nat) (cs' : List Nat), Bytes.utf8At b p = (.char c, p + (k + 1)) → p + k < b.size → cs = c :: cs' → decSigns (b.toList.drop (p + (k + 1))) = some cs' →
        (forIn (x :: l) (p, out, st) (decBody id b) : Sem (Nat × Array Nat × _codecs.Faults)) = pure (b.size, out ++ cs.toArray, st) := by
      intro c k cs' h1 h2 h3 h4
      subst h3
      have e := dec_loop id b st l (p + (k + 1)) (out.push c) cs' h4 (by
        have : (b.toList.drop (p + (k + 1))).length = (b.toList.drop p).length - (k + 1) := by rw [List.length_drop, List.length_drop]; omega
        rw [List.length_cons] at hl
        omega) (by rw [Array.size_push]; rw [List.length_cons] at hs; omega) (by omega)
      rw [List.forIn_cons, body_step h1 (by omega) (by omega)]
      show (forIn l (p + (k + 1), out.push c, st) (decBody id b) : Sem (Nat × Array Nat × _codecs.Faults)) = _
      rw [e]
      congr 3
      apply Array.ext'; simp
    rcases dec_cases h with ⟨e1, rfl⟩ | ⟨a, r, cs', e1, ha, e2, e3⟩ | ⟨r, cs', e1, e2, e3⟩ | ⟨r, cs', e1, e2, e3⟩ | ⟨r, cs', e1, e2, e3⟩
    · have e2 : p = b.size := by
        have := congrArg List.length e1
        rw [List.length_drop, Array.length_toList] at this
        simp at this; omega
      rw [List.forIn_cons, body_done (by omega) (by simpa using hs), e2]
      show (pure (b.size, out, st) : Sem (Nat × Array Nat × _codecs.Faults)) = _
      simp
    · exact step _ 0 cs' (at1 e1 ha) (getD_drop e1).2.2 e2 (by rw [(getD_drop e1).2.1]; exact e3)
    · refine step _ 1 cs' (at2 e1) (getD_drop (getD_drop e1).2.1).2.2 e2 ?_
      have := (getD_drop (getD_drop e1).2.1).2.1
      rw [show p + (1 + 1) = p + 1 + 1 from rfl, this]; exact e3
    · refine step _ 2 cs' (at3 e1) (getD_drop (getD_drop (getD_drop e1).2.1).2.1).2.2 e2 ?_
      have := (getD_drop (getD_drop (getD_drop e1).2.1).2.1).2.1
      rw [show p + (2 + 1) = p + 1 + 1 + 1 from rfl, this]; exact e3
    · refine step _ 3 cs' (at4 e1) (getD_drop (getD_drop (getD_drop (getD_drop e1).2.1).2.1).2.1).2.2 e2 ?_
      have := (getD_drop (getD_drop (getD_drop (getD_drop e1).2.1).2.1).2.1).2.1
      rw [show p + (3 + 1) = p + 1 + 1 + 1 + 1 from rfl, this]; exact e3
theorem dec_run {l : List UInt8} {cs : List Nat} (h : decSigns l = some cs) (hs : cs.length ≤ big) (id : String) : _codecs.runDecoder id _codecs.utf8Decoder none true l.toArray 0 [] = pure (cs.toArray, l.length) := by
  have e := dec_loop id l.toArray { held := [] } (List.range' 0 l.length) 0 #[] cs (by simpa using h) (by simp) (by simpa using hs) (Nat.zero_le _)
  rw [run_eq, Std.Legacy.Range.forIn_eq_forIn_range']
  simp only [Std.Legacy.Range.size, Nat.sub_zero, Nat.add_sub_cancel, Nat.div_one, List.size_toArray]
  rw [e]
  simp

/-! encode -/
theorem sign_bytes {n : Nat} {b : List UInt8} (h : encSign n = some b) : Str.utf8Of n = b ∧ Str.isSurrogate n = false := by
  unfold encSign at h
  split at h
  · cases h
    rename_i hn
    refine ⟨?_, ?_⟩
    · unfold Str.utf8Of; rw [if_pos hn]
    · unfold Str.isSurrogate; simp; omega
  · split at h
    · cases h; subst_vars; exact ⟨by decide, by decide⟩
    · split at h
      · cases h; subst_vars; exact ⟨by decide, by decide⟩
      · split at h
        · cases h; subst_vars; exact ⟨by decide, by decide⟩
        · cases h
theorem signs_bytes : ∀ {l : List Nat} {b : List UInt8}, encSigns l = some b → (∀ n ∈ l, Str.isSurrogate n = false) ∧ ∀ acc : Array UInt8, l.foldl (fun acc y => acc ++ (Str.utf8Of y).toArray) acc = acc ++ b.toArray
  | [], b, h => by cases h; exact ⟨fun _ h => (nomatch h), fun acc => by simp⟩
  | n :: r, b, h => by
    rw [encSigns] at h
    split at h
    · rename_i x y hx hy
      cases h
      obtain ⟨a1, a2⟩ := sign_bytes hx
      obtain ⟨b1, b2⟩ := signs_bytes hy
      refine ⟨fun m hm => ?_, fun acc => ?_⟩
      · rcases List.mem_cons.mp hm with rfl | hm
        · exact a2
        · exact b1 m hm
      · rw [List.foldl_cons, a1, b2]
        apply Array.ext'; simp
    · cases h
end Mine
end

section
open PySem PySem.W PySem.Calls PyProof.Rows
namespace Mine
open Builtin
abbrev EncSt := Nat × Array UInt8 × _codecs.Faults
theorem enc_form (id : String) (v : Value) (x : PySem.Str) {b : List UInt8} (h : encSigns x.cps.toList = some b) (hb : b.length ≤ big) :
    ∃ F : Nat → EncSt → Sem (ForInStep EncSt), _codecs.encodeNarrow id _codecs.utf8Codec none v x = (do let q ← forIn [:x.length] ((0 : Nat), (#[] : Array UInt8), ({} : _codecs.Faults)) F; pure q.2.1) ∧
      (0 < x.length → ∀ k, F k (0, #[], {}) = pure (.yield (x.length, b.toArray, {}))) ∧ ∀ k st, F k (x.length, b.toArray, st) = pure (.done (x.length, b.toArray, st)) := by
  unfold _codecs.encodeNarrow
  refine ⟨_, rfl, fun hx k => ?_, fun k st => ?_⟩
  · obtain ⟨h1, h2⟩ := signs_bytes h
    dsimp only
    rw [if_neg (by simp)]
    have e0 : x.cps[0]? = some (x.cps[0]'hx) := Array.getElem?_eq_getElem hx
    rw [e0]
    dsimp only
    have hbad : ∀ n ∈ x.cps, _codecs.utf8Codec.bad n = false := fun n hn => h1 n (by simpa using hn)
    rw [if_pos (by rw [hbad _ (Array.getElem_mem hx)]; rfl)]
    have ex : x.cps.extract 0 x.cps.size = x.cps := by simp
    have ef : Array.findIdx? _codecs.utf8Codec.bad (x.cps.extract 0 x.cps.size) = none := by
      rw [ex, Array.findIdx?_eq_none_iff]
      intro n hn; exact hbad n hn
    rw [ef, ex]
    show pure (ForInStep.yield (0 + x.cps.size, _, ({} : _codecs.Faults))) = _
    rw [Nat.zero_add, Option.getD_none, ex, ← Array.foldl_toList]
    have := h2 #[]
    rw [show (#[] : Array UInt8) ++ b.toArray = b.toArray by simp] at this
    rw [show List.foldl (fun acc y => acc ++ (_codecs.utf8Codec.bytesOf y).toArray) #[] x.cps.toList = b.toArray from this]
    rfl
  · dsimp only
    rw [if_neg (by rw [← big_line, List.size_toArray]; omega)]
    have e0 : x.cps[x.length]? = none := Array.getElem?_eq_none (Nat.le_refl _)
    rw [e0]
theorem enc_run {id : String} {v : Value} {x : PySem.Str} {b : List UInt8} (h : encSigns x.cps.toList = some b) (hb : b.length ≤ big) : _codecs.encodeNarrow id _codecs.utf8Codec none v x = pure b.toArray := by
  obtain ⟨F, e, h1, h2⟩ := enc_form id v x h hb
  rw [e, Std.Legacy.Range.forIn_eq_forIn_range']
  simp only [Std.Legacy.Range.size, Nat.sub_zero, Nat.add_sub_cancel, Nat.div_one]
  rcases hn : x.length with _ | _ | n
  · have : x.cps.toList = [] := by
      apply List.eq_nil_of_length_eq_zero
      rw [Array.length_toList]; exact hn
    rw [this] at h
    cases h
    rfl
  · rw [List.range'_succ, List.forIn_cons, h1 (by omega)]
    simp [hn]
  · rw [List.range'_succ, List.forIn_cons, h1 (by omega), List.range'_succ]
    show (forIn (_ :: _) (x.length, b.toArray, ({} : _codecs.Faults)) F : Sem EncSt) >>= _ = _
    rw [List.forIn_cons, h2]
    rfl

section
variable {K : Cfg} {A : Around} {fr : List Addr} {B : Addr → Prop} {s : Shared} {t u : Tok} {x : PySem.Str} {b : List UInt8}
theorem enc_tree {e : PySem.Str} (he : e = PySem.Str.ofString "utf-8" ∨ e = PySem.Str.ofString "utf8") : «str.encode» ⟨[.str x t, .str e u], []⟩ = (_codecs.encodeRoad "str.encode" (.str x t) x e none >>= fun v => ret v) := by
  rcases he with rfl | rfl <;> kernel_rfl
theorem road_enc {e : PySem.Str} {id : String} {v : Value} (he : e = PySem.Str.ofString "utf-8" ∨ e = PySem.Str.ofString "utf8") : _codecs.encodeRoad id v x e none = (_codecs.encodeNarrow id _codecs.utf8Codec none v x >>= mkBytes) := by
  rcases he with rfl | rfl <;> (unfold _codecs.encodeRoad; rfl)
theorem op_enc {e : PySem.Str} (he : e = PySem.Str.ofString "utf-8" ∨ e = PySem.Str.ofString "utf8") (h : encSigns x.cps.toList = some b) (hb : b.length ≤ big) :
    Ends K A fr B (.ok (.bytes b)) s (call (.builtin "str.encode") [.str x t, .str e u]) :=
  .here fun Q E k => by
    refine wpAny_call_entry F.slot_str_encode (typeIs_str s x t) F.entry_str_encode ?_ (F.args_str_encode_2 _ _)
    rw [enc_tree he, road_enc he, enc_run h hb]
    refine wpAny_bind (wpAny_bind (wpAny_pure (wpAny_mkBytes ?_ (by rw [List.size_toArray, ← big_line]; exact hb))))
    exact wpAny_pure ⟨_, rfl, k _ _ ⟨hb, _, rfl⟩⟩
theorem args_dec2 (a c : Value) : argsOk "bytes.decode" ⟨[a, c], []⟩ := by unfold argsOk; kernel_rfl
theorem dec_tree {c : UInt8} {cs : List UInt8} : «bytes.decode» ⟨[.bytes (c :: cs).toArray t, .str (PySem.Str.ofString "utf-8") u], []⟩ = (mkStr (PySem.Str.ofString "utf-8") >>= fun _ => mkStr (PySem.Str.ofString "utf-8") >>= fun e => mkStr (PySem.Str.ofString "bytes.decode") >>= fun d =>
    call (.builtin "_codecs.decode.text") [.bytes (c :: cs).toArray t, e, .none, d] >>= fun v => ret v) := by kernel_rfl
theorem dec_tree0 : «bytes.decode» ⟨[.bytes #[] t, .str (PySem.Str.ofString "utf-8") u], []⟩ = (rule "bytes.decode.empty" >>= fun _ => mkStr PySem.Str.empty >>= fun v => ret v) := by kernel_rfl
theorem op_dec {l : List UInt8} {cs : List Nat} (h : decSigns l = some cs) (hs : cs.length ≤ big) :
    Ends K A fr B (.ok (.str ⟨cs.toArray⟩)) s (call (.builtin "bytes.decode") [.bytes l.toArray t, .str (PySem.Str.ofString "utf-8") u]) :=
  .here fun Q E k => by
    have hs' : (PySem.Str.mk cs.toArray).length ≤ big := by show cs.toArray.size ≤ big; simpa using hs
    cases l with
    | nil =>
      simp [decSigns] at h
      subst h
      refine wpAny_call_entry FB.slot_bytes_decode (PySem.W.typeIs_bytes _ _ _) FB.entry_bytes_decode ?_ (args_dec2 _ _)
      rw [show ([] : List UInt8).toArray = #[] from rfl, dec_tree0]
      refine wpAny_bind (wpAny_rule (wpAny_bind (wpAny_mkStr ?_ (by decide))))
      exact wpAny_pure ⟨_, rfl, k _ _ ⟨hs', _, rfl⟩⟩
    | cons c cs' =>
      refine wpAny_call_entry FB.slot_bytes_decode (PySem.W.typeIs_bytes _ _ _) FB.entry_bytes_decode ?_ (args_dec2 _ _)
      rw [dec_tree]
      refine wpAny_bind (wpAny_mkStr ?_ (by decide))
      refine wpAny_bind (wpAny_mkStr ?_ (by decide))
      refine wpAny_bind (wpAny_mkStr ?_ (by decide))
      exact wpAny_bind (call_function_meets KBd.kind_text KBd.plain_text KBd.entry_text (KBd.args_text _ _ _ _) (KBd.meets_text (x := ⟨cs.toArray⟩) fun id => dec_run h hs id)
        ⟨by rw [← big_line]; exact hs', wpAny_pure ⟨_, rfl, k _ _ ⟨hs', _, rfl⟩⟩⟩)
end
end Mine
end

section
open PySem PySem.Calls PyProof.Rows
namespace Mine
open AutoSeq1 (wpAny_loadPart')
section
variable {prog : Program} {w : World} {A : Around} {E : Value → Shared → Prop} {s : Shared}
theorem nextOf_tuple_item {it l : Addr} {i : Nat} {items : Array Value} {x : Value} {Q : Value → Shared → Prop} (hit : IsTupIter s.heap it l i)
    (hl : IsTup s.heap l items) (hx : items[i]? = some x)
    (hQ : ∀ h', IsTupIter h' it l (i + 1) → Heap.SameBut it s.heap h' → Q x { s with heap := h' }) :
    wpAny (model prog w) A (Builtin.SmallTypes.nextOf (.ref it)) Q E s := by
  obtain ⟨o, ho, hc, hd⟩ := id hit
  obtain ⟨ol, hol, _, nl, hdl⟩ := hl
  unfold Builtin.SmallTypes.nextOf
  refine wpAny_bind (wpAny_callSpecial?_slot (name := Str.ofString "__next__") hit.typeIs slot_tupleiter_next
    (wpAny_call_entry slot_tupleiter_next hit.typeIs entry_tupleiter_next ?_ (args_tupleiter_next _)))
  show wpAny _ _ (field (.ref it) 0 >>= _) _ _ s
  refine wpAny_bind (wpAny_field ho hd (x := .ref l) rfl ?_)
  show wpAny _ _ (if (Value.ref l == Value.none) = true then _ else _) _ _ s
  rw [if_neg (show ¬ ((Value.ref l == Value.none) = true) from Bool.false_ne_true)]
  show wpAny _ _ (field (.ref it) 1 >>= _) _ _ s
  refine wpAny_bind (wpAny_field ho hd (x := .int i 0) rfl ?_)
  show wpAny _ _ (seqItems? (.ref l) >>= _) _ _ s
  refine wpAny_bind (wpAny_seqItems hol hdl ?_)
  simp only [Int.toNat_natCast, hx]
  refine wpAny_bind (wpAny_setField ho hd (by simp) (wpAny_pure ⟨x, rfl, wpAny_pure (hQ _ ?_ (Heap.SameBut.update ..))⟩))
  exact ⟨_, Heap.get?_update_self _ ho (Obj.isFreed_of_fields (Obj.data_mapFields hd _)), (Obj.cls_mapFields ..).trans hc, by
    rw [Obj.data_mapFields hd]; simp [rawInt]⟩

theorem nextOf_tuple_end {it l : Addr} {i : Nat} {items : Array Value} {Q : Value → Shared → Prop} (hh : A.handled = none)
    (hit : IsTupIter s.heap it l i) (hl : IsTup s.heap l items) (hx : items[i]? = none)
    (hE : ∀ h' e, Heap.ExtBut it s.heap h' → (∃ o, h'.get? e = some o ∧ o.cls = .type "StopIteration") → E (.ref e) { s with heap := h' }) :
    wpAny (model prog w) A (Builtin.SmallTypes.nextOf (.ref it)) Q E s := by
  obtain ⟨o, ho, hc, hd⟩ := id hit
  obtain ⟨ol, hol, _, nl, hdl⟩ := hl
  unfold Builtin.SmallTypes.nextOf
  refine wpAny_bind (wpAny_callSpecial?_slot (name := Str.ofString "__next__") hit.typeIs slot_tupleiter_next
    (wpAny_call_entry slot_tupleiter_next hit.typeIs entry_tupleiter_next ?_ (args_tupleiter_next _)))
  show wpAny _ _ (field (.ref it) 0 >>= _) _ _ s
  refine wpAny_bind (wpAny_field ho hd (x := .ref l) rfl ?_)
  show wpAny _ _ (if (Value.ref l == Value.none) = true then _ else _) _ _ s
  rw [if_neg (show ¬ ((Value.ref l == Value.none) = true) from Bool.false_ne_true)]
  show wpAny _ _ (field (.ref it) 1 >>= _) _ _ s
  refine wpAny_bind (wpAny_field ho hd (x := .int i 0) rfl ?_)
  show wpAny _ _ (seqItems? (.ref l) >>= _) _ _ s
  refine wpAny_bind (wpAny_seqItems hol hdl ?_)
  simp only [Int.toNat_natCast, hx]
  refine wpAny_bind (wpAny_rule (wpAny_bind (wpAny_setField ho hd (by simp) ?_)))
  show wpAny _ _ (newExc (.type "StopIteration") [] >>= _) _ _ _
  refine wpAny_bind ?_
  simp only [newExc, newTuple]
  refine wpAny_bind (wpAny_newObj_type ?_ (by size_fits))
  refine wpAny_bind (m := firstArgMember _ _) (wpAny_of_eq (a := Value.none) (by first | rfl | (simp only [firstArgMember]; rfl)) ?_)
  refine wpAny_newObj_type ?_ (by size_fits)
  simp only [raiseNew]
  refine wpAny_bind (wpAny_handled ?_)
  first | rw [show A.in1.handled = none from hh] | rw [hh]
  refine wpAny_bind (wpAny_pure (wpAny_throw ?_))
  exact hE _ _ (((Heap.SameBut.update ..).extBut.push _).push _) ⟨_, Heap.get?_push_size _ rfl, rfl⟩

theorem draws_tuple {prog : Program} {w : World} {A : Around} (hh : A.handled = none) (it l : Addr) (hne : l ≠ it) (items : Array Value) :
    Draws prog w A it [it, l] items.size (fun i v => items[i]? = some v) (fun i h => IsTupIter h it l i ∧ IsTup h l items) where
  live := fun _ _ st => let ⟨o, ho, _⟩ := st.1; ⟨o, ho⟩
  frame := fun _ _ _ st hk => ⟨let ⟨o, ho, r⟩ := st.1; ⟨o, hk it (by simp) o ho, r⟩, let ⟨o, ho, r⟩ := st.2; ⟨o, hk l (by simp) o ho, r⟩⟩
  item := fun i s Q E hi st hQ => by
    refine nextOf_tuple_item st.1 st.2 (x := items[i]) (by simp [hi]) fun h' hit' hs' => ?_
    exact hQ _ h' s.toks (by simp [hi]) ⟨hit', st.2.extBut hs'.extBut hne⟩ hs'
  done := fun s Q E st hE => nextOf_tuple_end hh st.1 st.2 (by simp) hE

set_option maxHeartbeats 1000000 in
theorem meets_enumerate_newTup (l : Addr) (items : Array Value) (n : Nat) (d : Option Addr) (sl : Array (Option Value)) :
    Meets (Builtin.«enumerate.__new__» ⟨[.type "enumerate", .ref l], []⟩) (fun _ R s => s.heap.get? l = some { cls := .type "tuple", dict := d, data := .seq items n, slots := sl } ∧
      R (.ok (.ret (.ref (s.heap.push { cls := .type "tuple_iterator", data := .fields #[.ref l, .int 0 0] }).objs.size)))
        { s with heap := (s.heap.push { cls := .type "tuple_iterator", data := .fields #[.ref l, .int 0 0] }).push { cls := .type "enumerate", data := .fields #[.none, .bool false, .ref s.heap.objs.size, rawInt 0, .none, .none] } }) :=
  .of_wp fun prog w A R s h => by
    obtain ⟨hp, g, d, tk, os⟩ := s; obtain ⟨hl, h⟩ := h
    have hsub := sub_enumerate
    have hL : IsTup (Shared.heap ⟨hp, g, d, tk, os⟩) l items := ⟨_, hl, rfl, n, rfl⟩
    wp_walk using wpAny_loadPart' hl
    refine wpAny_stack_any fun st => wpAny_pure ?_
    split
    · rename_i c _ _ _ _ _
      cases (c == Value.type "enumerate")
      · wp_walk using wpAny_loadPart' hl, iter_tuple hL
        exact ⟨_, rfl, h⟩
      · wp_walk using wpAny_loadPart' hl, iter_tuple hL
        exact ⟨_, rfl, h⟩
    · wp_walk using wpAny_loadPart' hl, iter_tuple hL
      exact ⟨_, rfl, h⟩

theorem call_enumerate_tup {l : Addr} {items : Array Value} {Q : Value → Shared → Prop} (hL : IsTup s.heap l items)
    (h : ∀ h', IsEnum h' (s.heap.objs.size + 1) s.heap.objs.size 0 .none → IsTupIter h' s.heap.objs.size l 0 → h'.objs.size = s.heap.objs.size + 2 →
      (∀ b o, s.heap.get? b = some o → h'.get? b = some o) → Q (.ref (s.heap.objs.size + 1)) { s with heap := h' }) :
    wpAny (model prog w) A (call (.type "enumerate") [.ref l]) Q E s := by
  obtain ⟨⟨c, dct, dt, sl⟩, hl, hc, n, hd⟩ := hL
  replace hc : c = .type "tuple" := hc
  replace hd : dt = .seq items n := hd
  subst hc hd
  refine callType_new F.called_enumerate (by decide) (F.typeCall_enumerate_1 _) (F.newCall_enumerate_1 _) (fun obj => F.args_object_init_2 obj _) F.entry_enumerate_new
    (meets_enumerate_newTup l items n dct sl) ⟨hl, ?_⟩
  have hz : (s.heap.push { cls := .type "tuple_iterator", data := .fields #[.ref l, .int 0 0] }).objs.size = s.heap.objs.size + 1 := Heap.size_push ..
  show _ ∧ _
  rw [hz]
  have he : IsEnum ((s.heap.push { cls := .type "tuple_iterator", data := .fields #[.ref l, .int 0 0] }).push
      { cls := .type "enumerate", data := .fields #[.none, .bool false, .ref s.heap.objs.size, rawInt 0, .none, .none] }) (s.heap.objs.size + 1) s.heap.objs.size 0 .none := by
    have := Heap.get?_push_size (s.heap.push { cls := .type "tuple_iterator", data := .fields #[.ref l, .int 0 0] })
      (o := { cls := .type "enumerate", data := .fields #[.none, .bool false, .ref s.heap.objs.size, rawInt 0, .none, .none] }) rfl
    rw [hz] at this; exact this
  refine ⟨⟨_, he, rfl⟩, h _ he ⟨_, Heap.get?_push_of_some _ (Heap.get?_push_size _ rfl), rfl, rfl⟩ (by rw [Heap.size_push, hz]) fun b o x => Heap.get?_push_of_some _ (Heap.get?_push_of_some _ x)⟩
end
end Mine
end

section
open PySem PySem.W PySem.Calls PyProof.Rows
namespace Mine

/-! the operations on two values -/
def opOf : Operator → Option Prim
  | .Add => some .add | .Sub => some .sub | .Mult => some .mul | .FloorDiv => some .div | .Mod => some .mod
  | _ => none
def iopOf : Operator → Option Prim
  | .Add => some .add | .Sub => some .sub
  | _ => none
def cmpOf : CmpOp → Option Prim
  | .Lt => some .lt | .LtE => some .le | .Gt => some .gt | .GtE => some .ge | .Eq => some .eq | .NotEq => some .ne | .In => some .inn
  | _ => none

section
variable {K : Cfg} {A : Around} {fe : Env} {outer : List Env} {fr : List Addr} {B : Addr → Prop} {s : Shared} {a b : FV} {x y : Value}

theorem ends_if {c : Bool} {v : FV} {t : Sem Value} (h : c = true → Ends K A fr B (.ok v) s t) : Ends K A fr B (if c then .ok v else .no) s t := by
  cases c with
  | true => exact h rfl
  | false => exact EndsG.no
theorem okBytes_ends {l : List UInt8} {t : Sem Value} (h : l.length ≤ big → Ends K A fr B (.ok (.bytes l)) s t) : Ends K A fr B (okBytes l) s t := by
  unfold okBytes; split
  · exact h (by assumption)
  · exact EndsG.no
theorem okStr_ends {l : Str} {t : Sem Value} (h : l.length ≤ big → Ends K A fr B (.ok (.str l)) s t) : Ends K A fr B (okStr l) s t := by
  unfold okStr; split
  · exact h (by assumption)
  · exact EndsG.no

theorem bin_ok {op : Operator} {f : Prim} (ho : opOf op = some f) (ra : RV K s.heap B a x) (rb : RV K s.heap B b y) : Ends K A fr B (evP f [a, b]) s (binaryOp op x y) := by
  cases op <;> first | (cases ho; done) | skip
  all_goals (unfold opOf at ho; injection ho with ho; subst ho)
  all_goals (cases a <;> first | exact EndsG.no | skip)
  all_goals (cases b <;> first | exact EndsG.no | skip)
  · obtain ⟨t, rfl⟩ := ra; obtain ⟨u, rfl⟩ := rb; exact op_add_int
  · obtain ⟨_, t, rfl⟩ := ra; obtain ⟨_, u, rfl⟩ := rb; exact okStr_ends fun h => op_add_str h
  · obtain ⟨_, t, rfl⟩ := ra; obtain ⟨_, u, rfl⟩ := rb; exact okBytes_ends fun h => op_add_bytes h
  · obtain ⟨t, rfl⟩ := ra; obtain ⟨u, rfl⟩ := rb; exact op_sub_int
  · obtain ⟨t, rfl⟩ := ra; obtain ⟨u, rfl⟩ := rb; exact ends_if fun h => op_mul_int h
  · obtain ⟨_, t, rfl⟩ := ra; obtain ⟨u, rfl⟩ := rb
    refine ends_if fun h => ?_
    simp only [Bool.and_eq_true, decide_eq_true_eq] at h
    exact op_mul_str h.1.1 h.1.2 h.2
  · obtain ⟨_, t, rfl⟩ := ra; obtain ⟨u, rfl⟩ := rb
    refine ends_if fun h => ?_
    simp only [Bool.and_eq_true, decide_eq_true_eq, Bool.not_eq_true'] at h
    exact op_mul_bytes h.1.1.1 h.1.1.2 h.1.2 h.2
  · obtain ⟨t, rfl⟩ := ra; obtain ⟨u, rfl⟩ := rb
    refine ends_if fun h => ?_
    simp only [Bool.and_eq_true, decide_eq_true_eq] at h
    exact op_mod_int h.1
  · obtain ⟨t, rfl⟩ := ra; obtain ⟨u, rfl⟩ := rb
    refine ends_if fun h => ?_
    simp only [Bool.and_eq_true, decide_eq_true_eq] at h
    exact op_div_int h.1 h.2
theorem iop_ok {op : Operator} {f : Prim} (ho : iopOf op = some f) (ra : RV K s.heap B a x) (rb : RV K s.heap B b y) (hi : ∃ i, a = .int i) : Ends K A fr B (evP f [a, b]) s (inplaceOp op x y) := by
  obtain ⟨i, rfl⟩ := hi
  cases op <;> first | (cases ho; done) | skip
  all_goals (unfold iopOf at ho; injection ho with ho; subst ho)
  all_goals (cases b <;> first | exact EndsG.no | skip)
  · obtain ⟨t, rfl⟩ := ra; obtain ⟨u, rfl⟩ := rb; exact op_iadd_int
  · obtain ⟨t, rfl⟩ := ra; obtain ⟨u, rfl⟩ := rb; exact op_isub_int
end
end Mine
end

section
open PySem PySem.W PySem.Calls PyProof.Rows
namespace Mine
open PySem.SeqAt

theorem range_eq {α : Type} [DecidableEq α] : ∀ (xs ys : List α), xs.length = ys.length → ((List.range xs.length).all fun j => xs[j]? == ys[j]?) = decide (xs = ys) := by
  intro xs ys h
  rw [Bool.eq_iff_iff, List.all_eq_true, decide_eq_true_eq]
  constructor
  · intro hj
    apply List.ext_getElem? 
    intro i
    by_cases hi : i < xs.length
    · exact eq_of_beq (hj i (List.mem_range.mpr hi))
    · rw [List.getElem?_eq_none (by omega), List.getElem?_eq_none (by omega)]
  · rintro rfl j _; exact beq_self_eq_true _

section
variable {K : Cfg} {A : Around} {fr : List Addr} {B : Addr → Prop} {s : Shared}
theorem strs_at {h : Heap} : ∀ {fs : List FV} {vs : List Value} {bs : List Str}, RVs K h B fs vs → allStrs fs = some bs → vs.length = bs.length ∧ ∀ (i : Nat) (v : Value), vs[i]? = some v → ∃ b t, bs[i]? = some b ∧ v = Value.str b t
  | [], _, _, r, e => by cases r; cases e; exact ⟨rfl, fun i v h => by simp at h⟩
  | f :: fs, _, bs, r, e => by
    obtain ⟨v, q, rfl, r1, r2⟩ := r
    cases f with
    | str y =>
      obtain ⟨_, t, rfl⟩ := r1
      simp only [allStrs] at e
      cases q' : allStrs fs with
      | none => rw [q'] at e; cases e
      | some js =>
        rw [q'] at e; cases e
        obtain ⟨h1, h2⟩ := strs_at r2 q'
        refine ⟨by simp [h1], fun i v hv => ?_⟩
        cases i with
        | zero => cases hv; exact ⟨_, _, rfl, rfl⟩
        | succ i => exact h2 i v (by simpa using hv)
    | _ => cases e
theorem bytes_at {h : Heap} : ∀ {fs : List FV} {vs : List Value} {bs : List (List UInt8)}, RVs K h B fs vs → allBytes fs = some bs → vs.length = bs.length ∧ ∀ (i : Nat) (v : Value), vs[i]? = some v → ∃ b t, bs[i]? = some b ∧ v = Value.bytes b.toArray t
  | [], _, _, r, e => by cases r; cases e; exact ⟨rfl, fun i v h => by simp at h⟩
  | f :: fs, _, bs, r, e => by
    obtain ⟨v, q, rfl, r1, r2⟩ := r
    cases f with
    | bytes y =>
      obtain ⟨_, t, rfl⟩ := r1
      simp only [allBytes] at e
      cases q' : allBytes fs with
      | none => rw [q'] at e; cases e
      | some js =>
        rw [q'] at e; cases e
        obtain ⟨h1, h2⟩ := bytes_at r2 q'
        refine ⟨by simp [h1], fun i v hv => ?_⟩
        cases i with
        | zero => cases hv; exact ⟨_, _, rfl, rfl⟩
        | succ i => exact h2 i v (by simpa using hv)
    | _ => cases e
theorem eq_lists {α : Type} [DecidableEq α] {l b : Addr} {vs us : List Value} {xs ys : List α} (hl : s.heap.IsList l (List.toArray vs)) (hb : s.heap.IsList b (List.toArray us)) (hu : A.units < cLine)
    (h1 : vs.length = xs.length) (h2 : us.length = ys.length) (he : ∀ (j : Nat) (v u : Value), vs[j]? = some v → us[j]? = some u → EqAt A.in1 s v u (xs[j]? == ys[j]?)) :
    Ends K A fr B (.ok (.bool (decide (xs = ys)))) s (compareOp .Eq (.ref l) (.ref b)) := by
  by_cases hn : xs.length = ys.length
  · refine .here fun Q E k => eq_listAt (e := fun j => xs[j]? == ys[j]?) hl hb (by simp; omega) hu (fun j j1 j2 => ?_) (k _ s.toks ?_)
    · have j1' : j < vs.length := by simpa using j1
      have j2' : j < us.length := by simpa using j2
      exact he j _ _ (by simp [j1']) (by simp [j2'])
    · rw [List.size_toArray, h1, range_eq xs ys hn]; rfl
  · refine .here fun Q E k => eq_list_lengthsAt hl hb (by simp; omega) hu (k _ s.toks ?_)
    show Value.bool false = Value.bool (decide (xs = ys))
    rw [decide_eq_false]
    intro e; exact hn (by rw [e])
theorem op_eq_lst {l b : Addr} {vs us : List Value} {fs gs : List FV} (hl : s.heap.IsList l (List.toArray vs)) (hb : s.heap.IsList b (List.toArray us)) (rl : RVs K s.heap B fs vs) (rb : RVs K s.heap B gs us) (hu : A.units < cLine) :
    Ends K A fr B (evP .eq [.lst fs, .lst gs]) s (compareOp .Eq (.ref l) (.ref b)) := by
  show Ends K A fr B (match allStrs fs, allStrs gs with
    | some x, some y => .ok (.bool (decide (x = y)))
    | _, _ => match allBools fs, allBools gs with
      | some x, some y => .ok (.bool (decide (x = y)))
      | _, _ => .no) s _
  split
  · rename_i x y hx hy
    obtain ⟨h1, h2⟩ := strs_at rl hx
    obtain ⟨h3, h4⟩ := strs_at rb hy
    refine eq_lists hl hb hu h1 h3 fun j v u hv hw => ?_
    obtain ⟨p, t, e1, rfl⟩ := h2 j v hv
    obtain ⟨q, t', e2, rfl⟩ := h4 j u hw
    rw [e1, e2]
    have := EqAt.str_str (A := A.in1) (s := s) p t q t'
    have e : (some p == some q) = (p == q) := rfl
    rw [e]; exact this
  · split
    · rename_i x y hx hy
      have e1 := bools_at rl hx
      have e2 := bools_at rb hy
      refine eq_lists hl hb hu (by rw [e1, List.length_map]) (by rw [e2, List.length_map]) fun j v u hv hw => ?_
      rw [e1, List.getElem?_map] at hv
      rw [e2, List.getElem?_map] at hw
      obtain ⟨p, ep, rfl⟩ := Option.map_eq_some_iff.mp hv
      obtain ⟨q, eq, rfl⟩ := Option.map_eq_some_iff.mp hw
      rw [ep, eq]
      exact EqAt.bool_bool p q
    · exact EndsG.no
theorem cmp_ok {op : CmpOp} {f : Prim} {a b : FV} {x y : Value} (ho : cmpOf op = some f) (ra : RV K s.heap B a x) (rb : RV K s.heap B b y) (hu : A.units < cLine)
    (hc : ∀ p q, a = .code p → b = .code q → Ends K A fr B (.ok (.bool (decide (p = q)))) s (compareOp .Eq x y)) : Ends K A fr B (evP f [a, b]) s (compareOp op x y) := by
  cases op <;> first | (cases ho; done) | skip
  all_goals (unfold cmpOf at ho; injection ho with ho; subst ho)
  all_goals (cases a <;> first | exact EndsG.no | skip)
  all_goals (cases b <;> first | exact EndsG.no | skip)
  · obtain ⟨t, rfl⟩ := ra; obtain ⟨u, rfl⟩ := rb; exact op_eq_int
  · obtain ⟨_, t, rfl⟩ := ra; obtain ⟨_, u, rfl⟩ := rb; exact op_eq_str
  · obtain ⟨_, t, rfl⟩ := ra; obtain ⟨_, u, rfl⟩ := rb; exact op_eq_bytes
  · obtain ⟨_, l, vs, rfl, _, hl, rl⟩ := ra
    obtain ⟨_, m, us, rfl, _, hm, rm⟩ := rb
    exact op_eq_lst hl hm rl rm hu
  · exact hc _ _ rfl rfl
  · obtain ⟨t, rfl⟩ := ra; obtain ⟨u, rfl⟩ := rb; exact op_ne_int
  · obtain ⟨_, t, rfl⟩ := ra; obtain ⟨_, u, rfl⟩ := rb; exact op_ne_str
  · obtain ⟨_, t, rfl⟩ := ra; obtain ⟨_, u, rfl⟩ := rb; exact op_ne_bytes
  · obtain ⟨t, rfl⟩ := ra; obtain ⟨u, rfl⟩ := rb; exact op_lt
  · obtain ⟨t, rfl⟩ := ra; obtain ⟨u, rfl⟩ := rb; exact op_le
  · obtain ⟨t, rfl⟩ := ra; obtain ⟨u, rfl⟩ := rb; exact op_gt
  · obtain ⟨t, rfl⟩ := ra; obtain ⟨u, rfl⟩ := rb; exact op_ge
  · obtain ⟨t, rfl⟩ := ra
    obtain ⟨_, l, vs, rfl, _, hl, rl⟩ := rb
    show Ends K A fr B (match allInts _ with | some is => .ok (.bool (is.contains _)) | Option.none => .no) s _
    split
    · exact op_in_tup hl rl (by assumption)
    · exact EndsG.no
  · obtain ⟨_, t, rfl⟩ := ra; obtain ⟨_, u, rfl⟩ := rb
    refine ends_if fun h => ?_
    simp only [decide_eq_true_eq] at h
    exact op_in_str h
  · obtain ⟨_, t, rfl⟩ := ra
    obtain ⟨_, d, kvs, rfl, _, ns, hd, rd⟩ := rb
    exact op_in_dct hd ns rd
theorem idx_ok {a b : FV} {x y : Value} (ra : RV K s.heap B a x) (rb : RV K s.heap B b y)
    (hg : ∀ i t, a = .gl 101 → Ends K A fr B (evP .idx [.gl 101, .int i]) s (getItem x (.int i t))) : Ends K A fr B (evP .idx [a, b]) s (getItem x y) := by
  have opt : ∀ {o : Option FV} {t : Sem Value}, (∀ v, o = some v → Ends K A fr B (.ok v) s t) → Ends K A fr B (match o with | some v => .ok v | Option.none => .no) s t := by
    intro o t h
    cases o with
    | none => exact EndsG.no
    | some v => exact h v rfl
  have cnd : ∀ {c : Bool} {r : Res FV} {t : Sem Value}, (c = true → Ends K A fr B r s t) → Ends K A fr B (if c then r else .no) s t := by
    intro c r t h
    cases c with
    | true => exact h rfl
    | false => exact EndsG.no
  cases a <;> first | exact EndsG.no | skip
  all_goals (cases b <;> first | exact EndsG.no | skip)
  · obtain ⟨sz, t, rfl⟩ := ra; obtain ⟨u, rfl⟩ := rb
    rename_i l i
    refine cnd fun h => ?_
    have key : ∀ c, l[i.toNat]? = some c → Ends K A fr B (.ok (.int c.toNat)) s (getItem (.bytes l.toArray t) (.int i u)) := fun c e => op_idx_bytes (by simpa using h) sz e
    cases e : l[i.toNat]? with
    | none => exact EndsG.no
    | some c => exact key c e
  · obtain ⟨sz, l, vs, rfl, _, hl, rl⟩ := ra; obtain ⟨u, rfl⟩ := rb
    exact cnd fun h => opt fun v e => op_idx_tup hl rl (by simpa using h) (by rw [rl.length]; exact sz) e
  · obtain ⟨sz, l, vs, rfl, _, hl, rl⟩ := ra; obtain ⟨u, rfl⟩ := rb
    exact cnd fun h => opt fun v e => op_idx_lst hl rl (by simpa using h) (by rw [rl.length]; exact sz) e
  · obtain ⟨sz, d, kvs, rfl, _, ns, hd, rd⟩ := ra; obtain ⟨_, u, rfl⟩ := rb
    exact opt fun v e => op_idx_dct hd rd e
  · rename_i g i
    obtain ⟨u, rfl⟩ := rb
    by_cases hgi : g = 101
    · subst hgi; exact hg i u rfl
    · have : evP .idx [.gl g, .int i] = .no := by show (if g = 101 then _ else Res.no) = _; rw [if_neg hgi]
      rw [this]; exact EndsG.no
end
end Mine
end

section
open PySem PySem.W PySem.Calls PyProof.Rows
namespace Mine

def gnames : List (String × FV) :=
  [("_law_digits", FV.gl 0), ("_law_four", FV.gl 1), ("_law_text", FV.gl 2), ("_law_box", FV.gl 3), ("_law_list", FV.gl 4), ("_law_make", FV.gl 5), ("_law_value", FV.gl 6), ("_law_lay", FV.gl 7), ("_law_like", FV.gl 8), ("law", FV.gl 9),
   ("encode", FV.gl 10), ("_dict_to_bson", FV.gl 11), ("_element_to_bson", FV.gl 12), ("_make_name", FV.gl 13), ("_utf_8_encode", FV.gl 14), ("_name_value_to_bson", FV.gl 15), ("_encode_int", FV.gl 16), ("_encode_text", FV.gl 17), ("_encode_bytes", FV.gl 18),
   ("_encode_mapping", FV.gl 19), ("_encode_list", FV.gl 20), ("_encode_code", FV.gl 21), ("_make_c_string", FV.gl 22), ("_PACK_INT", FV.gl 23), ("decode", FV.gl 24), ("_bson_to_dict", FV.gl 25), ("get_data_and_view", FV.gl 26), ("_get_object_size", FV.gl 27),
   ("_UNPACK_INT_FROM", FV.gl 28), ("_unpack", FV.gl 29), ("_elements_to_dict", FV.gl 30), ("_element_to_dict", FV.gl 31), ("_get_c_string", FV.gl 32), ("_index_nul", FV.gl 33), ("_utf_8_decode", FV.gl 34), ("_get_string", FV.gl 35), ("_get_object", FV.gl 36),
   ("_get_array", FV.gl 37), ("_get_binary", FV.gl 38), ("_UNPACK_LENGTH_SUBTYPE_FROM", FV.gl 39), ("_get_code", FV.gl 40), ("_get_int", FV.gl 41), ("is_valid", FV.gl 43),
   ("Code", FV.gl 100), ("_ELEMENT_GETTER", FV.gl 101), ("DEFAULT_CODEC_OPTIONS", FV.gl 102), ("CodecOptions", FV.gl 103), ("InvalidBSON", FV.gl 104), ("DatetimeMS", FV.gl 105), ("UUID", FV.gl 106), ("Binary", FV.gl 107), ("Int64", FV.gl 108), ("InvalidDocument", FV.gl 110),
   ("_LAW_UNITS", FV.tup [FV.str ⟨#[97]⟩, FV.str ⟨#[233]⟩, FV.str ⟨#[8364]⟩, FV.str ⟨#[128512]⟩]), ("_LAW_RAW", FV.tup [FV.bytes [97], FV.bytes [195, 169], FV.bytes [226, 130, 172], FV.bytes [240, 159, 152, 128]]),
   ("_LAW_COUNTS", FV.tup [FV.int 3, FV.int 12, FV.int 104, FV.int 11, FV.int 1, FV.int 0, FV.int 27]), ("ALL_UUID_SUBTYPES", FV.tup [FV.int 3, FV.int 4])]
def gtab (n : Str) : Option FV := (gnames.find? fun p => Str.ofString p.1 == n).map (·.2)

inductive Blt1 : Str → Value → Prim → Prop
  | len : Blt1 "len" (.builtin "len") .len
  | sum : Blt1 "sum" (.builtin "sum") .sum
  | all : Blt1 "all" (.builtin "all") .all
  | str : Blt1 "str" (.type "str") .strInt
  | tuple : Blt1 "tuple" (.type "tuple") .tupleOf
  | list : Blt1 "list" (.type "list") .listOf
  | bytes : Blt1 "bytes" (.type "bytes") .bytesOf
inductive Blt2 : Str → Value → Prim → Prop
  | min : Blt2 "min" (.builtin "min") .min2
  | max : Blt2 "max" (.builtin "max") .max2
inductive BltT : Str → String → Prop
  | bool : BltT "bool" "bool" | int : BltT "int" "int" | str : BltT "str" "str" | bytes : BltT "bytes" "bytes" | list : BltT "list" "list" | tuple : BltT "tuple" "tuple" | dict : BltT "dict" "dict"

/-- the names that are free for the built-in ones -/
def bnames : List (String × Value) := [("len", Value.builtin "len"), ("sum", Value.builtin "sum"), ("all", Value.builtin "all"), ("str", Value.type "str"), ("tuple", Value.type "tuple"), ("list", Value.type "list"), ("bytes", Value.type "bytes"), ("min", Value.builtin "min"), ("max", Value.builtin "max"),
  ("bool", Value.type "bool"), ("int", Value.type "int"), ("dict", Value.type "dict"), ("isinstance", Value.builtin "isinstance"), ("range", Value.type "range"), ("enumerate", Value.type "enumerate"), ("ValueError", Value.type "ValueError"), ("KeyError", Value.type "KeyError"),
  ("OverflowError", Value.type "OverflowError"), ("Exception", Value.type "Exception")]
def btab (n : Str) : Option Value := (bnames.find? fun p => Str.ofString p.1 == n).map (·.2)

def plainBase : Expr → Bool
  | .Call (.Name _ _) [] [] _ => false
  | _ => true
def plainKey : Expr → Bool
  | .Slice .. => false
  | .Starred .. => false
  | _ => true
def plainE : Expr → Bool
  | .Starred .. => false
  | _ => true
def plainF : Expr → Bool
  | .Attribute .. => false
  | _ => true

/-- the classes of an isinstance -/
inductive ClsOf (sc : Scope) : Expr → FV → Prop
  | own {n p i} : gtab n = some (.gl i) → sc.names.lookup n = some .globalImplicit → ClsOf sc (.Name n p) (.gl i)
  | blt {n p t} : BltT n t → sc.names.lookup n = some .globalImplicit → ClsOf sc (.Name n p) (.typ t)
inductive ClssOf (sc : Scope) : List Expr → List FV → Prop
  | nil : ClssOf sc [] []
  | cons {x c xs cs} : ClsOf sc x c → ClssOf sc xs cs → ClssOf sc (x :: xs) (c :: cs)

def constOf : Const → Option FV
  | .none => some .none
  | .bool b => some (.bool b)
  | .int i => some (.int i)
  | .str x => if x.length ≤ 1000 then some (.str x) else none
  | .bytes b => if b.length ≤ 1000 then some (.bytes b) else none
  | _ => none

def lit (n : String) (p : Pos) : Expr := .Constant (.str (Str.ofString n)) 0 p
abbrev kName (sc : Scope) (n : Str) : Prop := sc.names.lookup n = some .local ∨ sc.names.lookup n = some .cell ∨ sc.names.lookup n = some .free

def notSet : Expr → Bool
  | .Set .. => false
  | _ => true
/-- what an iteration goes over -/
inductive SrcOf (sc : Scope) : Expr → Src → List Expr → Prop
  | lst {x} : plainE x = true → notSet x = true → SrcOf sc x .lst [x]
  | rng1 {x p p'} : sc.names.lookup ("range" : Str) = some .globalImplicit → SrcOf sc (.Call (.Name "range" p') [x] [] p) .rng1 [x]
  | rng2 {x y p p'} : sc.names.lookup ("range" : Str) = some .globalImplicit → SrcOf sc (.Call (.Name "range" p') [x, y] [] p) .rng2 [x, y]
  | items {o p p'} : plainBase o = true → (p'.endLine == p.line) = true → SrcOf sc (.Call (.Attribute o "items" p') [] [] p) .items [o]
  | enum {x p p'} : sc.names.lookup ("enumerate" : Str) = some .globalImplicit → SrcOf sc (.Call (.Name "enumerate" p') [x] [] p) .enum [x]
/-- the names of a target -/
inductive TgtOf : Expr → List Str → Nat → Prop
  | one {n p} : TgtOf (.Name n p) [n] 0
  | two {n m p p' k p''} : n ≠ m → TgtOf (.Tuple [.Name n p, .Name m p'] k p'') [n, m] 2
def relabelS (scope sc : Scope) : Scope :=
  { scope with names := scope.names.map fun (n, k) => if (k == .free && sc.kind == .function && sc.names.lookup n == some .cell) then (n, .cell) else (n, k) }
def scopeOk (scope sc : Scope) (names : List Str) : Bool :=
  scope.kind == .function && decide (scope.names.map (·.1)).Nodup && (scope.names.all fun x => x.2 != .local || scope.names.lookup x.1 == some .local) && (names.all fun n => scope.names.lookup n == some .local) &&
  (scope.names.all fun x => x.2 != .free || sc.names.lookup x.1 == some .cell) && scope.names.all fun x => x.2 != .cell

/-- no name of the def is hidden in the block, but by a target -/
def cvOk (vs names : List Str) (scope : Scope) : Bool :=
  vs.all fun n => names.contains n || (match scope.names.lookup n with | none => true | some .free => true | some .globalImplicit => true | _ => false)
def pairOk : Src → Nat → Bool
  | .items, 2 => true
  | .enum, 2 => true
  | .items, _ => false
  | .enum, _ => false
  | _, _ => true

inductive Tm where
  | e (x : Expr)
  | l (xs : List Expr)
inductive Tc where
  | e (a : CE)
  | l (as : List CE)

/-- the text's expressions against the abstract ones -/
inductive CX : Nms → Scope → Tm → Tc → Prop
  | const {nm sc c k p v} : constOf c = some v → CX nm sc (.e (.Constant c k p)) (.e (.k v))
  | neg {nm sc i k p p'} : CX nm sc (.e (.UnaryOp .USub (.Constant (.int i) k p) p')) (.e (.k (.int (-i))))
  | loc {nm sc n p i} : nm.vs[i]? = some n → n ∉ nm.cs → kName sc n → (n == ("__debug__" : Str)) = false → (n == ("__classdict__" : Str)) = false → CX nm sc (.e (.Name n p)) (.e (.v i))
  | cv {nm sc n p i} : nm.cs[i]? = some n → (n == ("__debug__" : Str)) = false → (n == ("__classdict__" : Str)) = false → CX nm sc (.e (.Name n p)) (.e (.c i))
  | glob {nm sc n p v} : gtab n = some v → sc.names.lookup n = some .globalImplicit → (n == ("__debug__" : Str)) = false → CX nm sc (.e (.Name n p)) (.e (.k v))
  | bin {nm sc l r op p f a b} : opOf op = some f → CX nm sc (.e l) (.e a) → CX nm sc (.e r) (.e b) → CX nm sc (.e (.BinOp l op r p)) (.e (.p f [a, b]))
  | cmp {nm sc l r op p f a b} : cmpOf op = some f → behindInMarks op r = false → CX nm sc (.e l) (.e a) → CX nm sc (.e r) (.e b) → CX nm sc (.e (.Compare l [op] [r] p)) (.e (.p f [a, b]))
  | isN {nm sc l k p p' a} : CX nm sc (.e l) (.e a) → CX nm sc (.e (.Compare l [.Is] [.Constant .none k p'] p)) (.e (.p .isNone [a]))
  | chn {nm sc l m r op op' p f f' a b c} : cmpOf op = some f → cmpOf op' = some f' → behindInMarks op' r = false → CX nm sc (.e l) (.e a) → CX nm sc (.e m) (.e b) → CX nm sc (.e r) (.e c) → CX nm sc (.e (.Compare l [op, op'] [m, r] p)) (.e (.chn a f b f' c))
  | notE {nm sc x p a} : CX nm sc (.e x) (.e a) → CX nm sc (.e (.UnaryOp .Not x p)) (.e (.p .not [a]))
  | and2 {nm sc x y p a b} : CX nm sc (.e x) (.e a) → CX nm sc (.e y) (.e b) → CX nm sc (.e (.BoolOp .And [x, y] p)) (.e (.and a b))
  | and3 {nm sc x y z p a b c} : CX nm sc (.e x) (.e a) → CX nm sc (.e y) (.e b) → CX nm sc (.e z) (.e c) → CX nm sc (.e (.BoolOp .And [x, y, z] p)) (.e (.and a (.and b c)))
  | or2 {nm sc x y p a b} : CX nm sc (.e x) (.e a) → CX nm sc (.e y) (.e b) → CX nm sc (.e (.BoolOp .Or [x, y] p)) (.e (.or a b))
  | ife {nm sc t x y p c a b} : CX nm sc (.e t) (.e c) → CX nm sc (.e x) (.e a) → CX nm sc (.e y) (.e b) → CX nm sc (.e (.IfExp t x y p)) (.e (.ife c a b))
  | sub {nm sc x i p a b} : plainKey i = true → CX nm sc (.e x) (.e a) → CX nm sc (.e i) (.e b) → CX nm sc (.e (.Subscript x i p)) (.e (.p .idx [a, b]))
  | slAB {nm sc x l u p p' a b c} : CX nm sc (.e x) (.e a) → CX nm sc (.e l) (.e b) → CX nm sc (.e u) (.e c) → CX nm sc (.e (.Subscript x (.Slice (some l) (some u) none p') p)) (.e (.p .slAB [a, b, c]))
  | slA {nm sc x l p p' a b} : CX nm sc (.e x) (.e a) → CX nm sc (.e l) (.e b) → CX nm sc (.e (.Subscript x (.Slice (some l) none none p') p)) (.e (.p .slA [a, b]))
  | slB {nm sc x u p p' a b} : CX nm sc (.e x) (.e a) → CX nm sc (.e u) (.e b) → CX nm sc (.e (.Subscript x (.Slice none (some u) none p') p)) (.e (.p .slB [a, b]))
  | tup {nm sc xs k p as} : CX nm sc (.l xs) (.l as) → CX nm sc (.e (.Tuple xs k p)) (.e (.p .mkTup as))
  | lst {nm sc xs p as} : CX nm sc (.l xs) (.l as) → CX nm sc (.e (.List xs p)) (.e (.p .mkLst as))
  | blt1 {nm sc n p p' x a v f} : Blt1 n v f → sc.names.lookup n = some .globalImplicit → CX nm sc (.e x) (.e a) → CX nm sc (.e (.Call (.Name n p') [x] [] p)) (.e (.p f [a]))
  | blt2 {nm sc n p p' x y a b v f} : Blt2 n v f → sc.names.lookup n = some .globalImplicit → CX nm sc (.e x) (.e a) → CX nm sc (.e y) (.e b) → CX nm sc (.e (.Call (.Name n p') [x, y] [] p)) (.e (.p f [a, b]))
  | isi1 {nm sc p p' x y a c} : sc.names.lookup ("isinstance" : Str) = some .globalImplicit → CX nm sc (.e x) (.e a) → ClsOf sc y c → CX nm sc (.e (.Call (.Name "isinstance" p') [x, y] [] p)) (.e (.p (.isi [c]) [a]))
  | isiT {nm sc p p' p'' k x ys a cs} : sc.names.lookup ("isinstance" : Str) = some .globalImplicit → CX nm sc (.e x) (.e a) → ClssOf sc ys cs → cs.length ≤ 1000 → CX nm sc (.e (.Call (.Name "isinstance" p') [x, .Tuple ys k p''] [] p)) (.e (.p (.isi cs) [a]))
  | lenv {nm sc p p' p'' n i} : sc.names.lookup ("len" : Str) = some .globalImplicit → nm.cs = [] → nm.vs[i]? = some n → (n == ("__debug__" : Str)) = false → (n == ("__classdict__" : Str)) = false → CX nm sc (.e (.Call (.Name "len" p') [.Name n p''] [] p)) (.e (.lenv i))
  | enc {nm sc o e p p' p'' a} : (e = "utf-8" ∨ e = "utf8") → plainBase o = true → (p'.endLine == p.line) = true → CX nm sc (.e o) (.e a) → CX nm sc (.e (.Call (.Attribute o "encode" p') [lit e p''] [] p)) (.e (.p .enc [a]))
  | dec {nm sc o p p' p'' a} : plainBase o = true → (p'.endLine == p.line) = true → CX nm sc (.e o) (.e a) → CX nm sc (.e (.Call (.Attribute o "decode" p') [lit "utf-8" p''] [] p)) (.e (.p .dec [a]))
  | join {nm sc x k p p' p'' a} : (p'.endLine == p.line) = true → CX nm sc (.e x) (.e a) → CX nm sc (.e (.Call (.Attribute (.Constant (.bytes []) k p'') "join" p') [x] [] p)) (.e (.p .join [a]))
  | toBp {nm sc o k p p' p1 p2 a} : plainBase o = true → (p'.endLine == p.line) = true → CX nm sc (.e o) (.e a) → CX nm sc (.e (.Call (.Attribute o "to_bytes" p') [.Constant (.int 4) k p1, lit "little" p2] [] p)) (.e (.p (.toB false) [a]))
  | toBs {nm sc o k k' p p' p1 p2 p3 p4 a} : plainBase o = true → (p'.endLine == p.line) = true → CX nm sc (.e o) (.e a) → CX nm sc (.e (.Call (.Attribute o "to_bytes" p') [.Constant (.int 4) k p1, lit "little" p2] [⟨some "signed", .Constant (.bool true) k' p3, p4⟩] p)) (.e (.p (.toB true) [a]))
  | fromB {nm sc x y p p' p1 p2 p3 a b} : sc.names.lookup ("int" : Str) = some .globalImplicit → (p'.endLine == p.line) = true → CX nm sc (.e x) (.e a) → CX nm sc (.e y) (.e b) → CX nm sc (.e (.Call (.Attribute (.Name "int" p1) "from_bytes" p') [x, lit "little" p2] [⟨some "signed", y, p3⟩] p)) (.e (.p .fromB [a, b]))
  | get {nm sc o c k p p' p1 v a} : constOf c = some v → plainBase o = true → (p'.endLine == p.line) = true → CX nm sc (.e o) (.e a) → CX nm sc (.e (.Call (.Attribute o "get" p') [.Constant c k p1] [] p)) (.e (.p .get [a, .k v]))
  | attr {nm sc o n p a} : plainBase o = true → CX nm sc (.e o) (.e a) → CX nm sc (.e (.Attribute o (Str.ofString n) p)) (.e (.p (.attr n) [a]))
  | mkCode {nm sc x p p' a} : sc.names.lookup ("Code" : Str) = some .globalImplicit → CX nm sc (.e x) (.e a) → CX nm sc (.e (.Call (.Name "Code" p') [x] [] p)) (.e (.p .mkCode [a]))
  | call {nm sc f x xs p a as} : plainF f = true → CX nm sc (.e f) (.e a) → CX nm sc (.l (x :: xs)) (.l as) → CX nm sc (.e (.Call f (x :: xs) [] p)) (.e (.call a as))
  | comp {nm sc elt tgt iter scope p e m s xs as names} : TgtOf tgt names m → SrcOf sc iter s xs → nm.cs = [] → scopeOk scope sc names = true → cvOk nm.vs names scope = true → pairOk s m = true → CX nm sc (.l xs) (.l as) → CX ⟨nm.vs, names⟩ (relabelS scope sc) (.e elt) (.e e) →
      CX nm sc (.e (.ListComp elt [⟨tgt, iter, [], 0⟩] scope p)) (.e (.comp e m s as))
  | bad {nm sc x} : plainE x = true → CX nm sc (.e x) (.e .bad)
  | enil {nm sc} : CX nm sc (.l []) (.l [])
  | econs {nm sc x a xs as} : CX nm sc (.e x) (.e a) → CX nm sc (.l xs) (.l as) → CX nm sc (.l (x :: xs)) (.l (a :: as))


abbrev CompE (nm : Nms) (sc : Scope) (x : Expr) (a : CE) : Prop := CX nm sc (.e x) (.e a)
abbrev CompEs (nm : Nms) (sc : Scope) (xs : List Expr) (as : List CE) : Prop := CX nm sc (.l xs) (.l as)
theorem CX.plain {nm : Nms} {sc : Scope} {x : Expr} {a : CE} (h : CompE nm sc x a) : plainE x = true := by cases h <;> first | rfl | assumption
theorem star_plain {x : Expr} (h : plainE x = true) (r : List Expr) (env : Env) : starEach (x :: r) env = (false, eval x env) :: starEach r env := by
  cases x <;> first | rfl | cases h
theorem base_plain {o : Expr} (h : plainBase o = true) (n : Str) (env : Env) (t : Sem Value) : attributeBase o n env t = t := by
  unfold attributeBase
  split
  · cases h
  · rfl
end Mine
end

section
open PySem PySem.W PySem.Calls PyProof.Rows
namespace Mine

/-- a callee's frame is known -/
def Keepable (K : Cfg) (f : Value) : Prop := ∀ (M : Model) (h : Heap), K.base.StaysIn h → ∃ k, (k = Keeper.frame ∨ k = Keeper.machine ∨ k = Keeper.boundFrame) ∧ Looks M h (keeperOf f) k

theorem keep_builtin {K : Cfg} {i : String} : Keepable K (.builtin i) := fun M h _ => ⟨.machine, .inr (.inl rfl), Looks.of_pure rfl⟩
theorem keep_type {K : Cfg} {i : String} : Keepable K (.type i) := fun M h _ => ⟨.machine, .inr (.inl rfl), Looks.of_pure rfl⟩

/-- room for calls -/
structure Room (A : Around) (n : Nat) : Prop where
  depth : A.depth + 2 * n + 30 ≤ 1000
  units : A.units + 20 * n + 100 ≤ 9900
theorem Room.line {A : Around} {n : Nat} (r : Room A n) : A.units < cLine := by have := r.units; show A.units < 9900; omega

/-- what is known of the text's top -/
structure Ok (K : Cfg) : Prop where
  g : K.base.Ns mainGlobals K.mg
  b : K.base.Ns builtinsNs K.mb
  gt : ∀ n v, gtab n = some v → ∃ x, K.mg n = some x ∧ RV K K.base N0 v x
  bt : ∀ n v, btab n = some v → K.mg n = none ∧ K.mb n = some v
  gNone : ∀ i, K.G i ≠ .none
  isi : ∀ {A : Around} {fe : Env} {outer : List Env} {B : Addr → Prop} {s : Shared} {v c : FV} {x y : Value} {b : Bool}, Inv K A fe outer B s.heap → RV K s.heap B v x → RV K s.heap B c y → isiOne v c = some b → Ends K A (frsOf fe outer) B (.ok (.bool b)) s (call (.builtin "isinstance") [x, y])
  isiT : ∀ {A : Around} {fe : Env} {outer : List Env} {B : Addr → Prop} {s : Shared} {v : FV} {cs : List FV} {x : Value} {l : Addr} {ys : List Value} {b : Bool}, Inv K A fe outer B s.heap → RV K s.heap B v x → IsTup s.heap l (List.toArray ys) → RVs K s.heap B cs ys → (∀ c ∈ cs, (∃ i, c = .gl i) ∨ ∃ n, c = .typ n) →
    isiAny v cs = some b → Ends K A (frsOf fe outer) B (.ok (.bool b)) s (call (.builtin "isinstance") [x, .ref l])
  eqCode : ∀ {A : Around} {fe : Env} {outer : List Env} {B : Addr → Prop} {n : Nat} {s : Shared} {p q : Str} {x y : Value}, Inv K A fe outer B s.heap → Room A n → RV K s.heap B (.code p) x → RV K s.heap B (.code q) y → Ends K A (frsOf fe outer) B (.ok (.bool (decide (p = q)))) s (compareOp .Eq x y)
  getter : ∀ {A : Around} {fe : Env} {outer : List Env} {B : Addr → Prop} {s : Shared} {i : Int} {t : Tok}, Inv K A fe outer B s.heap → Ends K A (frsOf fe outer) B (evP .idx [.gl 101, .int i]) s (getItem (K.G 101) (.int i t))
  getterT : ∀ {s : Shared}, K.base.StaysIn s.heap → s.TypeIs (K.G 101) "dict"
  attr : ∀ {A : Around} {fe : Env} {outer : List Env} {B : Addr → Prop} {n : Nat} {s : Shared} {v : FV} {x : Value} {nm : String}, Inv K A fe outer B s.heap → Room A n → RV K s.heap B v x → Ends K A (frsOf fe outer) B (evP (.attr nm) [v]) s (getAttr x (Str.ofString nm) true)
  mkCode : ∀ {A : Around} {fe : Env} {outer : List Env} {B : Addr → Prop} {n : Nat} {s : Shared} {v : FV} {x : Value}, Inv K A fe outer B s.heap → Room A n → RV K s.heap B v x → Ends K A (frsOf fe outer) B (evP .mkCode [v]) s (call (K.G 100) [x])
  keepCode : Keepable K (K.G 100)
  fbm : ∀ {A : Around} {s : Shared} {pl : Sem Bool} {Q : Value × List Value → Shared → Prop} {E : Value → Shared → Prop}, K.base.StaysIn s.heap → Q (.ref s.heap.objs.size, []) { s with heap := s.heap.push KFB.bound, toks := s.toks + 1 } →
    wpAny (model K.prog K.w) A (getMethod (.type "int") (Str.ofString "from_bytes") pl) Q E s

section
variable {K : Cfg} {A : Around} {fe ev : Env} {outer : List Env} {B : Addr → Prop} {s : Shared} {fr : List Addr}

theorem rv_base (I : Inv K A fe outer B s.heap) {v : FV} {x : Value} (r : RV K K.base N0 v x) : RV K s.heap B v x :=
  RV.keep (fun b o e _ => I.stay b o e) (fun b o e hb => by have := (I.bb b hb).1; rw [e] at this; cases this) r

/-- all that stands while an expression is reckoned -/
structure St (K : Cfg) (A : Around) (fe : Env) (outer : List Env) (B : Addr → Prop) (nm : Nms) (ev : Env) (ow : Nat → Option Addr) (ρ : Env') (γ : List FV) (m cm : Str → Option Value) (h : Heap) : Prop where
  I : Inv K A fe outer B h
  W : EvOk fe B ev
  O : OwFree fe outer ev ow
  R : EnvR K nm ev h B ow ρ γ m cm
theorem St.step0 {nm : Nms} {ow : Nat → Option Addr} {ρ : Env'} {γ : List FV} {m cm : Str → Option Value} {h h' : Heap} (x : St K A fe outer B nm ev ow ρ γ m cm h) (k : Kp (frsOf fe outer) N0 h h') : St K A fe outer B nm ev ow ρ γ m cm h' :=
  ⟨x.I.step0 k, x.W, x.O, x.R.step0 x.I x.O k⟩

/-- calls of the text's own functions -/
structure CallOk (K : Cfg) (C : CallT) (n : Nat) : Prop where
  nogl : ∀ g vs, (∀ i, g ≠ .gl i) → C g vs = .no
  keep : ∀ i vs, C (.gl i) vs ≠ .no → Keepable K (K.G i)
  run : ∀ {A : Around} {fe : Env} {outer : List Env} {B : Addr → Prop} {s : Shared} {i : Nat} {vs : List FV} {xs : List Value}, Inv K A fe outer B s.heap → Room A n → RVs K s.heap B vs xs →
    Ends K A (frsOf fe outer) B ((C (.gl i) (vs.map .fv)).bind fun r => .ok r.1) s (call (K.G i) xs)

theorem global_ends (O : Ok K) (I : Inv K A fe outer B s.heap) (W : EvOk fe B ev) {n : Str} {v : FV} {p : Pos} (hg : gtab n = some v) (hk : ev.kindOf n = some .globalImplicit) (hd : (n == ("__debug__" : Str)) = false) :
    Ends K A fr B (.ok v) s (eval (.Name n p) ev) := by
  obtain ⟨x, e, r⟩ := O.gt n v hg
  refine .here fun Q E k => Calls.Name_function_global W.kind hk (Calls.loadGlobal_global (mg := K.mg) ?_ e (k x s.toks (rv_base I r))) hd
  rw [W.gl]; exact O.g.keeps I.stay
theorem builtin_ends {RR : Heap → Unit → Value → Prop} (O : Ok K) (I : Inv K A fe outer B s.heap) (W : EvOk fe B ev) {n : Str} {v : Value} {p : Pos} (hg : btab n = some v) (hk : ev.kindOf n = some .globalImplicit) (hd : (n == ("__debug__" : Str)) = false) (hr : RR s.heap () v) :
    EndsG K A fr RR (.ok ()) s (eval (.Name n p) ev) := by
  obtain ⟨e1, e2⟩ := O.bt n v hg
  refine .here fun Q E k => Calls.Name_function_global W.kind hk (Calls.loadGlobal_builtin (mg := K.mg) (mb := K.mb) ?_ e1 ?_ e2 (k v s.toks hr)) hd
  · rw [W.gl]; exact O.g.keeps I.stay
  · rw [W.bl]; exact O.b.keeps I.stay

theorem callW {δ : Type} {RR : Heap → δ → Value → Prop} {rs : Res (List FV)} {g : List FV → Res δ} {x : Expr} {xs : List Expr} {pos : Pos} {f : Value} {first : List Value} (I : Inv K A fe outer B s.heap) (hx : plainE x = true) (hxs : (backTo pos (starEach xs ev)).any (·.1) = false)
    (hk : (∃ vs, g vs ≠ .no) → Keepable K f) (hl : EndsL K A (frsOf fe outer) B rs s (spliced (backTo pos (starEach (x :: xs) ev))))
    (hc : ∀ vs ys h' tk, rs = .ok vs → g vs ≠ .no → Kp (frsOf fe outer) N0 s.heap h' → RVs K h' B vs ys → EndsG K A (frsOf fe outer) RR (g vs) { s with heap := h', toks := tk } (call f (first ++ ys))) :
    EndsG K A (frsOf fe outer) RR (rs.bind g) s (callWith pos f first (backTo pos (starEach (x :: xs) ev)) (backToKw pos (keywordEach [] ev))) := by
  have hplain : ((backTo pos (starEach (x :: xs) ev)).any (·.1) || (backToKw pos (keywordEach [] ev)).any (·.1.isNone)) = false := by
    rw [star_plain hx]
    show ((false || (backTo pos (starEach xs ev)).any (·.1)) || false) = false
    rw [hxs]; rfl
  cases rs with
  | no => trivial
  | exc e =>
    intro Q E hE
    unfold callWith
    refine wpAny_bind (wpAny_holding ?_)
    rw [star_plain hx] at hl ⊢
    exact evalArgs_plain (hl _ _ hE)
  | ok vs =>
    show EndsG K A _ RR (g vs) s _
    by_cases hn : g vs = .no
    · rw [hn]; trivial
    have hk := hk ⟨vs, hn⟩
    have key : ∀ (Q : Value → Shared → Prop) (E : Value → Shared → Prop), wpAny (model K.prog K.w) A (spliced (backTo pos (starEach (x :: xs) ev))) (fun ys s₁ => K.base.StaysIn s₁.heap ∧ wpAny (model K.prog K.w) A (call f (first ++ ys)) Q E s₁) E s →
        wpAny (model K.prog K.w) A (callWith pos f first (backTo pos (starEach (x :: xs) ev)) (backToKw pos (keywordEach [] ev))) Q E s := by
      intro Q E h
      refine callWith_of (P := fun h => K.base.StaysIn h) hplain (fun h hs => hk _ h hs) ?_
      rw [star_plain hx] at h ⊢
      exact evalArgs_plain h
    have stay : ∀ h', Kp (frsOf fe outer) N0 s.heap h' → K.base.StaysIn h' := fun h' kp => (I.step0 kp).stay
    cases hg : g vs with
    | no => trivial
    | exc e =>
      intro Q E hE
      refine key Q E (hl _ _ fun ys h' tk kp rv => ⟨stay h' kp, ?_⟩)
      have z := hc vs ys h' tk rfl hn kp rv
      rw [hg] at z
      exact z _ _ fun a h'' tk' k2 x2 => hE a h'' tk' (kp.trans0 k2) (x2.low kp)
    | ok u =>
      intro Q E hQ
      refine key Q E (hl _ _ fun ys h' tk kp rv => ⟨stay h' kp, ?_⟩)
      have z := hc vs ys h' tk rfl hn kp rv
      rw [hg] at z
      exact z _ _ fun y h'' tk' k2 r2 => hQ y h'' tk' (kp.trans0 k2) r2

/-- a method of a built-in type -/
theorem methW {δ : Type} {RR : Heap → δ → Value → Prop} {r : Res FV} {g : FV → Res δ} {o : Expr} {name : Str} {apos pos : Pos} {args : List Expr} {kws : List Keyword} (f : Value)
    (hb : plainBase o = true) (hl : (apos.endLine == pos.line) = true) (hf : methodCallForm (args.length + kws.length) (backTo pos (starEach args ev)) (backToKw pos (keywordEach kws ev)) = true)
    (ho : Ends K A fr B r s (eval o ev))
    (hm : ∀ v x h' tk pl Q E, r = .ok v → g v ≠ .no → RV K h' B v x → Q (f, [x]) { s with heap := h', toks := tk } → wpAny (model K.prog K.w) A (getMethod x name pl) Q E { s with heap := h', toks := tk })
    (hk : ∀ v x h' tk, r = .ok v → Kp fr N0 s.heap h' → RV K h' B v x → EndsG K A fr RR (g v) { s with heap := h', toks := tk } (callWith pos f [x] (backTo pos (starEach args ev)) (backToKw pos (keywordEach kws ev)))) :
    EndsG K A fr RR (r.bind g) s (eval (.Call (.Attribute o name apos) args kws pos) ev) := by
  rw [arm_eval_Call, base_plain hb]
  refine EndsG.bind ho fun v x h' tk hr kp rv => EndsG.standAt ?_
  by_cases hn : g v = .no
  · rw [hn]; exact EndsG.no
  refine EndsG.via (hk v x h' tk hr kp rv) fun Q E hw => ?_
  unfold methodCall
  rw [hf]
  have e1 : methodCallPos true o ev apos pos = pure pos := by unfold methodCallPos; simp [hl]
  refine wpAny_bind (wpAny_holding ?_)
  exact hm v x h' tk (do return (← importBound o ev).getD true) _ _ hr hn rv (wpAny_bind (wpAny_of_eq e1 hw))
end
end Mine
end

section
open PySem PySem.W PySem.Calls PyProof.Rows
namespace Mine

section
variable {C : CallT} {ρ : Env'} {γ : List FV}
theorem ev1 {f : Prim} {a : CE} : evE C ρ γ (.p f [a]) = (evE C ρ γ a).bind fun v => evP f [v] := by
  simp only [evE, evEs]; cases evE C ρ γ a <;> rfl
theorem ev2 {f : Prim} {a b : CE} : evE C ρ γ (.p f [a, b]) = (evE C ρ γ a).bind fun v => (evE C ρ γ b).bind fun u => evP f [v, u] := by
  simp only [evE, evEs]; cases evE C ρ γ a <;> first | rfl | (cases evE C ρ γ b <;> rfl)
theorem ev3 {f : Prim} {a b c : CE} : evE C ρ γ (.p f [a, b, c]) = (evE C ρ γ a).bind fun v => (evE C ρ γ b).bind fun u => (evE C ρ γ c).bind fun t => evP f [v, u, t] := by
  simp only [evE, evEs]; cases evE C ρ γ a <;> first | rfl | (cases evE C ρ γ b <;> first | rfl | (cases evE C ρ γ c <;> rfl))
theorem evL {f : Prim} {as : List CE} : evE C ρ γ (.p f as) = (evEs C ρ γ as).bind (evP f) := by simp only [evE]
end

section
variable {K : Cfg} {A : Around} {fe ev : Env} {outer : List Env} {B : Addr → Prop} {s : Shared} {fr : List Addr}
theorem const_ends {c : Const} {v : FV} (h : constOf c = some v) : Ends K A fr B (.ok v) s (constValue ev c) := by
  cases c <;> first | (cases h; done) | skip
  · cases h; exact .here fun Q E k => wpAny_pure (k _ s.toks rfl)
  · cases h; exact .here fun Q E k => wpAny_pure (k _ s.toks rfl)
  · cases h; exact .here fun Q E k => wpAny_mkInt (k _ _ ⟨_, rfl⟩)
  · simp only [constOf] at h
    split at h
    · cases h
      rename_i hl
      exact .here fun Q E k => by
        have := k (.str _ s.toks) (s.toks + 1) ⟨Nat.le_trans hl (by decide), s.toks, rfl⟩
        exact fun _ _ _ => this
    · cases h
  · simp only [constOf] at h
    split at h
    · cases h
      rename_i hl
      exact .here fun Q E k => by
        have := k (.bytes _ s.toks) (s.toks + 1) ⟨Nat.le_trans hl (by decide), s.toks, rfl⟩
        exact fun _ _ _ => this
    · cases h

/-- the truth of an expression that has no road of its own -/
theorem tr_default {r : Res FV} {x : Expr} (I : Inv K A fe outer B s.heap) (h : Ends K A (frsOf fe outer) B r s (eval x ev))
    (he : isTrue x ev (eval x ev) = (eval x ev >>= fun v => standAt x.pos >>= fun _ => holding [v] (truthy v))) : EndsB K A (frsOf fe outer) (resT r) s (isTrue x ev (eval x ev)) := by
  rw [he]
  exact EndsG.bind h fun v y h' tk hr kp rv => EndsG.standAt (EndsG.holding (truth_ends (s := { s with heap := h', toks := tk }) (I.step0 kp) rv))

theorem slice_ends {l u : Option Value} {n : Nat} {R : Heap → FV → Value → Prop} : True := trivial

/-- a subscript: the item's operation done -/
theorem sub_tail {r : Res FV} {value sl : Expr} {o i : Value} (hp : plainKey sl = true) (hT : ∃ T id, typeLookup (.type T) "__getitem__" = pure (some (.builtin id)) ∧ s.TypeIs o T) (h : Ends K A fr B r s (getItem o i)) :
    Ends K A fr B r s (do let r ← subscripted sl (← getitemInPython o) o i; letTemporaryGo value o r; pure r) := by
  obtain ⟨T, id, hl, hT⟩ := hT
  refine EndsG.via h fun Q E hw => ?_
  refine wpAny_bind ?_
  rw [getitemInPython_of_ne hT.not_modules]
  refine wpAny_bind (wpAny_specialOf hT hl ?_)
  refine wpAny_pure ?_
  have e : subscripted sl false o i = operate [o, i] (getItem o i) := by cases sl <;> first | rfl | cases hp
  rw [e]
  refine wpAny_bind (wpAny_operating (wpAny_mono hw (fun r s₃ h₃ => wpAny_bind (wpAny_letTemporaryGo (wpAny_pure h₃))) fun _ _ x => x))
end
end Mine
end

section
open PySem PySem.W PySem.Calls PyProof.Rows
namespace Mine

section
variable {K : Cfg} {A : Around} {fe ev : Env} {outer : List Env} {B : Addr → Prop} {s : Shared} {fr : List Addr}
theorem getsOf {a b : FV} {x : Value} (O : Ok K) (I : Inv K A fe outer B s.heap) (ra : RV K s.heap B a x) (h : evP .idx [a, b] ≠ .no) : ∃ T id, typeLookup (.type T) "__getitem__" = pure (some (.builtin id)) ∧ s.TypeIs x T := by
  cases a <;> first | exact absurd rfl h | skip
  · obtain ⟨_, t, rfl⟩ := ra; exact ⟨_, _, FB.slot_bytes_getitem.lookup, PySem.W.typeIs_bytes _ _ _⟩
  · obtain ⟨_, l, vs, rfl, _, hl, _⟩ := ra; exact ⟨_, _, F.slot_tuple_getitem.lookup, hl.typeIs⟩
  · obtain ⟨_, l, vs, rfl, _, hl, _⟩ := ra; exact ⟨_, _, F.slot_list_getitem.lookup, hl.typeIs⟩
  · obtain ⟨_, d, kvs, rfl, _, _, hd, _⟩ := ra; exact ⟨_, _, slot_dict_getitem.lookup, hd.typeIs⟩
  · rename_i g
    have hg : g = 101 := by
      cases b <;> first | exact absurd rfl h | skip
      rename_i i
      by_cases hg : g = 101
      · exact hg
      · exfalso; apply h; show (if g = 101 then _ else Res.no) = _; rw [if_neg hg]
    subst hg
    cases ra
    exact ⟨_, _, slot_dict_getitem.lookup, O.getterT I.stay⟩

/-- a slice's subscript -/
theorem slice_tail {r : Res FV} {value : Expr} {lo hi : Option Expr} {p' : Pos} {o i : Value} (hT : ∃ T id, typeLookup (.type T) "__getitem__" = pure (some (.builtin id)) ∧ s.TypeIs o T) (h : Ends K A fr B r s (getItem o i)) :
    Ends K A fr B r s (do let r ← subscripted (.Slice lo hi none p') (← getitemInPython o) o i; letTemporaryGo value o r; pure r) := by
  obtain ⟨T, id, hl, hT⟩ := hT
  refine EndsG.via h fun Q E hw => ?_
  refine wpAny_bind ?_
  rw [getitemInPython_of_ne hT.not_modules]
  refine wpAny_bind (wpAny_specialOf hT hl ?_)
  refine wpAny_pure ?_
  show wpAny _ _ (operate [i, o] (getItem o i) >>= _) Q E s
  exact wpAny_bind (wpAny_operating (wpAny_mono hw (fun r s₃ h₃ => wpAny_bind (wpAny_letTemporaryGo (wpAny_pure h₃))) fun _ _ x => x))
theorem slice_new {l u : Value} : EndsG K A fr (fun (h : Heap) (_ : Unit) (x : Value) => ∃ a, x = .ref a ∧ h.IsSliceOf a l u .none) (.ok ()) s (newFields "slice" [l, u, .none]) :=
  .mk fun Q E k => wpAny_newObj_type (k _ _ s.toks (Kp.push _ _ _ _) ⟨_, rfl, Heap.IsSliceOf.new _ _ _ _⟩)
end

def SE (K : Cfg) (C : CallT) (n : Nat) (nm : Nms) (sc : Scope) (x : Expr) (a : CE) : Prop :=
  ∀ (A : Around) (fe : Env) (outer : List Env) (B : Addr → Prop) (ev : Env) (ow : Nat → Option Addr) (ρ : Env') (γ : List FV) (m cm : Str → Option Value) (s : Shared), ev.scope = sc → Room A n → St K A fe outer B nm ev ow ρ γ m cm s.heap →
    Ends K A (frsOf fe outer) B (evE C ρ γ a) s (eval x ev) ∧ EndsB K A (frsOf fe outer) (resT (evE C ρ γ a)) s (isTrue x ev (eval x ev))
def SL (K : Cfg) (C : CallT) (n : Nat) (nm : Nms) (sc : Scope) (xs : List Expr) (as : List CE) : Prop :=
  ∀ (A : Around) (fe : Env) (outer : List Env) (B : Addr → Prop) (ev : Env) (ow : Nat → Option Addr) (ρ : Env') (γ : List FV) (m cm : Str → Option Value) (s : Shared) (pos : Pos), ev.scope = sc → Room A n → St K A fe outer B nm ev ow ρ γ m cm s.heap →
    EndsL K A (frsOf fe outer) B (evEs C ρ γ as) s (spliced (backTo pos (starEach xs ev))) ∧ (backTo pos (starEach xs ev)).any (·.1) = false
inductive All2 {α β : Type} (R : α → β → Prop) : List α → List β → Prop
  | nil : All2 R [] []
  | cons {a b as bs} : R a b → All2 R as bs → All2 R (a :: as) (b :: bs)
theorem All2.length_eq {α β : Type} {R : α → β → Prop} {as : List α} {bs : List β} (h : All2 R as bs) : as.length = bs.length := by
  induction h with
  | nil => rfl
  | cons _ _ ih => simp [ih]
def SX (K : Cfg) (C : CallT) (n : Nat) (nm : Nms) (sc : Scope) : Tm → Tc → Prop
  | .e x, .e a => SE K C n nm sc x a
  | .l xs, .l as => SL K C n nm sc xs as ∧ All2 (fun x a => plainE x = true ∧ SE K C n nm sc x a) xs as
  | _, _ => True

theorem resT_bool {b : Bool} : resT (.ok (.bool b)) = .ok b := rfl


section
variable {K : Cfg} {A : Around} {fe ev : Env} {outer : List Env} {B : Addr → Prop} {s : Shared}
/-- the first of two behind 'and', 'or' -/
def andR (r rb : Res FV) : Res FV := r.bind fun v => match v.truth with | some true => rb | some false => .ok v | Option.none => .no
def orR (r rb : Res FV) : Res FV := r.bind fun v => match v.truth with | some true => .ok v | some false => rb | Option.none => .no
theorem and_ends {r rb : Res FV} {t rest : Sem Value} {p : Pos} (I : Inv K A fe outer B s.heap) (ha : Ends K A (frsOf fe outer) B r s t) (hb : ∀ h' tk, Kp (frsOf fe outer) N0 s.heap h' → Ends K A (frsOf fe outer) B rb { s with heap := h', toks := tk } rest) :
    Ends K A (frsOf fe outer) B (andR r rb) s (do
      let v ← t
      standAt p
      let b ← holding [v] (truthy v)
      match BoolOp.And, b with
      | .And, false | .Or, true => pure v
      | _, _ => rest) := by
  refine EndsG.bind ha fun v x h' tk _ kp rv => EndsG.standAt ?_
  have ht := truth_ends (s := { s with heap := h', toks := tk }) (I.step0 kp) rv
  unfold resT at ht
  simp only [Res.bind_ok] at ht
  cases hv : v.truth with
  | none => exact EndsG.no
  | some b =>
    rw [hv] at ht
    cases b with
    | true =>
      refine EndsG.res (r' := (Res.ok true).bind fun _ => rb) (EndsG.bind (f := fun _ => rb) ht.holding fun b y h'' tk' hb' kp' rb' => ?_) rfl
      cases hb'
      cases rb'
      exact hb h'' tk' (kp.trans0 kp')
    | false =>
      refine EndsG.res (r' := (Res.ok false).bind fun _ => Res.ok v) (EndsG.bind (f := fun _ => Res.ok v) ht.holding fun b y h'' tk' hb' kp' rb' => ?_) rfl
      cases hb'
      cases rb'
      exact EndsG.pure (s := { s with heap := h'', toks := tk' }) (rv.step0 (I.step0 kp) kp')
theorem or_ends {r rb : Res FV} {t rest : Sem Value} {p : Pos} (I : Inv K A fe outer B s.heap) (ha : Ends K A (frsOf fe outer) B r s t) (hb : ∀ h' tk, Kp (frsOf fe outer) N0 s.heap h' → Ends K A (frsOf fe outer) B rb { s with heap := h', toks := tk } rest) :
    Ends K A (frsOf fe outer) B (orR r rb) s (do
      let v ← t
      standAt p
      let b ← holding [v] (truthy v)
      match BoolOp.Or, b with
      | .And, false | .Or, true => pure v
      | _, _ => rest) := by
  refine EndsG.bind ha fun v x h' tk _ kp rv => EndsG.standAt ?_
  have ht := truth_ends (s := { s with heap := h', toks := tk }) (I.step0 kp) rv
  unfold resT at ht
  simp only [Res.bind_ok] at ht
  cases hv : v.truth with
  | none => exact EndsG.no
  | some b =>
    rw [hv] at ht
    cases b with
    | false =>
      refine EndsG.res (r' := (Res.ok false).bind fun _ => rb) (EndsG.bind (f := fun _ => rb) ht.holding fun b y h'' tk' hb' kp' rb' => ?_) rfl
      cases hb'
      cases rb'
      exact hb h'' tk' (kp.trans0 kp')
    | true =>
      refine EndsG.res (r' := (Res.ok true).bind fun _ => Res.ok v) (EndsG.bind (f := fun _ => Res.ok v) ht.holding fun b y h'' tk' hb' kp' rb' => ?_) rfl
      cases hb'
      cases rb'
      exact EndsG.pure (s := { s with heap := h'', toks := tk' }) (rv.step0 (I.step0 kp) kp')
theorem resT_and {r rb : Res FV} : resT (andR r rb) = (resT r).bind fun b => if b then resT rb else .ok false := by
  cases r with
  | ok v =>
    unfold andR resT
    simp only [Res.bind_ok]
    cases hv : v.truth with
    | none => rfl
    | some b => cases b <;> simp [hv]
  | exc e => rfl
  | no => rfl
theorem resT_or {r rb : Res FV} : resT (orR r rb) = (resT r).bind fun b => if b then .ok true else resT rb := by
  cases r with
  | ok v =>
    unfold orR resT
    simp only [Res.bind_ok]
    cases hv : v.truth with
    | none => rfl
    | some b => cases b <;> simp [hv]
  | exc e => rfl
  | no => rfl
theorem ite_ends {γ δ : Type} {RR : Heap → δ → γ → Prop} {rt : Res Bool} {ra rb : Res δ} {t : Sem Bool} {x y : Sem γ} (ht : EndsB K A (frsOf fe outer) rt s t)
    (ha : ∀ h' tk, Kp (frsOf fe outer) N0 s.heap h' → EndsG K A (frsOf fe outer) RR ra { s with heap := h', toks := tk } x) (hb : ∀ h' tk, Kp (frsOf fe outer) N0 s.heap h' → EndsG K A (frsOf fe outer) RR rb { s with heap := h', toks := tk } y) :
    EndsG K A (frsOf fe outer) RR (rt.bind fun b => if b then ra else rb) s (do if ← t then x else y) := by
  refine EndsG.bind ht fun b c h' tk _ kp rv => ?_
  cases rv
  cases b with
  | true => exact ha h' tk kp
  | false => exact hb h' tk kp
theorem ife_eq {r ra rb : Res FV} : (r.bind fun v => match v.truth with | some true => ra | some false => rb | Option.none => .no) = (resT r).bind fun b => if b then ra else rb := by
  cases r with
  | ok v =>
    unfold resT
    simp only [Res.bind_ok]
    cases hv : v.truth with
    | none => rfl
    | some b => cases b <;> rfl
  | exc e => rfl
  | no => rfl
end
end Mine
end

section
open PySem PySem.W PySem.Calls PyProof.Rows
namespace Mine
section
variable {K : Cfg} {A : Around} {fe ev : Env} {outer : List Env} {B : Addr → Prop} {s : Shared} {fr : List Addr}

theorem digits3 : ∀ m : Nat, m < 1000 → (digitsOf m).length ≤ 3 := by decide +kernel
theorem op_str_int {i : Int} {t : Tok} (h0 : 0 ≤ i) (h1 : i < 1000) : Ends K A fr B (.ok (.str ⟨(digitsOf i.toNat).toArray⟩)) s (call (.type "str") [.int i t]) := by
  obtain ⟨m, rfl⟩ := Int.eq_ofNat_of_zero_le h0
  have e : PySem.Str.ofString (toString (m : Int)) = ⟨(digitsOf m).toArray⟩ := by
    have h := PySem.W.KIN.signs_num m
    unfold digitsOf
    rw [← h]
  have hl : (digitsOf m).length ≤ big := Nat.le_trans (digits3 m (by omega)) (by decide)
  refine .here fun Q E k => str_of_int_fit (N := 1000) (by split <;> omega) (by decide) fun _ => ?_
  refine k _ _ ⟨?_, s.toks, ?_⟩
  · show (digitsOf m).toArray.size ≤ big
    rw [List.size_toArray]; exact hl
  · show Value.str (PySem.Str.ofString (toString (m : Int))) s.toks = _
    rw [e]; rfl

theorem blt1_ok {n : Str} {v : Value} {f : Prim} (hB : Blt1 n v f) (I : Inv K A fe outer B s.heap) {vs : List FV} {ys : List Value} (r : RVs K s.heap B vs ys) : Ends K A (frsOf fe outer) B (evP f vs) s (call v ys) := by
  have one : ∀ {a : FV} {ys : List Value}, RVs K s.heap B [a] ys → ∃ y, ys = [y] ∧ RV K s.heap B a y := by
    rintro a ys ⟨y, q, rfl, r1, rfl⟩; exact ⟨y, rfl, r1⟩
  match vs with
  | [] => cases hB <;> exact EndsG.no
  | a :: b :: l => cases hB <;> cases a <;> exact EndsG.no
  | [a] =>
    obtain ⟨y, rfl, ra⟩ := one r
    cases hB
    · cases a <;> first | exact EndsG.no | skip
      · obtain ⟨sz, t, rfl⟩ := ra; exact op_len_str (Nat.le_trans sz (by decide))
      · obtain ⟨sz, t, rfl⟩ := ra; exact op_len_bytes (Nat.le_trans sz (by decide))
      · obtain ⟨sz, l, us, rfl, _, hl, rl⟩ := ra; exact op_len_tup hl rl (by rw [rl.length]; exact sz)
      · obtain ⟨sz, l, us, rfl, _, hl, rl⟩ := ra; exact op_len_lst hl rl (by rw [rl.length]; exact sz)
    · cases a <;> first | exact EndsG.no | skip
      obtain ⟨sz, l, us, rfl, _, hl, rl⟩ := ra
      show Ends K A _ B (match allInts _ with | some is => .ok (.int is.sum) | Option.none => .no) s _
      split
      · exact op_sum I.hd hl rl (by assumption)
      · exact EndsG.no
    · cases a <;> first | exact EndsG.no | skip
      obtain ⟨sz, l, us, rfl, _, hl, rl⟩ := ra
      show Ends K A _ B (match allBools _ with | some bs => .ok (.bool (bs.all id)) | Option.none => .no) s _
      split
      · exact op_all I.hd hl rl (by assumption)
      · exact EndsG.no
    · cases a <;> first | exact EndsG.no | skip
      obtain ⟨t, rfl⟩ := ra
      refine ends_if fun h => ?_
      simp only [Bool.and_eq_true, decide_eq_true_eq] at h
      exact op_str_int h.1 h.2
    · cases a <;> first | exact EndsG.no | skip
      obtain ⟨sz, l, us, rfl, _, hl, rl⟩ := ra
      exact op_tuple_of I hl rl sz
    · cases a <;> first | exact EndsG.no | skip
      obtain ⟨sz, d, kvs, rfl, _, ns, hd, rd⟩ := ra
      refine ends_if fun h => ?_
      exact op_list_of I.hd I hd ns rd sz fun p hp => Nat.le_trans (by simpa using List.all_eq_true.mp h p hp) (by decide)
    · cases a <;> first | exact EndsG.no | skip
      obtain ⟨sz, l, us, rfl, _, hl, rl⟩ := ra
      show Ends K A _ B (match allInts _ with | some is => _ | Option.none => .no) s _
      split
      · exact ends_if fun h => op_bytes_of I.hd hl rl (by assumption) sz h
      · exact EndsG.no
theorem blt2_ok {n : Str} {v : Value} {f : Prim} (hB : Blt2 n v f) (I : Inv K A fe outer B s.heap) {vs : List FV} {ys : List Value} (r : RVs K s.heap B vs ys) : Ends K A (frsOf fe outer) B (evP f vs) s (call v ys) := by
  match vs with
  | [] => cases hB <;> exact EndsG.no
  | [a] => cases hB <;> cases a <;> exact EndsG.no
  | a :: b :: c :: l => cases hB <;> cases a <;> first | exact EndsG.no | (cases b <;> exact EndsG.no)
  | [a, b] =>
    obtain ⟨x, q, rfl, ra, y, q', rfl, rb, rfl⟩ := r
    cases hB
    all_goals (cases a <;> first | exact EndsG.no | skip)
    all_goals (cases b <;> first | exact EndsG.no | skip)
    · obtain ⟨t, rfl⟩ := ra; obtain ⟨u, rfl⟩ := rb; exact op_min I.hd
    · obtain ⟨t, rfl⟩ := ra; obtain ⟨u, rfl⟩ := rb; exact op_max I.hd
theorem Blt1.tab {n : Str} {v : Value} {f : Prim} (h : Blt1 n v f) : btab n = some v ∧ (n == ("__debug__" : Str)) = false := by cases h <;> exact ⟨by decide, by decide⟩
theorem Blt2.tab {n : Str} {v : Value} {f : Prim} (h : Blt2 n v f) : btab n = some v ∧ (n == ("__debug__" : Str)) = false := by cases h <;> exact ⟨by decide, by decide⟩
theorem Blt1.keep {n : Str} {v : Value} {f : Prim} (h : Blt1 n v f) : Keepable K v := by cases h <;> first | exact keep_builtin | exact keep_type
theorem Blt2.keep {n : Str} {v : Value} {f : Prim} (h : Blt2 n v f) : Keepable K v := by cases h <;> first | exact keep_builtin | exact keep_type
end

section
variable {K : Cfg} {C : CallT} {n : Nat} {nm : Nms} {sc : Scope}
theorem SL.nil : SL K C n nm sc [] [] := by
  intro A fe outer B ev ow ρ γ m cm s pos hs rm S
  refine ⟨?_, rfl⟩
  rw [evEs]
  exact EndsG.pure rfl
theorem SL.cons {x : Expr} {a : CE} {xs : List Expr} {as : List CE} (hp : plainE x = true) (iha : SE K C n nm sc x a) (ihl : SL K C n nm sc xs as) : SL K C n nm sc (x :: xs) (a :: as) := by
  intro A fe outer B ev ow ρ γ m cm s pos hs rm S
  refine ⟨?_, ?_⟩
  · rw [star_plain hp, evEs]
    show EndsL K A _ B _ s (spliced ((false, eval x ev) :: backTo pos (starEach xs ev)))
    unfold spliced
    refine EndsG.bind (iha A fe outer B ev ow ρ γ m cm s hs rm S).1 fun v y h' tk _ kp rv => ?_
    refine EndsG.of_eq (t' := (holding [y] (spliced (backTo pos (starEach xs ev))) >>= fun vs => pure ([y] ++ vs))) ?_ rfl
    refine EndsG.bind ((ihl A fe outer B ev ow ρ γ m cm { s with heap := h', toks := tk } pos hs rm (S.step0 kp)).1.holding) fun vs ys h'' tk' _ kp' rs => ?_
    exact EndsG.pure (s := { s with heap := h'', toks := tk' }) ⟨y, ys, rfl, rv.step0 (S.I.step0 kp) kp', rs⟩
  · rw [star_plain hp]
    show (false || (backTo pos (starEach xs ev)).any (·.1)) = false
    rw [(ihl A fe outer B ev ow ρ γ m cm s pos hs rm S).2]; rfl
/-- a call of a built-in function by its name -/
theorem callB {x : Expr} {xs : List Expr} {as : List CE} {f : Prim} {v : Value} {nn : Str} {p p' : Pos} (O : Ok K) (ht : btab nn = some v) (hd : (nn == ("__debug__" : Str)) = false) (hkp : Keepable K v) (hk : sc.names.lookup nn = some .globalImplicit) (hp : plainE x = true) (ih : SL K C n nm sc (x :: xs) as) (ihr : ∀ ev pos, (backTo pos (starEach xs ev)).any (·.1) = false)
    {A : Around} {fe : Env} {outer : List Env} {B : Addr → Prop} {ev : Env} {ow : Nat → Option Addr} {ρ : Env'} {γ : List FV} {m cm : Str → Option Value} {s : Shared} (hs : ev.scope = sc) (rm : Room A n) (S : St K A fe outer B nm ev ow ρ γ m cm s.heap)
    (ok : ∀ h' tk vs ys, Inv K A fe outer B h' → RVs K h' B vs ys → Ends K A (frsOf fe outer) B (evP f vs) { s with heap := h', toks := tk } (call v ys)) :
    Ends K A (frsOf fe outer) B (evE C ρ γ (.p f as)) s (eval (.Call (.Name nn p') (x :: xs) [] p) ev) := by
  rw [evL]
  refine EndsG.res (r' := (Res.ok ()).bind fun _ => (evEs C ρ γ as).bind (evP f)) ?_ rfl
  refine EndsG.of_eq (t' := (eval (.Name nn p') ev >>= fun g => callWith p g [] (backTo p (starEach (x :: xs) ev)) (backToKw p (keywordEach [] ev)))) ?_ rfl
  refine EndsG.bind (builtin_ends (RR := fun _ _ z => z = v) O S.I S.W ht (by unfold Env.kindOf; rw [hs]; exact hk) hd rfl) fun _ z h' tk _ kp rz => ?_
  subst rz
  refine callW (s := { s with heap := h', toks := tk }) (S.I.step0 kp) hp (ihr ev p) (fun _ => hkp) (ih A fe outer B ev ow ρ γ m cm { s with heap := h', toks := tk } p hs rm (S.step0 kp)).1 fun vs ys h'' tk' _ _ kp' rs => ?_
  exact ok h'' tk' vs ys ((S.I.step0 kp).step0 kp') rs
end
end Mine
end

section
open PySem PySem.W PySem.Calls PyProof.Rows
namespace Mine
theorem slot_join : Slot "bytes" "join" "bytes.join" :=
  .of (owner := "bytes") (n := "join") (by rw [typeLookup_type, builtinLookup_eq_fast]; kernel_rfl) (by decide +kernel) (by decide +kernel) (by decide +kernel)
    (by first | exact .inl (by decide +kernel) | exact .inr (by decide +kernel)) (by rw [isSubtype_type]; kernel_rfl)
theorem type_join : typeOf (.builtin "bytes.join") = pure (.type "method_descriptor") := by show builtinType _ = _; rw [builtinType_eq_fast]; kernel_rfl
theorem entry_join : entryFor table "bytes.join" = some Builtin.«bytes.join» := entryFor_of_tree (by kernel_rfl)
theorem args_join (a b : Value) : argsOk "bytes.join" ⟨[a, b], []⟩ := by unfold argsOk; kernel_rfl

section
variable {K : Cfg} {A : Around} {fe ev : Env} {outer : List Env} {B : Addr → Prop} {s : Shared} {fr : List Addr}
theorem op_join {l : Addr} {vs : List Value} {fs : List FV} {bs : List (List UInt8)} {t : Tok} (hl : s.heap.IsList l (List.toArray vs)) (r : RVs K s.heap B fs vs) (e : allBytes fs = some bs) (hz : bs.flatten.length ≤ big) :
    Ends K A fr B (.ok (.bytes bs.flatten)) s (call (.builtin "bytes.join") [.bytes #[] t, .ref l]) := by
  obtain ⟨h1, h2⟩ := bytes_at r e
  exact .here fun Q E k => wpAny_call_entry slot_join (PySem.W.typeIs_bytes _ _ _) entry_join (join_tree hl h2 h1.symm hz fun t' tk => ⟨_, rfl, k _ _ ⟨hz, t', rfl⟩⟩) (args_join _ _)
theorem op_get {d : Addr} {kvs : List (Str × Value)} {l : List (Str × FV)} {p : Str} {t : Tok} (hd : s.heap.DictOf (strKind K.prog K.w) d kvs) (ns : (d == sysModules) = false) (r : RVd K s.heap B l kvs) :
    Ends K A fr B (.ok ((dctGet l p).getD .none)) s (call (.builtin "dict.get") [.ref d, .str p t]) :=
  .here fun Q E k => call_meetsIn F.slot_dict_get hd.typeIs F.entry_dict_get (F.args_dict_get_2 _ _) (meets_dict_get (strKind K.prog K.w) d (strKind_is K.prog K.w p t) ns) ⟨_, hd.mapOf, k _ _ (by
    cases e : dctGet l p with
    | none => rw [(r.value p).2 e]; rfl
    | some f => obtain ⟨z, e1, e2⟩ := (r.value p).1 f e; rw [e1]; exact e2)⟩
end
section
variable {K : Cfg} {C : CallT} {n : Nat} {nm : Nms} {sc : Scope}
theorem SE.const {c : Const} {k : Nat} {p : Pos} {v : FV} (hc : constOf c = some v) : SE K C n nm sc (.Constant c k p) (.k v) := by
  intro A fe outer B ev ow ρ γ m cm s hs rm S
  have e : Ends K A (frsOf fe outer) B (evE C ρ γ (.k v)) s (eval (.Constant c k p) ev) := by rw [evE]; exact const_ends hc
  exact ⟨e, tr_default S.I e rfl⟩
theorem evEs1 {C : CallT} {ρ : Env'} {γ : List FV} {v : FV} : evEs C ρ γ [.k v] = .ok [v] := by simp [evEs, evE]
theorem evEs2 {C : CallT} {ρ : Env'} {γ : List FV} {v u : FV} : evEs C ρ γ [.k v, .k u] = .ok [v, u] := by simp [evEs, evE]

/-- a method with written arguments -/
theorem methC {g : FV → Res FV} {id : String} {o : Expr} {name : Str} {apos pos : Pos} {c : Const} {k : Nat} {p1 : Pos} {w : FV} {a : CE} {vs : List FV} (hb : plainBase o = true) (hl : (apos.endLine == pos.line) = true) (hc : constOf c = some w) (xs : List Expr) (as : List CE)
    (hxs : ∀ ev, (backTo pos (starEach xs ev)).any (·.1) = false) (hlen : xs.length < 20) (ih : SL K C n nm sc xs as) (hvs : ∀ ρ γ, evEs C ρ γ (.k w :: as) = .ok vs)
    (iho : SE K C n nm sc o a) {A : Around} {fe : Env} {outer : List Env} {B : Addr → Prop} {ev : Env} {ow : Nat → Option Addr} {ρ : Env'} {γ : List FV} {m cm : Str → Option Value} {s : Shared} (hs : ev.scope = sc) (rm : Room A n) (S : St K A fe outer B nm ev ow ρ γ m cm s.heap)
    (hm : ∀ v x h' tk pl Q E, g v ≠ .no → RV K h' B v x → Q (.builtin id, [x]) { s with heap := h', toks := tk } → wpAny (model K.prog K.w) A (getMethod x name pl) Q E { s with heap := h', toks := tk })
    (hk : ∀ v x h' tk ys, Inv K A fe outer B h' → RV K h' B v x → RVs K h' B vs ys → Ends K A (frsOf fe outer) B (g v) { s with heap := h', toks := tk } (call (.builtin id) ([x] ++ ys))) :
    Ends K A (frsOf fe outer) B ((evE C ρ γ a).bind g) s (eval (.Call (.Attribute o name apos) (.Constant c k p1 :: xs) [] pos) ev) := by
  refine methW (.builtin id) hb hl ?_ (iho A fe outer B ev ow ρ γ m cm s hs rm S).1 (fun v x h' tk pl Q E _ hv rv hq => hm v x h' tk pl Q E hv rv hq) fun v x h' tk _ kp rv => ?_
  · unfold methodCallForm
    have h1 : (backTo pos (starEach (.Constant c k p1 :: xs) ev)).all (fun z => !z.1) = true := by
      have := hxs ev
      show (true && (backTo pos (starEach xs ev)).all (fun z => !z.1)) = true
      rw [Bool.true_and, List.all_eq_true]
      intro z hz
      have := List.any_eq_false.mp this z hz
      simpa using this
    rw [h1]
    show (true && true && decide ((xs.length + 1) + 0 + 0 < 30)) = true
    simp; omega
  · have S' := S.step0 kp
    refine EndsG.res (r' := (evEs C ρ γ (.k w :: as)).bind fun _ => g v) (callW (s := { s with heap := h', toks := tk }) (first := [x]) (g := fun _ => g v) S'.I rfl (hxs ev) (fun _ => keep_builtin) ((SL.cons rfl (SE.const hc) ih) A fe outer B ev ow ρ γ m cm { s with heap := h', toks := tk } pos hs rm S').1 fun us ys h'' tk' hus hv kp' rs => ?_) (by rw [hvs]; rfl)
    rw [hvs] at hus
    cases hus
    exact hk v x h'' tk' ys (S'.I.step0 kp') (rv.step0 S'.I kp') rs
end
end Mine
end

section
open PySem PySem.W PySem.Calls PyProof.Rows
namespace Mine
section
variable {K : Cfg} {A : Around} {fe ev : Env} {outer : List Env} {B : Addr → Prop} {s : Shared}
def SlR (K : Cfg) (B : Addr → Prop) (h : Heap) (w : FV × FV) (x : Value) : Prop := ∃ a lv uv, x = .ref a ∧ h.IsSliceOf a lv uv .none ∧ RV K h B w.1 lv ∧ RV K h B w.2 uv
def OptE (K : Cfg) (A : Around) (fr : List Addr) (B : Addr → Prop) (ev : Env) (r : Res FV) (s : Shared) : Option Expr → Prop
  | none => r = .ok .none
  | some x => Ends K A fr B r s (eval x ev)
theorem opt_ends {e : Option Expr} {r : Res FV} (h : OptE K A (frsOf fe outer) B ev r s e) : Ends K A (frsOf fe outer) B r s (valueOrNone (evalOpt e ev)) := by
  cases e with
  | none => cases (show r = .ok .none from h); exact EndsG.pure rfl
  | some x => exact h
theorem slice_ends' {lo up : Option Expr} {p' : Pos} {rl : Res FV} {ru : Res FV} (I : Inv K A fe outer B s.heap) (hl : OptE K A (frsOf fe outer) B ev rl s lo)
    (hu : ∀ h' tk, Kp (frsOf fe outer) N0 s.heap h' → OptE K A (frsOf fe outer) B ev ru { s with heap := h', toks := tk } up) :
    EndsG K A (frsOf fe outer) (SlR K B) (rl.bind fun l => ru.bind fun u => .ok (l, u)) s (eval (.Slice lo up none p') ev) := by
  rw [arm_eval_Slice]
  refine EndsG.bind (opt_ends hl) fun l lv h' tk _ kp rv => EndsG.bind (EndsG.holding (opt_ends (s := { s with heap := h', toks := tk }) (hu h' tk kp))) fun u uv h'' tk' _ kp' rw => ?_
  have I' := (I.step0 kp).step0 kp'
  refine EndsG.of_eq (t' := (holding [lv, uv] (pure Value.none) >>= fun n => newFields "slice" [lv, uv, n])) ?_ rfl
  refine EndsG.res (r' := (Res.ok FV.none).bind fun _ => Res.ok (l, u)) (EndsG.bind (EndsG.holding (EndsG.pure (RR := fun h => RV K h B) (s := { s with heap := h'', toks := tk' }) (v := FV.none) rfl)) fun _ y h3 tk3 hy kp3 ry => ?_) rfl
  cases hy
  cases ry
  refine .mk fun Q E k => wpAny_newObj_type (k _ _ tk3 (Kp.push _ _ _ _) ⟨_, lv, uv, rfl, Heap.IsSliceOf.new _ _ _ _, ?_, ?_⟩)
  · have I3 := I'.step0 kp3
    exact ((rv.step0 (I.step0 kp) kp').step0 I' kp3).step0 I3 (Kp.push _ _ _ _)
  · have I3 := I'.step0 kp3
    exact (rw.step0 I' kp3).step0 I3 (Kp.push _ _ _ _)
theorem slB_ok {v w : FV} {x y : Value} (I : Inv K A fe outer B s.heap) (rv : RV K s.heap B v x) (rs : SlR K B s.heap (.none, w) y) : Ends K A (frsOf fe outer) B (evP .slB [v, w]) s (getItem x y) := by
  obtain ⟨a, lv, uv, rfl, hsl, hl, hu⟩ := rs
  cases hl
  cases v <;> first | exact EndsG.no | skip
  all_goals (cases w <;> first | exact EndsG.no | skip)
  · obtain ⟨sz, t, rfl⟩ := rv; obtain ⟨u, rfl⟩ := hu
    refine ends_if fun h => ?_
    simp only [Bool.and_eq_true, decide_eq_true_eq] at h
    exact op_slB hsl sz h.1
  · obtain ⟨sz, l, vs, rfl, nb, hl, rl⟩ := rv; obtain ⟨u, rfl⟩ := hu
    refine ends_if fun h => ?_
    simp only [Bool.and_eq_true, decide_eq_true_eq] at h
    exact slice_list' I hl nb rl hsl h.1 sz
theorem slA_ok {v w : FV} {x y : Value} (I : Inv K A fe outer B s.heap) (rv : RV K s.heap B v x) (rs : SlR K B s.heap (w, .none) y) : Ends K A (frsOf fe outer) B (evP .slA [v, w]) s (getItem x y) := by
  obtain ⟨a, lv, uv, rfl, hsl, hl, hu⟩ := rs
  cases hu
  cases v <;> first | exact EndsG.no | skip
  all_goals (cases w <;> first | exact EndsG.no | skip)
  obtain ⟨sz, t, rfl⟩ := rv; obtain ⟨u, rfl⟩ := hl
  refine ends_if fun h => ?_
  simp only [Bool.and_eq_true, decide_eq_true_eq] at h
  exact op_slA hsl sz h.1
theorem slAB_ok {v w z : FV} {x y : Value} (I : Inv K A fe outer B s.heap) (rv : RV K s.heap B v x) (rs : SlR K B s.heap (w, z) y) : Ends K A (frsOf fe outer) B (evP .slAB [v, w, z]) s (getItem x y) := by
  obtain ⟨a, lv, uv, rfl, hsl, hl, hu⟩ := rs
  cases v <;> first | exact EndsG.no | skip
  all_goals (cases w <;> first | exact EndsG.no | skip)
  all_goals (cases z <;> first | exact EndsG.no | skip)
  obtain ⟨sz, t, rfl⟩ := rv; obtain ⟨u, rfl⟩ := hl; obtain ⟨u', rfl⟩ := hu
  refine ends_if fun h => ?_
  simp only [Bool.and_eq_true, decide_eq_true_eq] at h
  exact op_slAB hsl sz h.1.1.1 h.1.1.2
end
end Mine
end

section
open PySem PySem.W PySem.Calls PyProof.Rows
namespace Mine
section
variable {K : Cfg} {A : Around} {fe ev : Env} {outer : List Env} {B : Addr → Prop} {s : Shared} {nm : Nms} {ow : Nat → Option Addr} {ρ : Env'} {γ : List FV} {m cm : Str → Option Value} {C : CallT}
theorem lenv_ends (O : Ok K) (S : St K A fe outer B nm ev ow ρ γ m cm s.heap) {p p' p'' : Pos} {n : Str} {i : Nat} (hk : ev.kindOf ("len" : Str) = some .globalImplicit) (hcs : nm.cs = []) (hv : nm.vs[i]? = some n) (h1 : (n == ("__debug__" : Str)) = false) (h2 : (n == ("__classdict__" : Str)) = false) :
    Ends K A (frsOf fe outer) B (evE C ρ γ (.lenv i)) s (eval (.Call (.Name "len" p') [.Name n p''] [] p) ev) := by
  rw [evE]
  unfold getL
  split
  · rename_i l hl
    split at hl
    · rename_i l' hρ
      cases hl
      obtain ⟨a, e1, e2, e3, ⟨sz, ys, hys, rs⟩⟩ := S.R.own i n (.ml l) hρ (fun v h => by cases h) hv
      have e2 := e2 hcs
      refine EndsG.res (r' := (Res.ok ()).bind fun _ => Res.ok (FV.int l.length)) ?_ rfl
      refine EndsG.of_eq (t' := (eval (.Name "len" p') ev >>= fun g => callWith p g [] (backTo p (starEach [.Name n p''] ev)) (backToKw p (keywordEach [] ev)))) ?_ rfl
      refine EndsG.bind (builtin_ends (RR := fun _ _ z => z = .builtin "len") O S.I S.W (show btab "len" = some (.builtin "len") by decide) hk (by decide) rfl) fun _ z h' tk _ kp rz => ?_
      subst rz
      have S' := S.step0 kp
      have hys' : h'.IsList a (List.toArray ys) := (hys.at fun o ho => kp.keep a o ho (fun q => q) (S.O.1 i a e1).1).isList
      refine EndsG.mk fun Q E k => callWith_of (P := fun _ => True) rfl (fun h _ => ⟨.machine, .inr (.inl rfl), Looks.of_pure rfl⟩) ?_
      refine evalArgs_plain (Calls.spliced_cons (load_lookV (s := { s with heap := h', toks := tk }) S'.W S'.R.fr e2 (Calls.spliced_nil ⟨trivial, ?_⟩) h1 h2))
      refine call_len_list hys' (by rw [List.size_toArray, rs.length]; exact lt63_of_le sz) (k _ h' _ (.refl ..) ⟨_, by rw [List.size_toArray, rs.length]⟩)
    · cases hl
  · exact EndsG.no
theorem toBs_call {x : Value} {v : FV} {p p1 p2 p3 p4 : Pos} {k k' : Nat} (rv : RV K s.heap B v x) :
    Ends K A (frsOf fe outer) B (evP (.toB true) [v]) s (callWith p (.builtin "int.to_bytes") [x] (backTo p (starEach [.Constant (.int 4) k p1, lit "little" p2] ev)) (backToKw p (keywordEach [⟨some "signed", .Constant (.bool true) k' p3, p4⟩] ev))) := by
  cases v <;> first | exact EndsG.no | skip
  obtain ⟨t, rfl⟩ := rv
  refine ends_if fun h => ?_
  simp only [if_true, Bool.and_eq_true, decide_eq_true_eq] at h
  refine EndsG.mk fun Q E q => callWith_of (P := fun _ => True) rfl (fun h _ => ⟨.machine, .inr (.inl rfl), Looks.of_pure rfl⟩) (evalArgs_kw2 rfl ?_)
  refine Calls.spliced_cons (wpAny_mkInt (Calls.spliced_cons (Calls.Constant_str (k := 0) (pos := p2) (Calls.spliced_nil ?_))))
  refine kwAll_cons (wpAny_pure (kwAll_nil ⟨trivial, ?_⟩))
  refine op_toB_signed (K := K) (fr := frsOf fe outer) (B := B) h.1 h.2 Q E fun y h' tk kp ry => q y h' tk kp ry
end
end Mine
end

section
open PySem PySem.W PySem.Calls PyProof.Rows
namespace Mine
section
variable {K : Cfg} {A : Around} {fe ev : Env} {outer : List Env} {B : Addr → Prop} {s : Shared} {fr : List Addr}
theorem EndsG.after {α β : Type} {RR : Heap → β → α → Prop} {r : Res β} {t t' : Sem α} {h' : Heap} {tk : Nat} (kp : Kp fr N0 s.heap h') (h : EndsG K A fr RR r { s with heap := h', toks := tk } t')
    (w : ∀ Q E, wpAny (model K.prog K.w) A t' Q E { s with heap := h', toks := tk } → wpAny (model K.prog K.w) A t Q E s) : EndsG K A fr RR r s t := by
  cases r with
  | no => trivial
  | exc e => exact fun Q E hE => w _ _ (h _ _ fun a h'' tk' k2 x2 => hE a h'' tk' (kp.trans0 k2) (x2.low kp))
  | ok v => exact fun Q E hQ => w _ _ (h _ _ fun y h'' tk' k2 r2 => hQ y h'' tk' (kp.trans0 k2) r2)
theorem check_fb {b : Array UInt8} {t u : Tok} {o : PySem.Str} {sg : Bool} : checkBoundCall "int.from_bytes" ⟨[.type "int", .bytes b t, .str o u], [(Str.ofString "signed", .bool sg)]⟩ = pure () := by first | kernel_rfl | rfl
theorem call_from {x : Addr} {l : List UInt8} {t u : Tok} {sg : Bool} (ho : s.heap.get? x = some KFB.bound) (hl : l.length ≤ 8) :
    Ends K A fr B (.ok (.int (ofLE l sg))) s (call (.ref x) [.bytes l.toArray t, .str (PySem.Str.ofString "little") u] [(Str.ofString "signed", .bool sg)]) := by
  refine .here fun Q E k => wpAny_call (codeAny_of_tree ?_)
  show wpAny _ A.in1 (callAny (.ref x) ⟨[.bytes l.toArray t, .str (PySem.Str.ofString "little") u], [(Str.ofString "signed", .bool sg)]⟩) _ _ s
  simp only [callAny]
  refine wpAny_bind (wpAny_load ho ?_)
  simp only [KFB.bound, show (Value.type "builtin_function_or_method" == Value.type "method" || Value.type "builtin_function_or_method" == Value.type "builtin_function_or_method" || Value.type "builtin_function_or_method" == Value.type "method-wrapper") = true by decide, if_true]
  refine KFB.if_so (by decide) ?_
  refine wpAny_bind (wpAny_of_eq (a := ()) check_fb ?_)
  refine wpAny_bind (wpAny_pure (wpAny_pure ?_))
  exact ⟨KFB.quiet_fb, codeAny_builtin KFB.entry_fb (tree_from hl (k _ _ ⟨_, rfl⟩))⟩
theorem keep_bound {M : Model} {q : Addr} {h : Heap} (ho : h.get? q = some KFB.bound) : ∃ k, (k = Keeper.frame ∨ k = Keeper.machine ∨ k = Keeper.boundFrame) ∧ Looks M h (keeperOf (.ref q)) k :=
  ⟨.machine, .inr (.inl rfl), (Looks.ld (part := none) ho).andThen (Looks.of_pure rfl)⟩
theorem fromB_call {q : Addr} {x y : Expr} {p p2 p3 : Pos} {ra rb : Res FV} (I : Inv K A fe outer B s.heap) (hq : s.heap.get? q = some KFB.bound) (hqf : q ∉ frsOf fe outer) (hx : plainE x = true)
    (ha : Ends K A (frsOf fe outer) B ra s (eval x ev)) (hb : ∀ h' tk, Kp (frsOf fe outer) N0 s.heap h' → Ends K A (frsOf fe outer) B rb { s with heap := h', toks := tk } (eval y ev)) :
    Ends K A (frsOf fe outer) B (ra.bind fun v => rb.bind fun w => evP .fromB [v, w]) s (callWith p (.ref q) [] (backTo p (starEach [x, lit "little" p2] ev)) (backToKw p (keywordEach [⟨some "signed", y, p3⟩] ev))) := by
  have hplain : ((backTo p (starEach [x, lit "little" p2] ev)).any (·.1) || (backToKw p (keywordEach [⟨some "signed", y, p3⟩] ev)).any (·.1.isNone)) = false := by rw [star_plain hx]; rfl
  have key : ∀ (Q : Value → Shared → Prop) (E : Value → Shared → Prop), wpAny (model K.prog K.w) A (eval x ev) (fun xv s₁ => wpAny (model K.prog K.w) A (eval y ev) (fun yv s₂ => s₂.heap.get? q = some KFB.bound ∧ wpAny (model K.prog K.w) A (call (.ref q) [xv, .str (Str.ofString "little") s₁.toks] [(Str.ofString "signed", yv)]) Q E s₂) E { s₁ with toks := s₁.toks + 1 }) E s →
      wpAny (model K.prog K.w) A (callWith p (.ref q) [] (backTo p (starEach [x, lit "little" p2] ev)) (backToKw p (keywordEach [⟨some "signed", y, p3⟩] ev))) Q E s := by
    intro Q E h
    refine callWith_of (P := fun h => h.get? q = some KFB.bound) hplain (fun h hs => keep_bound hs) (evalArgs_kw2 rfl ?_ (star_plain hx _ _))
    rw [star_plain hx]
    exact Calls.spliced_cons (wpAny_mono h (fun xv s₁ h₁ => Calls.spliced_cons (Calls.Constant_str (k := 0) (pos := p2) (Calls.spliced_nil (kwAll_cons (wpAny_mono h₁ (fun yv s₂ h₂ => kwAll_nil h₂) fun _ _ z => z))))) fun _ _ z => z)
  cases ra with
  | no => trivial
  | exc e => exact fun Q E hE => key Q E (ha _ _ hE)
  | ok v =>
    cases rb with
    | no => trivial
    | exc e =>
      intro Q E hE
      refine key Q E (ha _ _ fun xv h' tk kp rv => hb h' (tk + 1) kp _ _ fun a h'' tk' k2 x2 => hE a h'' tk' (kp.trans0 k2) (x2.low kp))
    | ok w =>
      show Ends K A _ B (evP .fromB [v, w]) s _
      cases v <;> first | exact EndsG.no | skip
      cases w <;> first | exact EndsG.no | skip
      refine ends_if fun h => ?_
      simp only [decide_eq_true_eq] at h
      intro Q E hQ
      refine key Q E (ha _ _ fun xv h' tk kp rv => hb h' (tk + 1) kp _ _ fun yv h'' tk' k2 r2 => ?_)
      obtain ⟨_, t, rfl⟩ := rv
      cases r2
      have hq2 : h''.get? q = some KFB.bound := k2.keep _ _ (kp.keep _ _ hq (fun z => z) hqf) (fun z => z) hqf
      exact ⟨hq2, call_from (K := K) (fr := frsOf fe outer) (B := B) (s := { s with heap := h'', toks := tk' }) hq2 h Q E fun z h3 tk3 k3 r3 => hQ z h3 tk3 ((kp.trans0 k2).trans0 k3) r3⟩
end
end Mine
end

section
open PySem PySem.W PySem.Calls PyProof.Rows
namespace Mine

/-- how an item stands that a target of m names takes apart -/
def SpR (K : Cfg) (h : Heap) (B : Addr → Prop) (m : Nat) (x : FV) (v : Value) : Prop :=
  if m = 0 then RV K h B x v else ∃ l a vs, x = .tup l ∧ v = .ref a ∧ IsTup h a (List.toArray vs) ∧ RVs K h B l vs

/-- an iteration: St tells what is left; W is the iterator's own -/
structure Go (K : Cfg) (A : Around) (fr : List Addr) (tgt : Expr) (m : Nat) (it : Value) (W : Addr → Prop) (St : (Addr → Prop) → List FV → Heap → Prop) : Prop where
  frame : ∀ (B B' : Addr → Prop) xs h h', (∀ b, W b → B b) → St B xs h → (∀ b o, h.get? b = some o → (¬ B b ∨ W b) → h'.get? b = some o) → (∀ b o, h.get? b = some o → B' b → B b) → St B' xs h'
  live : ∀ B xs h, St B xs h → ∀ b, W b → ∃ o, h.get? b = some o
  step : ∀ (B : Addr → Prop) x xs (s : Shared) (Q : Value → Shared → Prop) (E : Value → Shared → Prop), (∀ b, W b → B b) → St B (x :: xs) s.heap → spread m x ≠ none →
    (∀ v h' tk, (∀ b o, ¬ W b → s.heap.get? b = some o → h'.get? b = some o) → SpR K h' B m x v → St B xs h' → Q v { s with heap := h', toks := tk }) →
    wpAny (model K.prog K.w) A (pyNext it) (fun r s₁ => match r with | none => False | some v => wpAny (model K.prog K.w) A (letOwnedTupleGo tgt it v) (fun _ s₂ => Q v s₂) E s₁) E s
  done : ∀ (B : Addr → Prop) (s : Shared) (Q : Option Value → Shared → Prop) (E : Value → Shared → Prop), (∀ b, W b → B b) → St B [] s.heap →
    (∀ h' tk, (∀ b o, ¬ W b → s.heap.get? b = some o → h'.get? b = some o) → Q none { s with heap := h', toks := tk }) → wpAny (model K.prog K.w) A (pyNext it) Q E s
  self : ∀ (B : Addr → Prop) xs (s : Shared) (Q : Value → Shared → Prop) (E : Value → Shared → Prop), St B xs s.heap → Q it s → wpAny (model K.prog K.w) A (pyIter it) Q E s

theorem Go.step' {K : Cfg} {A : Around} {fr : List Addr} {tgt : Expr} {m : Nat} {it : Value} {W : Addr → Prop} {St : (Addr → Prop) → List FV → Heap → Prop} (G : Go K A fr tgt m it W St) (B : Addr → Prop) (x : FV) (xs : List FV) {s : Shared} {P0 : Shared → Prop} {X : Value → Shared → Prop} {E : Value → Shared → Prop}
    (hw : ∀ b, W b → B b) (st : St B (x :: xs) s.heap) (hs : spread m x ≠ none)
    (h : ∀ v h' tk, (∀ b o, ¬ W b → s.heap.get? b = some o → h'.get? b = some o) → SpR K h' B m x v → St B xs h' → X v { s with heap := h', toks := tk }) :
    wpAny (model K.prog K.w) A (pyNext it) (fun r s₁ => match r with | none => P0 s₁ | some v => wpAny (model K.prog K.w) A (letOwnedTupleGo tgt it v) (fun _ s₀ => X v s₀) E s₁) E s :=
  wpAny_mono (G.step B x xs s X E hw st hs h) (fun r s₁ hr => by cases r with | none => exact hr.elim | some v => exact hr) fun _ _ e => e

theorem spR_of {K : Cfg} {h : Heap} {B : Addr → Prop} {m : Nat} {x : FV} {v : Value} (r : RV K h B x v) (hs : spread m x ≠ none) : SpR K h B m x v := by
  unfold SpR
  split
  · exact r
  · rename_i hm
    unfold spread at hs
    rw [if_neg hm] at hs
    cases x with
    | tup l =>
      obtain ⟨_, a, vs, e, _, ht, rs⟩ := r
      exact ⟨l, a, vs, rfl, e, ht, rs⟩
    | _ => exact absurd rfl hs

section
variable {K : Cfg} {A : Around} {fr : List Addr} {tgt : Expr} {m : Nat} {I : Addr} {fp wr : List Addr} {n : Nat} {P Md : Nat → Value → Heap → Prop} {St0 : Nat → Heap → Prop}

theorem Go.of (W : KTurns K.prog K.w A tgt I fp wr n P Md St0) (Hold : (Addr → Prop) → List FV → Nat → Heap → Prop)
    (h1 : ∀ B x xs i h, Hold B (x :: xs) i h → i < n) (h2 : ∀ B i h, Hold B [] i h → i = n)
    (hP : ∀ B x xs i h v, Hold B (x :: xs) i h → spread m x ≠ none → P i v h → SpR K h B m x v ∧ Hold B xs (i + 1) h)
    (hH : ∀ (B B' : Addr → Prop) xs i h h', Hold B xs i h → (∀ b o, h.get? b = some o → ¬ B b → h'.get? b = some o) → (∀ b o, h.get? b = some o → B' b → B b) → Hold B' xs i h')
    (hfp : ∀ B xs i h, Hold B xs i h → ∀ b ∈ fp, ¬ B b ∨ b ∈ wr) (live : ∀ i h, St0 i h → ∀ b ∈ wr, ∃ o, h.get? b = some o)
    (self : ∀ i (s : Shared) (Q : Value → Shared → Prop) (E : Value → Shared → Prop), St0 i s.heap → Q (.ref I) s → wpAny (model K.prog K.w) A (pyIter (.ref I)) Q E s) :
    Go K A fr tgt m (.ref I) (· ∈ wr) (fun B xs h => ∃ i, St0 i h ∧ Hold B xs i h) where
  frame := fun B B' xs h h' hw ⟨i, st, ho⟩ hk hB => ⟨i, W.frame i h h' st fun b hb o e => hk b o e (hfp _ _ _ _ ho b hb), hH B B' xs i h h' ho (fun b o e nb => hk b o e (.inl nb)) hB⟩
  live := fun B xs h ⟨i, st, ho⟩ => live i h st
  step := fun B x xs s Q E hw ⟨i, st, ho⟩ hs hQ => by
    refine W.item i s _ _ (h1 _ _ _ _ _ ho) st fun v h' tk hm hk => ?_
    refine W.go i v _ _ _ hm fun h'' hp st' hk' => ?_
    have keep : ∀ b o, b ∉ wr → s.heap.get? b = some o → h''.get? b = some o := fun b o hb e => hk' b o hb (hk b o hb e)
    have ho' := hH B B (x :: xs) i s.heap h'' ho (fun b o e nb => keep b o (fun hb => nb (hw b hb)) e) (fun _ _ _ q => q)
    obtain ⟨r, ho''⟩ := hP B x xs i h'' v ho' hs hp
    exact hQ v h'' tk (fun b o nb e => keep b o nb e) r ⟨i + 1, st', ho''⟩
  done := fun B s Q E hw ⟨i, st, ho⟩ hQ => by
    cases h2 _ _ _ ho
    exact W.done s _ _ st fun h' tk hk => hQ h' tk fun b o nb e => hk b o nb e
  self := fun B xs s Q E ⟨i, st, ho⟩ hQ => self i s Q E st hQ

end

section
variable {K : Cfg} {A : Around} {s : Shared} {E : Value → Shared → Prop}
/-- iterators that keep no tuple -/
theorem lot_plain {tgt : Expr} {I : Addr} {v : Value} {o : Obj} {c : String} {Q : Unit → Shared → Prop} (ho : s.heap.get? I = some o) (hc : o.cls = .type c)
    (hn : ["enumerate", "zip", "dict_itemiterator", "dict_reverseitemiterator", "odict_iterator", "itertools.zip_longest", "itertools.pairwise"].contains c = false) (hQ : Q () s) :
    wpAny (model K.prog K.w) A (letOwnedTupleGo tgt (.ref I) v) Q E s := by
  have key : ∀ (r : Addr), wpAny (model K.prog K.w) A (do
      let o ← load I
      match o.cls, o.data with
      | .type n, .fields vs =>
        if (["enumerate", "zip", "dict_itemiterator", "dict_reverseitemiterator", "odict_iterator", "itertools.zip_longest", "itertools.pairwise"].contains n && vs[0]? == some (rawInt r)) = true then do
          rule "for.unpacks-the-owned-tuple"
          updateField I 0 .none
        else pure ()
      | _, _ => pure ()) Q E s := fun r => by
    refine wpAny_bind (wpAny_load ho ?_)
    rw [hc]
    cases o.data with
    | fields vs =>
      show wpAny _ A (if _ then _ else _) Q E s
      rw [if_neg (by rw [hn, Bool.false_and]; exact Bool.false_ne_true)]
      exact wpAny_pure hQ
    | _ => exact wpAny_pure hQ
  cases tgt <;> first | exact wpAny_pure hQ | skip
  · cases v <;> first | exact wpAny_pure hQ | exact key _
  · cases v <;> first | exact wpAny_pure hQ | exact key _
end
end Mine
end

section
open PySem PySem.W PySem.Calls PyProof.Rows
namespace Mine

theorem drop_cons {α : Type} {l : List α} {i : Nat} {x : α} {r : List α} (h : l.drop i = x :: r) : i < l.length ∧ l[i]? = some x ∧ l.drop (i + 1) = r := by
  have h1 : i < l.length := by
    rcases Nat.lt_or_ge i l.length with h' | h'
    · exact h'
    · rw [List.drop_eq_nil_of_le h'] at h; cases h
  rw [List.drop_eq_getElem_cons h1] at h
  injection h with h2 h3
  exact ⟨h1, by rw [List.getElem?_eq_getElem h1, h2], h3⟩
theorem drop_nil {α : Type} {l : List α} {i : Nat} (h : l.drop i = []) (hi : i ≤ l.length) : i = l.length := by
  have := congrArg List.length h
  rw [List.length_drop] at this
  simp at this
  omega
theorem rvs_cons {K : Cfg} {h : Heap} {B : Addr → Prop} {x : FV} {xs : List FV} {ys : List Value} {i : Nat} (r : RVs K h B (x :: xs) (ys.drop i)) :
    ∃ v, i < ys.length ∧ ys[i]? = some v ∧ RV K h B x v ∧ RVs K h B xs (ys.drop (i + 1)) := by
  obtain ⟨v, q, e, r1, r2⟩ := r
  obtain ⟨e1, e2, e3⟩ := drop_cons e
  exact ⟨v, e1, e2, r1, e3 ▸ r2⟩

section
variable {K : Cfg} {A : Around} {fr : List Addr} {tgt : Expr} {m : Nat}
def HoldL (K : Cfg) (l : Addr) (ys : List Value) (B : Addr → Prop) (xs : List FV) (i : Nat) (h : Heap) : Prop :=
  i ≤ ys.length ∧ (¬ B l ∧ ∃ o, h.get? l = some o) ∧ RVs K h B xs (ys.drop i)
theorem HoldL.frame {l : Addr} {ys : List Value} {B B' : Addr → Prop} {xs : List FV} {i : Nat} {h h' : Heap} (x : HoldL K l ys B xs i h) (hk : ∀ b o, h.get? b = some o → ¬ B b → h'.get? b = some o) (hB : ∀ b o, h.get? b = some o → B' b → B b) : HoldL K l ys B' xs i h' := by
  obtain ⟨a, ⟨nb, o, e⟩, r⟩ := x
  exact ⟨a, ⟨fun q => nb (hB _ _ e q), o, hk _ _ e nb⟩, r.keep hk hB⟩

theorem go_list (hh : A.handled = none) (I l : Addr) (hne : l ≠ I) (ys : List Value) :
    Go K A fr tgt m (.ref I) (· ∈ [I]) (fun B xs h => ∃ i, (h.IsListIter I l i ∧ h.IsList l ys.toArray) ∧ HoldL K l ys B xs i h) := by
  refine Go.of (KTurns.ofWalks (Walks.list hh I l hne ys.toArray) fun i v s Q E st hQ => ?_) (HoldL K l ys) (fun B x xs i h r => ?_) (fun B i h r => ?_) (fun B x xs i h v r hs hp => ?_) (fun B B' xs i h h' r hk hB => r.frame hk hB) (fun B xs i h r b hb => ?_) (fun i h st b hb => ?_) (fun i s Q E st hQ => wpAny_pyIter_listiter st.1 hQ)
  · obtain ⟨o, ho, hc, hd⟩ := st.1
    exact lot_plain ho hc (by decide) hQ
  · obtain ⟨v, h1, _⟩ := rvs_cons r.2.2; simpa using h1
  · have := drop_nil r.2.2 r.1; simpa using this
  · obtain ⟨v', h1, h2, h3, h4⟩ := rvs_cons r.2.2
    have e : v = v' := by have : ys.toArray[i]? = some v := hp; simp [h2] at this; exact this.symm
    subst e
    exact ⟨spR_of h3 hs, h1, r.2.1, h4⟩
  · simp only [List.mem_cons, List.not_mem_nil, or_false] at hb
    rcases hb with rfl | rfl
    · exact .inr (by simp)
    · exact .inl r.2.1.1
  · simp only [List.mem_cons, List.not_mem_nil, or_false] at hb
    subst hb
    obtain ⟨o, ho, _⟩ := st.1
    exact ⟨o, ho⟩
theorem go_tup (hh : A.handled = none) (I l : Addr) (hne : l ≠ I) (ys : List Value) :
    Go K A fr tgt m (.ref I) (· ∈ [I]) (fun B xs h => ∃ i, (h.IsTupleIter I l i ∧ h.IsTuple l ys.toArray) ∧ HoldL K l ys B xs i h) := by
  refine Go.of (KTurns.ofWalks (Walks.tuple hh I l hne ys.toArray) fun i v s Q E st hQ => ?_) (HoldL K l ys) (fun B x xs i h r => ?_) (fun B i h r => ?_) (fun B x xs i h v r hs hp => ?_) (fun B B' xs i h h' r hk hB => r.frame hk hB) (fun B xs i h r b hb => ?_) (fun i h st b hb => ?_) (fun i s Q E st hQ => wpAny_pyIter_tupleiter st.1 hQ)
  · obtain ⟨o, ho, hc, hd⟩ := st.1
    exact lot_plain ho hc (by decide) hQ
  · obtain ⟨v, h1, _⟩ := rvs_cons r.2.2; simpa using h1
  · have := drop_nil r.2.2 r.1; simpa using this
  · obtain ⟨v', h1, h2, h3, h4⟩ := rvs_cons r.2.2
    have e : v = v' := by have : ys.toArray[i]? = some v := hp; simp [h2] at this; exact this.symm
    subst e
    exact ⟨spR_of h3 hs, h1, r.2.1, h4⟩
  · simp only [List.mem_cons, List.not_mem_nil, or_false] at hb
    rcases hb with rfl | rfl
    · exact .inr (by simp)
    · exact .inl r.2.1.1
  · simp only [List.mem_cons, List.not_mem_nil, or_false] at hb
    subst hb
    obtain ⟨o, ho, _⟩ := st.1
    exact ⟨o, ho⟩

theorem go_range (hh : A.handled = none) (I : Addr) (a : Int) (n : Nat) :
    Go K A fr tgt m (.ref I) (· ∈ [I]) (fun _ xs h => ∃ i, IsRangeIter h I (a + (i : Nat) * 1) ((n : Int) - (i : Nat)) 1 ∧ (i ≤ n ∧ xs = ((List.range n).map fun (j : Nat) => FV.int (a + (j : Int))).drop i)) := by
  refine Go.of (KTurns.ofWalks (Walks.range hh I a 1 n) fun i v s Q E st hQ => ?_) (fun _ xs i _ => i ≤ n ∧ xs = ((List.range n).map fun (j : Nat) => FV.int (a + (j : Int))).drop i) (fun B x xs i h r => ?_) (fun B i h r => ?_) (fun B x xs i h v r hs hp => ?_) (fun B B' xs i h h' r hk hB => r) (fun B xs i h r b hb => ?_) (fun i h st b hb => ?_) (fun i s Q E st hQ => wpAny_pyIter_rangeiter st hQ)
  · exact lot_plain st rfl (by decide) hQ
  · obtain ⟨h1, _⟩ := drop_cons r.2.symm; simpa using h1
  · have := drop_nil r.2.symm (by simpa using r.1); simpa using this
  · obtain ⟨h1, h2, h3⟩ := drop_cons r.2.symm
    have h1 : i < n := by simpa using h1
    have e : x = .int (a + (i : Int)) := by simpa [h1] using h2.symm
    subst e
    obtain ⟨t, rfl⟩ := hp
    refine ⟨spR_of ⟨t, ?_⟩ hs, h1, h3.symm⟩
    rw [Int.mul_one]
  · exact .inr hb
  · simp only [List.mem_cons, List.not_mem_nil, or_false] at hb
    subst hb
    exact ⟨_, st⟩

def HoldD (K : Cfg) (d : Addr) (kvs : List (Str × Value)) (B : Addr → Prop) (xs : List FV) (i : Nat) (h : Heap) : Prop :=
  i ≤ kvs.length ∧ (¬ B d ∧ ∃ o, h.get? d = some o) ∧ ∃ l : List (Str × FV), xs = (l.map fun p => .tup [.str p.1, p.2]) ∧ (∀ p ∈ l, p.1.length ≤ 1000) ∧ RVd K h B l (kvs.drop i)
theorem go_items (hh : A.handled = none) (I d : Addr) (hne : d ≠ I) (kvs : List (Str × Value)) (ep : Nat) {elts : List Expr} {kk : Nat} {pos : Pos} (hm : m = 2) :
    Go K A fr (.Tuple elts kk pos) m (.ref I) (· ∈ [I]) (fun B xs h => ∃ i, ((∃ ok ov, IsItemIter h I d i kvs.length ep ok ov) ∧ h.DictAt (strKind K.prog K.w) d kvs ep) ∧ HoldD K d kvs B xs i h) := by
  subst hm
  refine Go.of (kti_itemsTurns hh I d hne kvs ep) (HoldD K d kvs) (fun B x xs i h r => ?_) (fun B i h r => ?_) (fun B x xs i h v r hs hp => ?_) (fun B B' xs i h h' r hk hB => ?_) (fun B xs i h r b hb => ?_) (fun i h st b hb => ?_) (fun i s Q E st hQ => by obtain ⟨⟨ok, ov, e⟩, _⟩ := st; exact kcp_self e hQ)
  · obtain ⟨_, _, l, e, _, r⟩ := r
    cases l with
    | nil => cases e
    | cons p l =>
      obtain ⟨y, q, e2, _, _⟩ := r
      exact (drop_cons e2).1
  · obtain ⟨h1, _, l, e, _, r⟩ := r
    cases l with
    | nil => exact drop_nil r h1
    | cons p l => cases e
  · obtain ⟨_, nb, l, e, hl, r⟩ := r
    cases l with
    | nil => cases e
    | cons p l =>
      obtain ⟨y, q, e2, r1, r2⟩ := r
      obtain ⟨h1, h2, h3⟩ := drop_cons e2
      obtain ⟨T, key, k, z, rfl, hx, hkey, hT⟩ := hp
      rw [h2] at hx
      cases hx
      cases e
      obtain ⟨pk, pf⟩ := p
      obtain ⟨r3, r4⟩ := r1
      obtain ⟨t, rfl⟩ := Value.isStrOf_shape hkey
      subst r3
      refine ⟨?_, h1, nb, l, rfl, fun p hp => hl p (List.mem_cons_of_mem _ hp), h3 ▸ r2⟩
      refine ⟨_, T, _, rfl, rfl, hT, _, _, rfl, ⟨Nat.le_trans (hl _ (List.mem_cons_self ..)) (by decide), t, rfl⟩, _, _, rfl, r4, rfl⟩
  · obtain ⟨h1, ⟨nb, o, eo⟩, l, e, hl, r⟩ := r
    exact ⟨h1, ⟨fun q => nb (hB _ _ eo q), o, hk _ _ eo nb⟩, l, e, hl, r.keep hk hB⟩
  · simp only [List.mem_cons, List.not_mem_nil, or_false] at hb
    rcases hb with rfl | rfl
    · exact .inr (by simp)
    · exact .inl r.2.1.1
  · simp only [List.mem_cons, List.not_mem_nil, or_false] at hb
    subst hb
    obtain ⟨⟨ok, ov, e⟩, _⟩ := st
    exact ⟨_, e⟩

def HoldE (K : Cfg) (l : Addr) (ys : List Value) (B : Addr → Prop) (xs : List FV) (i : Nat) (h : Heap) : Prop :=
  i ≤ ys.length ∧ (¬ B l ∧ ∃ o, h.get? l = some o) ∧ ∃ us : List FV, xs = ((us.zipIdx i).map fun p => .tup [.int p.2, p.1]) ∧ RVs K h B us (ys.drop i)
theorem go_enumD {e it l : Addr} {ys : List Value} {St0 : Nat → Heap → Prop} (D : Draws K.prog K.w A.in1 it [it, l] ys.toArray.size (fun i v => ys.toArray[i]? = some v) St0) (hei : e ≠ it) (hel : e ≠ l) {elts : List Expr} {kk : Nat} {pos : Pos} (hm : m = 2) :
    Go K A fr (.Tuple elts kk pos) m (.ref e) (· ∈ [e, it]) (fun B xs h => ∃ i : Nat, ((∃ old, IsEnum h e it i old) ∧ St0 i h) ∧ HoldE K l ys B xs i h) := by
  subst hm
  refine Go.of (KTurns.ofWalksU (WalksT.toU (WalksT.enumerateD D e hei (by simp [hei, hel]) (by simp)))) (HoldE K l ys) (fun B x xs i h r => ?_) (fun B i h r => ?_) (fun B x xs i h v r hs hp => ?_) (fun B B' xs i h h' r hk hB => ?_) (fun B xs i h r b hb => ?_) (fun i h st b hb => ?_) (fun i s Q E st hQ => by obtain ⟨⟨old, e⟩, _⟩ := st; exact wpAny_pyIter_enum e hQ)
  · obtain ⟨_, _, us, e, r⟩ := r
    cases us with
    | nil => cases e
    | cons p l => obtain ⟨v, h1, _⟩ := rvs_cons r; simpa using h1
  · obtain ⟨h1, _, us, e, r⟩ := r
    cases us with
    | nil => have := drop_nil r h1; simpa using this
    | cons p l => cases e
  · obtain ⟨_, nb, us, e, r⟩ := r
    cases us with
    | nil => cases e
    | cons p us =>
      obtain ⟨v', h1, h2, h3, h4⟩ := rvs_cons r
      obtain ⟨T, vals, rfl, ⟨t, z, hx, rfl⟩, hT⟩ := hp
      have ez : z = v' := by simp [h2] at hx; exact hx.symm
      subst ez
      rw [List.zipIdx_cons, List.map_cons] at e
      cases e
      exact ⟨⟨_, T, _, rfl, rfl, hT, _, _, rfl, ⟨t, rfl⟩, _, _, rfl, h3, rfl⟩, h1, nb, us, rfl, h4⟩
  · obtain ⟨h1, ⟨nb, o, eo⟩, us, e, r⟩ := r
    exact ⟨h1, ⟨fun q => nb (hB _ _ eo q), o, hk _ _ eo nb⟩, us, e, r.keep hk hB⟩
  · simp only [List.mem_cons, List.not_mem_nil, or_false] at hb
    rcases hb with rfl | rfl | rfl
    · exact .inr (by simp)
    · exact .inr (by simp)
    · exact .inl r.2.1.1
  · simp only [List.mem_cons, List.not_mem_nil, or_false] at hb
    rcases hb with rfl | rfl
    · obtain ⟨⟨old, e⟩, _⟩ := st
      exact ⟨_, e⟩
    · exact D.live _ _ st.2
end
end Mine
end

section
open PySem PySem.W PySem.Calls PyProof.Rows
namespace Mine

section
variable {K : Cfg} {B W : Addr → Prop} {h h' : Heap}
theorem wideB (hw : ∀ b, W b → h.get? b = none) : ∀ b o, h.get? b = some o → (B b ∨ W b) → B b := fun b o e q => q.elim id fun q => by rw [hw b q] at e; cases e
theorem RVs.wide {xs : List FV} {ys : List Value} (r : RVs K h B xs ys) (hk : ∀ b o, h.get? b = some o → h'.get? b = some o) (hw : ∀ b, W b → h.get? b = none) : RVs K h' (fun b => B b ∨ W b) xs ys :=
  r.keep (fun b o e _ => hk b o e) (wideB hw)
theorem RVd.wide {xs : List (Str × FV)} {ys : List (Str × Value)} (r : RVd K h B xs ys) (hk : ∀ b o, h.get? b = some o → h'.get? b = some o) (hw : ∀ b, W b → h.get? b = none) : RVd K h' (fun b => B b ∨ W b) xs ys :=
  r.keep (fun b o e _ => hk b o e) (wideB hw)
theorem fresh_size (h : Heap) : h.get? h.objs.size = none := by
  cases e : h.get? h.objs.size with
  | none => rfl
  | some o => exact absurd (Heap.lt_size e) (Nat.lt_irrefl _)
end

def ItR (K : Cfg) (A : Around) (fr : List Addr) (B : Addr → Prop) (tgt : Expr) (m : Nat) (h₀ : Heap) (h : Heap) (xs : List FV) (it : Value) : Prop :=
  ∃ (I : Addr) (W : Addr → Prop) (St : (Addr → Prop) → List FV → Heap → Prop), it = .ref I ∧ Go K A fr tgt m it W St ∧ St (fun b => B b ∨ W b) xs h ∧ ∀ b, W b → h₀.get? b = none ∧ ∃ o, h.get? b = some o
def Itb (K : Cfg) (A : Around) (fr : List Addr) (B : Addr → Prop) (tgt : Expr) (m : Nat) (h₀ : Heap) (h : Heap) (xs : List FV) (x : Value) : Prop :=
  ∀ (s : Shared), s.heap = h → EndsG K A fr (ItR K A fr B tgt m h₀) (.ok xs) s (pyIter x)

section
variable {K : Cfg} {A : Around} {fr : List Addr} {B : Addr → Prop} {tgt : Expr} {m : Nat} {h₀ h : Heap}
theorem itb_list (hh : A.handled = none) (kp : Kp fr N0 h₀ h) {l : Addr} {ys : List Value} {xs : List FV} (nb : ¬ B l) (hl : h.IsList l (List.toArray ys)) (rs : RVs K h B xs ys) : Itb K A fr B tgt m h₀ h xs (.ref l) := by
  rintro s rfl
  refine .mk fun Q E k => wpAny_pyIter_list hl (k _ _ s.toks (Kp.push _ _ _ _) ?_)
  have hlt : l ≠ s.heap.objs.size := by obtain ⟨o, ho, _⟩ := hl; exact Nat.ne_of_lt (Heap.lt_size ho)
  have hw : ∀ b, b ∈ [s.heap.objs.size] → s.heap.get? b = none := fun b hb => by rw [List.mem_singleton.mp hb]; exact fresh_size _
  refine ⟨_, _, _, rfl, go_list hh s.heap.objs.size l hlt ys, ⟨0, ⟨⟨_, Heap.get?_push_size _ rfl, rfl, rfl⟩, ?_⟩, Nat.zero_le _, ⟨?_, ?_⟩, ?_⟩, fun b hb => ?_⟩
  · obtain ⟨o, ho, r⟩ := hl
    exact ⟨o, Heap.get?_push_of_some _ ho, r⟩
  · rintro (q | q)
    · exact nb q
    · exact hlt (List.mem_singleton.mp q)
  · obtain ⟨o, ho, r⟩ := hl
    exact ⟨o, Heap.get?_push_of_some _ ho⟩
  · exact rs.wide (fun b o e => Heap.get?_push_of_some _ e) hw
  · exact ⟨gone kp (hw b hb), by rw [List.mem_singleton.mp hb]; exact ⟨_, Heap.get?_push_size _ rfl⟩⟩
theorem itb_tup (hh : A.handled = none) (kp : Kp fr N0 h₀ h) {l : Addr} {ys : List Value} {xs : List FV} (nb : ¬ B l) (hl : IsTup h l (List.toArray ys)) (rs : RVs K h B xs ys) : Itb K A fr B tgt m h₀ h xs (.ref l) := by
  rintro s rfl
  refine .mk fun Q E k => iter_tuple hl (k _ _ s.toks (Kp.push _ _ _ _) ?_)
  have hlt : l ≠ s.heap.objs.size := by obtain ⟨o, ho, _⟩ := hl; exact Nat.ne_of_lt (Heap.lt_size ho)
  have hw : ∀ b, b ∈ [s.heap.objs.size] → s.heap.get? b = none := fun b hb => by rw [List.mem_singleton.mp hb]; exact fresh_size _
  refine ⟨_, _, _, rfl, go_tup hh s.heap.objs.size l hlt ys, ⟨0, ⟨⟨_, Heap.get?_push_size _ rfl, rfl, rfl⟩, ?_⟩, Nat.zero_le _, ⟨?_, ?_⟩, ?_⟩, fun b hb => ?_⟩
  · obtain ⟨o, ho, r⟩ := hl
    exact ⟨o, Heap.get?_push_of_some _ ho, r⟩
  · rintro (q | q)
    · exact nb q
    · exact hlt (List.mem_singleton.mp q)
  · obtain ⟨o, ho, r⟩ := hl
    exact ⟨o, Heap.get?_push_of_some _ ho⟩
  · exact rs.wide (fun b o e => Heap.get?_push_of_some _ e) hw
  · exact ⟨gone kp (hw b hb), by rw [List.mem_singleton.mp hb]; exact ⟨_, Heap.get?_push_size _ rfl⟩⟩
theorem small62 {i : Int} (h : smallInt i = true) : -(2 ^ 62) ≤ i ∧ i < 2 ^ 62 := by
  unfold smallInt at h
  simpa using h
theorem rsize_nat (a b : Int) : Builtin.Range.rangeSize a b 1 = ((b - a).toNat : Int) := by
  rw [rangeSize_one]
  split <;> omega
theorem itb_range (hh : A.handled = none) (kp : Kp fr N0 h₀ h) {r : Addr} {a b : Int} {t u v : Tok} (hr : IsRange h r a b 1 t u v) (ha : smallInt a = true) (hb : smallInt b = true) :
    Itb K A fr B tgt m h₀ h ((List.range (b - a).toNat).map fun (j : Nat) => FV.int (a + (j : Int))) (.ref r) := by
  rintro s rfl
  obtain ⟨a1, a2⟩ := small62 ha
  obtain ⟨b1, b2⟩ := small62 hb
  refine .mk fun Q E k => wpAny_pyIter_range hr (small_one a1 a2 b1 b2) (k _ _ s.toks (Kp.push _ _ _ _) ?_)
  have hw : ∀ b, b ∈ [s.heap.objs.size] → s.heap.get? b = none := fun b hb => by rw [List.mem_singleton.mp hb]; exact fresh_size _
  refine ⟨_, _, _, rfl, go_range hh s.heap.objs.size a (b - a).toNat, ⟨0, ?_, Nat.zero_le _, rfl⟩, fun b hb => ?_⟩
  · have e : ((b - a).toNat : Int) - ((0 : Nat) : Int) = Builtin.Range.rangeSize a b 1 := by rw [rsize_nat]; omega
    have e2 : a + ((0 : Nat) : Int) * 1 = a := by omega
    rw [e, e2]
    exact Heap.get?_push_size _ rfl
  · exact ⟨gone kp (hw b hb), by rw [List.mem_singleton.mp hb]; exact ⟨_, Heap.get?_push_size _ rfl⟩⟩
theorem itb_items (hh : A.handled = none) (kp : Kp fr N0 h₀ h) {v d : Addr} {kvs : List (Str × Value)} {l : List (Str × FV)} {elts : List Expr} {kk : Nat} {pos : Pos} (hm : m = 2) (nb : ¬ B d) (hv : h.IsItemsView v d) (hd : h.DictOf (strKind K.prog K.w) d kvs)
    (hl : ∀ p ∈ l, p.1.length ≤ 1000) (rd : RVd K h B l kvs) : Itb K A fr B (.Tuple elts kk pos) m h₀ h (l.map fun p => .tup [.str p.1, p.2]) (.ref v) := by
  rintro s rfl
  obtain ⟨ep, hat⟩ := hd.dictAt
  refine .mk fun Q E k => wpAny_pyIter_items hv hat (k _ _ s.toks (Kp.push _ _ _ _) ?_)
  have hlt : d ≠ s.heap.objs.size := Nat.ne_of_lt hat.lt_size
  have hw : ∀ b, b ∈ [s.heap.objs.size] → s.heap.get? b = none := fun b hb => by rw [List.mem_singleton.mp hb]; exact fresh_size _
  refine ⟨_, _, _, rfl, go_items hh s.heap.objs.size d hlt kvs ep hm, ⟨0, ⟨⟨_, _, Heap.get?_push_size _ rfl⟩, ?_⟩, Nat.zero_le _, ⟨?_, ?_⟩, l, rfl, hl, ?_⟩, fun b hb => ?_⟩
  · exact hat.at' fun o e => Heap.get?_push_of_some _ e
  · rintro (q | q)
    · exact nb q
    · exact hlt (List.mem_singleton.mp q)
  · obtain ⟨o, es, ep, ho, r⟩ := hd
    exact ⟨o, Heap.get?_push_of_some _ ho⟩
  · exact rd.wide (fun b o e => Heap.get?_push_of_some _ e) hw
  · exact ⟨gone kp (hw b hb), by rw [List.mem_singleton.mp hb]; exact ⟨_, Heap.get?_push_size _ rfl⟩⟩
theorem zip_ok {l : List FV} : (l.zipIdx.map fun p => FV.tup [.int p.2, p.1]) = (l.zipIdx 0).map fun p => FV.tup [.int p.2, p.1] := rfl
theorem itb_enum (hh : A.handled = none) {e it l : Addr} {ys : List Value} {us : List FV} {St0 : Nat → Heap → Prop} {elts : List Expr} {kk : Nat} {pos : Pos} (hm : m = 2)
    (D : Draws K.prog K.w A.in1 it [it, l] ys.toArray.size (fun i v => ys.toArray[i]? = some v) St0) (hei : e ≠ it) (hel : e ≠ l) (hil : it ≠ l) (he : IsEnum h e it 0 .none) (st : St0 0 h) (nb : ¬ B l) (hl : ∃ o, h.get? l = some o)
    (hne : h₀.get? e = none) (hni : h₀.get? it = none) (rs : RVs K h (fun b => B b ∨ b ∈ [e, it]) us ys) : Itb K A fr B (.Tuple elts kk pos) m h₀ h (us.zipIdx.map fun p => .tup [.int p.2, p.1]) (.ref e) := by
  rintro s rfl
  refine .mk fun Q E k => wpAny_pyIter_enum he (k _ _ s.toks (Kp.refl _ _ _) ?_)
  refine ⟨_, _, _, rfl, go_enumD D hei hel hm, ⟨0, ⟨⟨.none, he⟩, st⟩, Nat.zero_le _, ⟨?_, hl⟩, us, rfl, rs⟩, fun b hb => ?_⟩
  · rintro (q | q)
    · exact nb q
    · simp only [List.mem_cons, List.not_mem_nil, or_false] at q
      rcases q with rfl | rfl
      · exact hel rfl
      · exact hil rfl
  · simp only [List.mem_cons, List.not_mem_nil, or_false] at hb
    rcases hb with rfl | rfl
    · exact ⟨hne, _, he⟩
    · exact ⟨hni, D.live _ _ st⟩
end

section
variable {K : Cfg} {A : Around} {fe ev : Env} {outer : List Env} {B : Addr → Prop} {s : Shared} {nm : Nms} {sc : Scope} {C : CallT} {n : Nat} {tgt iter : Expr} {names : List Str} {m : Nat} {sr : Src} {xs : List Expr} {as : List CE} {ow : Nat → Option Addr} {ρ : Env'} {γ : List FV} {mm cm : Str → Option Value}

theorem srcItems1 {sr : Src} {v : FV} {l : List FV} : srcItems sr (v :: l) = .no ∨ True := .inr trivial
theorem evEsOne {a : CE} : evEs C ρ γ [a] = (evE C ρ γ a).bind fun v => .ok [v] := by simp only [evEs]; cases evE C ρ γ a <;> rfl

theorem src_ends (O : Ok K) (htg : sr = .items ∨ sr = .enum → m = 2 ∧ ∃ elts kk pos, tgt = .Tuple elts kk pos) (hs : SrcOf sc iter sr xs) (hsc : ev.scope = sc) (rm : Room A n) (ih : ∀ x a, xs = [x] → as = [a] → SE K C n nm sc x a) (ihl : SL K C n nm sc xs as)
    (hpl : ∀ x ∈ xs, plainE x = true) (hlen : xs.length = as.length) (S : St K A fe outer B nm ev ow ρ γ mm cm s.heap) :
    EndsG K A (frsOf fe outer) (Itb K A (frsOf fe outer) B tgt m s.heap) ((evEs C ρ γ as).bind (srcItems sr)) s (eval iter ev) := by
  have callR : ∀ {x : Expr} {r : List Expr} {nn : Str} {v : Value} {p p' : Pos} (hb : btab nn = some v) (hd : (nn == ("__debug__" : Str)) = false) (hk : sc.names.lookup nn = some .globalImplicit) (hkp : Keepable K v) (hx : xs = x :: r)
      (hc : ∀ vs ys h' tk, srcItems sr vs ≠ .no → Kp (frsOf fe outer) N0 s.heap h' → RVs K h' B vs ys → EndsG K A (frsOf fe outer) (Itb K A (frsOf fe outer) B tgt m s.heap) (srcItems sr vs) { s with heap := h', toks := tk } (call v ys)),
      EndsG K A (frsOf fe outer) (Itb K A (frsOf fe outer) B tgt m s.heap) ((evEs C ρ γ as).bind (srcItems sr)) s (eval (.Call (.Name nn p') (x :: r) [] p) ev) := by
    intro x r nn v p p' hb hd hk hkp hx hc
    subst hx
    refine EndsG.res (r' := (Res.ok ()).bind fun _ => (evEs C ρ γ as).bind (srcItems sr)) ?_ rfl
    refine EndsG.of_eq (t' := (eval (.Name nn p') ev >>= fun g => callWith p g [] (backTo p (starEach (x :: r) ev)) (backToKw p (keywordEach [] ev)))) ?_ rfl
    refine EndsG.bind (builtin_ends (RR := fun _ _ z => z = v) O S.I S.W hb (by unfold Env.kindOf; rw [hsc]; exact hk) hd rfl) fun _ z h' tk _ kp rz => ?_
    subst rz
    have hL := ihl A fe outer B ev ow ρ γ mm cm { s with heap := h', toks := tk } p hsc rm (S.step0 kp)
    have hany : (backTo p (starEach r ev)).any (·.1) = false := by
      have := hL.2
      rw [star_plain (hpl x (by simp))] at this
      simpa [backTo] using this
    exact callW (s := { s with heap := h', toks := tk }) (S.I.step0 kp) (hpl x (by simp)) hany (fun _ => hkp) hL.1 fun vs ys h'' tk' _ hn kp' rs => hc vs ys h'' tk' hn (kp.trans0 kp') rs
  cases hs with
  | lst hx _ =>
    obtain ⟨a, rfl⟩ : ∃ a, as = [a] := by match as, hlen with | [a], _ => exact ⟨a, rfl⟩
    rw [evEsOne]
    refine EndsG.res (r' := (evE C ρ γ a).bind fun v => srcItems .lst [v]) ?_ (by cases evE C ρ γ a <;> rfl)
    refine EndsG.of_eq (t' := (eval iter ev >>= pure)) ?_ (bind_pure _).symm
    refine EndsG.bind (ih _ _ rfl rfl A fe outer B ev ow ρ γ mm cm s hsc rm S).1 fun v x h' tk _ kp rv => ?_
    cases v <;> first | exact EndsG.no | skip
    · obtain ⟨_, l, ys, rfl, nb, hl, rs⟩ := rv
      exact EndsG.pure (s := { s with heap := h', toks := tk }) (itb_tup S.I.hd kp nb hl rs)
    · obtain ⟨_, l, ys, rfl, nb, hl, rs⟩ := rv
      exact EndsG.pure (s := { s with heap := h', toks := tk }) (itb_list S.I.hd kp nb hl rs)
  | rng1 hk =>
    refine callR (show btab "range" = some (.type "range") by decide) (by decide) hk keep_type rfl fun vs ys h' tk hn kp rs => ?_
    match vs, rs, hn with
    | [], _, hn => exact absurd rfl hn
    | v :: w :: l, _, hn => exact absurd (by cases v <;> rfl) hn
    | [v], ⟨y, q, e1, ry, e2⟩, hn =>
      subst e2; subst e1
      cases v <;> first | exact absurd rfl hn | skip
      obtain ⟨t, rfl⟩ := ry
      rename_i i
      by_cases hi : smallInt i = true
      · show EndsG K A _ _ (if smallInt i then .ok _ else .no) _ _
        rw [if_pos hi]
        refine .mk fun Q E k => call_range_1 (k _ _ _ (Kp.push _ _ _ _) ?_)
        have := itb_range (K := K) (A := A) (fr := frsOf fe outer) (B := B) (tgt := tgt) (m := m) S.I.hd (kp.trans0 (Kp.push _ _ _ _)) (IsRange.new h' 0 i 1 tk t (tk + 1)) (by decide) hi
        simpa using this
      · exfalso; apply hn
        show (if smallInt i then Res.ok _ else .no) = _
        rw [if_neg hi]
  | rng2 hk =>
    refine callR (show btab "range" = some (.type "range") by decide) (by decide) hk keep_type rfl fun vs ys h' tk hn kp rs => ?_
    match vs, rs, hn with
    | [], _, hn => exact absurd rfl hn
    | [v], _, hn => exact absurd (by cases v <;> rfl) hn
    | v :: w :: z :: l, _, hn => exact absurd (by cases v <;> first | rfl | (cases w <;> rfl)) hn
    | [v, w], ⟨y, q, e1, ry, z, q', e2, rz, e3⟩, hn =>
      subst e3; subst e2; subst e1
      cases v <;> first | exact absurd rfl hn | skip
      cases w <;> first | exact absurd rfl hn | skip
      obtain ⟨t, rfl⟩ := ry
      obtain ⟨u, rfl⟩ := rz
      rename_i i j
      by_cases hi : (smallInt i && smallInt j) = true
      · show EndsG K A _ _ (if smallInt i && smallInt j then .ok _ else .no) _ _
        rw [if_pos hi]
        rw [Bool.and_eq_true] at hi
        refine .mk fun Q E k => call_range_2 (k _ _ _ (Kp.push _ _ _ _) ?_)
        exact itb_range (K := K) (A := A) (fr := frsOf fe outer) (B := B) (tgt := tgt) (m := m) S.I.hd (kp.trans0 (Kp.push _ _ _ _)) (IsRange.new h' i j 1 t u tk) hi.1 hi.2
      · exfalso; apply hn
        show (if smallInt i && smallInt j then Res.ok _ else .no) = _
        rw [if_neg hi]
  | items hb hl =>
    obtain ⟨a, rfl⟩ : ∃ a, as = [a] := by match as, hlen with | [a], _ => exact ⟨a, rfl⟩
    obtain ⟨hm, elts, kk, pos, rfl⟩ := htg (.inl rfl)
    rw [evEsOne]
    refine EndsG.res (r' := (evE C ρ γ a).bind fun v => srcItems .items [v]) ?_ (by cases evE C ρ γ a <;> rfl)
    refine methW (.builtin "dict.items") hb hl rfl (ih _ _ rfl rfl A fe outer B ev ow ρ γ mm cm s hsc rm S).1 (fun v x h' tk pl Q E _ hv rv hq => ?_) fun v x h' tk hvv kp rv => ?_
    · cases v <;> first | exact absurd rfl hv | skip
      obtain ⟨_, d, kvs, rfl, _, ns, hd, _⟩ := rv
      exact getMethod_builtin hd.typeIs PySem.F.plainAttrs_dict PySem.F.slot_dict_items PySem.F.type_dict_items hd.mapOf.noDict hq
    · clear hvv
      cases v <;> first | exact EndsG.no | skip
      rename_i l
      obtain ⟨_, d, kvs, rfl, nb, ns, hd, rd⟩ := rv
      by_cases hi : l.all (fun p => decide (p.1.length ≤ 1000)) = true
      · show EndsG K A _ _ (if l.all (fun p => decide (p.1.length ≤ 1000)) then .ok _ else .no) _ _
        rw [if_pos hi]
        refine .mk fun Q E k => callWith_method0 ?_
        refine call_meetsIn PySem.F.slot_dict_items hd.typeIs PySem.F.entry_dict_items (PySem.F.args_dict_items_1 _) (meets_dict_items (strKind K.prog K.w) d ns) ⟨⟨kvs, hd⟩, k _ _ tk (Kp.push _ _ _ _) ?_⟩
        have kpush := Kp.push (frsOf fe outer) N0 h' { cls := .type "dict_items", data := .fields #[.ref d] }
        refine itb_items S.I.hd (kp.trans0 kpush) hm nb ⟨_, Heap.get?_push_size _ rfl, rfl, rfl⟩ (kvs := kvs) ?_ (fun p hp => by simpa using List.all_eq_true.mp hi p hp) ?_
        · obtain ⟨o, es, ep, ho, r⟩ := hd
          exact ⟨o, es, ep, Heap.get?_push_of_some _ ho, r⟩
        · exact rd.stepX (S.I.step0 kp) kpush (fun _ _ _ q => q.elim)
      · show EndsG K A _ _ (if l.all (fun p => decide (p.1.length ≤ 1000)) then .ok _ else .no) _ _
        rw [if_neg hi]; exact EndsG.no
  | enum hk =>
    obtain ⟨hm, elts, kk, pos, rfl⟩ := htg (.inr rfl)
    refine callR (show btab "enumerate" = some (.type "enumerate") by decide) (by decide) hk keep_type rfl fun vs ys h' tk hn kp rs => ?_
    match vs, rs, hn with
    | [], _, hn => exact absurd rfl hn
    | v :: w :: l, _, hn => exact absurd (by cases v <;> rfl) hn
    | [v], ⟨y, q, e1, ry, e2⟩, hn =>
      subst e2; subst e1
      have hw : ∀ b, b ∈ [h'.objs.size + 1, h'.objs.size] → h'.get? b = none := fun b hb => by
        have hge : h'.objs.size ≤ b := by simp only [List.mem_cons, List.not_mem_nil, or_false] at hb; rcases hb with rfl | rfl <;> omega
        cases e : h'.get? b with
        | none => rfl
        | some o => exact absurd (Heap.lt_size e) (Nat.not_lt.mpr hge)
      cases v <;> first | exact absurd rfl hn | skip
      · obtain ⟨_, l, us, rfl, nb, hl, rl⟩ := ry
        have hlt : l < h'.objs.size := by obtain ⟨o, ho, _⟩ := hl; exact Heap.lt_size ho
        refine .mk fun Q E k => call_enumerate_tup hl fun h'' he hit hz hk => k _ h'' tk (Kp.of_keep hk) ?_
        dsimp only at he hit hz
        refine itb_enum (e := h'.objs.size + 1) (it := h'.objs.size) (l := l) (ys := us) S.I.hd hm (draws_tuple (A := A.in1) (show A.in1.handled = none from S.I.hd) h'.objs.size l (Nat.ne_of_lt hlt) us.toArray) (Nat.succ_ne_self _) (Nat.ne_of_gt (Nat.lt_succ_of_lt hlt)) (Nat.ne_of_gt hlt) he ⟨hit, let ⟨o, ho, r⟩ := hl; ⟨o, hk _ _ ho, r⟩⟩ nb (let ⟨o, ho, r⟩ := hl; ⟨o, hk _ _ ho⟩) (gone kp (hw _ (by simp))) (gone kp (hw _ (by simp))) (rl.wide hk hw)
      · obtain ⟨_, l, us, rfl, nb, hl, rl⟩ := ry
        have hlt : l < h'.objs.size := by obtain ⟨o, ho, _⟩ := hl; exact Heap.lt_size ho
        refine .mk fun Q E k => call_enumerate_list hl fun h'' he hit hz hk => k _ h'' tk (Kp.of_keep hk) ?_
        dsimp only at he hit hz
        refine itb_enum (e := h'.objs.size + 1) (it := h'.objs.size) (l := l) (ys := us) S.I.hd hm (Draws.list (A := A.in1) (show A.in1.handled = none from S.I.hd) h'.objs.size l (Nat.ne_of_lt hlt) us.toArray) (Nat.succ_ne_self _) (Nat.ne_of_gt (Nat.lt_succ_of_lt hlt)) (Nat.ne_of_gt hlt) he ⟨hit, let ⟨o, ho, r⟩ := hl; ⟨o, hk _ _ ho, r⟩⟩ nb (let ⟨o, ho, r⟩ := hl; ⟨o, hk _ _ ho⟩) (gone kp (hw _ (by simp))) (gone kp (hw _ (by simp))) (rl.wide hk hw)
end
end Mine
end

section
open PySem PySem.W PySem.Calls PyProof.Rows
namespace Mine

/-! ## the block's own scope -/
def clStep (cells : List (Str × Addr)) (x : Str × NameKind) : Option (Str × Addr) := if x.2 == .free then some (x.1, (cells.lookup x.1).getD 0) else none
def clOf (names : List (Str × NameKind)) (cells : List (Str × Addr)) : List (Str × Addr) := (names.filterMap (clStep cells)).reverse
theorem closure_go {ev : Env} : ∀ (names : List (Str × NameKind)) (cs : List (Str × Addr)), (∀ x ∈ names, x.2 = .free → (ev.cells.lookup x.1).isSome = true) →
    (forIn names cs fun x r => (do
      if (x.2 == NameKind.free) = true then do
        let c ← cellOf ev x.1
        pure (ForInStep.yield ((x.1, c) :: r))
      else pure (ForInStep.yield r) : Sem (ForInStep (List (Str × Addr))))) = (pure ((names.filterMap (clStep ev.cells)).reverse ++ cs) : Sem (List (Str × Addr)))
  | [], cs, _ => rfl
  | (n, k) :: r, cs, h => by
    rw [List.forIn_cons]
    by_cases hk : k = .free
    · subst hk
      obtain ⟨c, hc⟩ := Option.isSome_iff_exists.mp (h (n, .free) (by simp) rfl)
      have e1 : clStep ev.cells (n, .free) = some (n, c) := by unfold clStep; simp [hc]
      have e2 : cellOf ev n = pure c := by unfold cellOf; rw [hc]
      simp only [beq_self_eq_true, if_true, e2, pure_bind, List.filterMap_cons, e1, List.reverse_cons, List.append_assoc, List.singleton_append]
      exact closure_go r ((n, c) :: cs) fun x hx => h x (List.mem_cons_of_mem _ hx)
    · have hb : (k == NameKind.free) = false := by simpa using hk
      have e1 : clStep ev.cells (n, k) = none := by unfold clStep; simp [hb]
      simp only [hb, Bool.false_eq_true, if_false, pure_bind, List.filterMap_cons, e1]
      exact closure_go r cs fun x hx => h x (List.mem_cons_of_mem _ hx)
theorem closure_ok {ev : Env} {scope : Scope} (h : ∀ x ∈ scope.names, x.2 = .free → (ev.cells.lookup x.1).isSome = true) : closureFor scope ev = pure (clOf scope.names ev.cells) := by
  have := closure_go (ev := ev) scope.names [] h
  unfold closureFor clOf
  rw [List.append_nil] at this
  rw [← this]
  simp only [bind_pure]

theorem mem_clOf {names : List (Str × NameKind)} {cells : List (Str × Addr)} {n : Str} {c : Addr} (h : (n, c) ∈ clOf names cells) : (n, NameKind.free) ∈ names ∧ c = (cells.lookup n).getD 0 := by
  unfold clOf at h
  rw [List.mem_reverse, List.mem_filterMap] at h
  obtain ⟨⟨n', k⟩, hx, e⟩ := h
  unfold clStep at e
  split at e
  · rename_i hk
    cases e
    exact ⟨by rw [show NameKind.free = k from (by simpa using hk : k = .free).symm]; exact hx, rfl⟩
  · cases e
theorem lookup_mem {β : Type} : ∀ {l : List (Str × β)} {n : Str} {b : β}, (n, b) ∈ l → (l.lookup n).isSome = true
  | (m, c) :: l, n, b, h => by
    rw [List.lookup_cons]
    split
    · rfl
    · rename_i hne
      rcases List.mem_cons.mp h with e | h
      · cases e; simp at hne
      · exact lookup_mem h
theorem clOf_has {names : List (Str × NameKind)} {cells : List (Str × Addr)} {n : Str} (h : (n, NameKind.free) ∈ names) : ((clOf names cells).lookup n).isSome = true := by
  refine lookup_mem (b := (cells.lookup n).getD 0) ?_
  unfold clOf
  rw [List.mem_reverse, List.mem_filterMap]
  exact ⟨(n, .free), h, rfl⟩
theorem lookup_nodup {β : Type} : ∀ {l : List (Str × β)} {n : Str} {b : β}, (l.map (·.1)).Nodup → (n, b) ∈ l → l.lookup n = some b
  | (m, c) :: l, n, b, hd, h => by
    rw [List.map_cons, List.nodup_cons] at hd
    rw [List.lookup_cons]
    rcases List.mem_cons.mp h with e | h'
    · cases e; simp
    · have : (n == m) = false := by
        rw [beq_eq_false_iff_ne]
        rintro rfl
        exact hd.1 (List.mem_map.mpr ⟨_, h', rfl⟩)
      rw [this]
      exact lookup_nodup hd.2 h'
theorem lookup_relabel {sc : Scope} : ∀ (names : List (Str × NameKind)) (n : Str),
    (names.map fun (n, k) => if (k == NameKind.free && sc.kind == .function && sc.names.lookup n == some .cell) then (n, NameKind.cell) else (n, k)).lookup n =
      (names.lookup n).map fun k => if (k == NameKind.free && sc.kind == .function && sc.names.lookup n == some .cell) then .cell else k
  | [], n => rfl
  | (m, k) :: r, n => by
    rw [List.map_cons]
    have ih := lookup_relabel (sc := sc) r n
    by_cases hn : (n == m) = true
    · have e := eq_of_beq hn; subst e
      simp only [List.lookup_cons, beq_self_eq_true]
      split <;> simp_all
    · have hn' : (n == m) = false := by simpa using hn
      show List.lookup n ((if (k == NameKind.free && sc.kind == .function && sc.names.lookup m == some .cell) = true then (m, NameKind.cell) else (m, k)) :: _) = _
      split
      · rw [List.lookup_cons, List.lookup_cons, hn']; exact ih
      · rw [List.lookup_cons, List.lookup_cons, hn']; exact ih

structure ScOk (scope sc : Scope) (names : List Str) : Prop where
  kind : scope.kind = .function
  nodup : (scope.names.map (·.1)).Nodup
  loc : ∀ n ∈ names, scope.names.lookup n = some .local
  free : ∀ n, (n, NameKind.free) ∈ scope.names → sc.names.lookup n = some .cell
  nocell : ∀ x ∈ scope.names, x.2 ≠ .cell
  locs : ∀ x ∈ scope.names, x.2 = .local → scope.names.lookup x.1 = some .local
theorem ScOk.of {scope sc : Scope} {names : List Str} (h : scopeOk scope sc names = true) : ScOk scope sc names := by
  unfold scopeOk at h
  simp only [Bool.and_eq_true, List.all_eq_true, decide_eq_true_eq] at h
  obtain ⟨⟨⟨⟨⟨h1, h2⟩, h3⟩, h4⟩, h5⟩, h6⟩ := h
  refine ⟨by simpa using h1, h2, fun n hn => by simpa using h4 n hn, fun n hn => ?_, fun x hx => by simpa using h6 x hx, fun x hx e => lookup_nodup h2 (by rw [← e]; exact hx)⟩
  have := h5 _ hn
  simpa using this

section
variable {K : Cfg} {A : Around} {fe ev : Env} {outer : List Env} {B N : Addr → Prop} {h₀ h : Heap} {nm : Nms} {ow : Nat → Option Addr} {ρ : Env'} {γ : List FV} {m cm : Str → Option Value} {scope sc : Scope} {names : List Str}

theorem Inv.wide (I : Inv K A fe outer B h₀) (kp : Kp (frsOf fe outer) N0 h₀ h) (hN : ∀ b, N b → h₀.get? b = none ∧ ∃ o, h.get? b = some o) : Inv K A fe outer (fun b => B b ∨ N b) h := by
  have I' := I.step0 kp
  refine ⟨I'.stay, I'.frs, I'.ff, fun b hb => .inl (I'.bfr b hb), fun b hb => ?_, I'.hd⟩
  rcases hb with hb | hb
  · exact I'.bb b hb
  · refine ⟨?_, (hN b hb).2⟩
    cases e : K.base.get? b with
    | none => rfl
    | some o => have := I.stay b o e; rw [(hN b hb).1] at this; cases this
theorem RV.wideN (I : Inv K A fe outer B h₀) (kp : Kp (frsOf fe outer) N0 h₀ h) (hN : ∀ b, N b → h₀.get? b = none ∧ ∃ o, h.get? b = some o) {f : FV} {x : Value} (r : RV K h₀ B f x) : RV K h (fun b => B b ∨ N b) f x :=
  r.keep (fun b o e nb => kp.keep b o e (fun q => q) fun q => nb (I.bfr b q)) (wideB fun b hb => (hN b hb).1)
theorem RVs.wideN (I : Inv K A fe outer B h₀) (kp : Kp (frsOf fe outer) N0 h₀ h) (hN : ∀ b, N b → h₀.get? b = none ∧ ∃ o, h.get? b = some o) {f : List FV} {x : List Value} (r : RVs K h₀ B f x) : RVs K h (fun b => B b ∨ N b) f x :=
  r.keep (fun b o e nb => kp.keep b o e (fun q => q) fun q => nb (I.bfr b q)) (wideB fun b hb => (hN b hb).1)
theorem RVd.wideN (I : Inv K A fe outer B h₀) (kp : Kp (frsOf fe outer) N0 h₀ h) (hN : ∀ b, N b → h₀.get? b = none ∧ ∃ o, h.get? b = some o) {f : List (Str × FV)} {x : List (Str × Value)} (r : RVd K h₀ B f x) : RVd K h (fun b => B b ∨ N b) f x :=
  r.keep (fun b o e nb => kp.keep b o e (fun q => q) fun q => nb (I.bfr b q)) (wideB fun b hb => (hN b hb).1)
theorem Own.wideN (I : Inv K A fe outer B h₀) (kp : Kp (frsOf fe outer) N0 h₀ h) (hN : ∀ b, N b → h₀.get? b = none ∧ ∃ o, h.get? b = some o) {a : Addr} {lv : LV} (na : a ∉ frsOf fe outer) (o : Own K h₀ B a lv) : Own K h (fun b => B b ∨ N b) a lv := by
  cases lv with
  | fv _ => exact o
  | ml l =>
    obtain ⟨sz, ys, hl, r⟩ := o
    exact ⟨sz, ys, hl.at fun o ho => kp.keep _ _ ho (fun q => q) na, r.wideN I kp hN⟩
  | md l =>
    obtain ⟨sz, kvs, ns, ⟨ob, es, ep, ho, q⟩, r⟩ := o
    exact ⟨sz, kvs, ns, ⟨ob, es, ep, kp.keep _ _ ho (fun q => q) na, q⟩, r.wideN I kp hN⟩

open Classical in
/-- the block's state: what stood before, and the block's own names -/
theorem St.block (S : St K A fe outer B nm ev ow ρ γ m cm h₀) (hnm : nm.cs = []) (hsc : ev.scope = sc) (hk : ScOk scope sc names) (hcv : cvOk nm.vs names scope = true) (hne : names ≠ []) (kp : Kp (frsOf fe outer) N0 h₀ h)
    (hN : ∀ b, N b → h₀.get? b = none ∧ ∃ o, h.get? b = some o) {C : Addr} (hC : N C) {m' : Str → Option Value} (hns : h.Ns C m') {γ' : List FV}
    (hcs : ∀ (i : Nat) (n : Str) (f : FV), γ'[i]? = some f → names[i]? = some n → ∃ y, m' n = some y ∧ RV K h (fun b => B b ∨ N b) f y) :
    St K A fe outer (fun b => B b ∨ N b) ⟨nm.vs, names⟩ (compEnvC scope (clOf scope.names ev.cells) C ev) (fun i => if ow i = some C then none else ow i) ρ γ' m' cm h := by
  have hfc : ∀ n c, (clOf scope.names ev.cells).lookup n = some c → ev.cells.lookup n = some c := fun n c hc => by
    obtain ⟨h1, h2⟩ := mem_clOf (mem_of_lookup_some hc)
    obtain ⟨c', hc'⟩ := Option.isSome_iff_exists.mp (S.W.hc n (by unfold Env.kindOf; rw [hsc]; exact hk.free n h1))
    rw [hc'] at h2
    rw [hc', h2]; rfl
  have hkind : ∀ n, (compEnvC scope (clOf scope.names ev.cells) C ev).kindOf n = (scope.names.lookup n).map fun k => if (k == NameKind.free && ev.scope.kind == .function && ev.scope.names.lookup n == some .cell) then .cell else k := fun n => lookup_relabel (sc := ev.scope) _ n
  have hcell : ∀ n, (compEnvC scope (clOf scope.names ev.cells) C ev).kindOf n = some .cell → (n, NameKind.free) ∈ scope.names := fun n e => by
    rw [hkind] at e
    cases hl : scope.names.lookup n with
    | none => rw [hl] at e; cases e
    | some k =>
      rw [hl] at e
      simp only [Option.map_some, Option.some.injEq] at e
      split at e
      · rename_i hb
        simp only [Bool.and_eq_true, beq_iff_eq] at hb
        rw [← hb.1.1]; exact mem_of_lookup_some hl
      · subst e
        exact absurd rfl (hk.nocell _ (mem_of_lookup_some hl))
  have IN := S.I.wide kp hN
  refine ⟨IN, ⟨hk.kind, S.W.gl, S.W.bl, S.W.frame, .inr hC, fun n c hc => .inl (S.W.bc n c (hfc n c hc)), fun n hn => clOf_has (hcell n hn), ?_, fun n c hc => ?_⟩, ⟨fun i a hi => ?_, fun i j a hi hj => ?_⟩, ⟨⟨hns, fun n c hc => ?_⟩, fun i n v h1 h2 h3 h4 h5 => ?_, fun i n v h1 h2 => ?_, fun i n lv h1 h2 h3 => ?_⟩⟩
  · show (clOf scope.names ev.cells).Pairwise _
    unfold clOf
    rw [List.pairwise_reverse]
    have hp : (scope.names.filterMap (clStep ev.cells)).Pairwise (fun a b => b.1 ≠ a.1) := by
      refine List.Pairwise.filterMap (clStep ev.cells) (R := fun x y => x.1 ≠ y.1) (S := fun a b => b.1 ≠ a.1) ?_ (List.pairwise_map.mp hk.nodup)
      intro x y hxy a ha b hb
      unfold clStep at ha hb
      split at ha <;> cases ha
      split at hb <;> cases hb
      exact Ne.symm hxy
    refine List.Pairwise.imp_of_mem ?_ hp
    · intro a b ha hb hab e
      have f : ∀ p : Str × Addr, p ∈ scope.names.filterMap (clStep ev.cells) → ev.cells.lookup p.1 = some p.2 := fun p hp => by
        obtain ⟨h1, h2⟩ := mem_clOf (n := p.1) (c := p.2) (List.mem_reverse.mpr hp)
        obtain ⟨c', hc'⟩ := Option.isSome_iff_exists.mp (S.W.hc p.1 (by unfold Env.kindOf; rw [hsc]; exact hk.free _ h1))
        rw [hc'] at h2
        rw [hc', h2]; rfl
      have ha' := mem_of_lookup_some (f a ha)
      have hb' := mem_of_lookup_some (f b hb)
      exact hab (name_of_addr S.W.apart.1 hb' (e ▸ ha'))
  · obtain ⟨o, ho, _⟩ := S.R.fr.cell n c (hfc n c hc)
    rintro rfl
    rw [(hN _ hC).1] at ho; cases ho
  · dsimp only at hi
    split at hi
    · cases hi
    · rename_i hne'
      obtain ⟨o1, o2, o3⟩ := S.O.1 i a hi
      refine ⟨o1, ?_, fun n c hc => o3 n c (hfc n c hc)⟩
      rintro rfl
      exact hne' hi
  · dsimp only at hi hj
    split at hi
    · cases hi
    · split at hj
      · cases hj
      · exact S.O.2 i j a hi hj
  · exact cell_slots (S.R.fr.cell n c (hfc n c hc)) fun o e => kp.old e fun q => q
  · have hmem : n ∈ nm.vs := List.mem_of_getElem? h2
    unfold cvOk at hcv
    have hq := List.all_eq_true.mp hcv n hmem
    simp only [Bool.or_eq_true, List.contains_iff_mem] at hq
    rcases hq with hq | hq
    · exact absurd hq h3
    · cases hl : scope.names.lookup n with
      | none => rw [hkind, hl] at h4; exact absurd rfl h4
      | some k =>
        rw [hl] at hq
        cases k <;> first | (cases hq; done) | skip
        · have hm := mem_of_lookup_some hl
          have hc := hk.free n hm
          have hko : (compEnvC scope (clOf scope.names ev.cells) C ev).kindOf n = some .cell := by
            have hk1 : (ev.scope.kind == ScopeKind.function) = true := by rw [S.W.kind]; rfl
            have hk2 : (List.lookup n ev.scope.names == some NameKind.cell) = true := by rw [hsc, hc]; rfl
            rw [hkind, hl]
            simp only [Option.map_some, hk1, hk2]
            rfl
          have hke : ev.kindOf n = some .cell := by unfold Env.kindOf; rw [hsc]; exact hc
          obtain ⟨x, e1, r1⟩ := S.R.fv i n v h1 h2 (by rw [hnm]; simp) (by rw [hke]; simp) (by rw [hke]; simp)
          refine ⟨x, ?_, r1.wideN S.I kp hN⟩
          unfold lookV at e1 ⊢
          rw [hke] at e1
          rw [hko]
          dsimp only at e1 ⊢
          split at e1
          · rw [if_pos (show (List.lookup n (compEnvC scope (clOf scope.names ev.cells) C ev).cells).isSome = true from clOf_has hm)]; exact e1
          · cases e1
        · exfalso
          apply h5
          rw [hkind, hl]
          rfl
  · obtain ⟨y, e1, r1⟩ := hcs i n v h1 h2
    refine ⟨y, ?_, r1⟩
    have hl := hk.loc n (List.mem_of_getElem? h2)
    unfold lookV
    rw [hkind, hl]
    exact e1
  · obtain ⟨a, e1, e2, e3, e4⟩ := S.R.own i n lv h1 h2 h3
    have hac : a ≠ C := by
      rintro rfl
      obtain ⟨o, ho⟩ := (S.I.bb _ e3).2
      rw [(hN _ hC).1] at ho; cases ho
    refine ⟨a, ?_, fun q => absurd q hne, .inl e3, e4.wideN S.I kp hN (S.O.1 i a e1).1⟩
    show (if ow i = some C then none else ow i) = some a
    rw [if_neg (by rw [e1]; exact fun q => hac (Option.some.inj q))]
    exact e1
end
end Mine
end

section
open PySem PySem.W PySem.Calls PyProof.Rows
namespace Mine

section
variable {K : Cfg} {A : Around} {B : Addr → Prop} {s : Shared} {E : Value → Shared → Prop}
/-- a target of one or two names of the block -/
theorem tgt_assign {env : Env} {tgt : Expr} {names : List Str} {m : Nat} {x : FV} {v : Value} {γ : List FV} {m' : Str → Option Value} {Q : Unit → Shared → Prop} (hh : A.handled = none) (ht : TgtOf tgt names m) (hk : env.scope.kind = .function)
    (hl : ∀ n ∈ names, env.kindOf n = some .local) (hn : s.heap.Ns env.locals m') (bl : B env.locals) (hs : spread m x = some γ) (r : SpR K s.heap B m x v)
    (h : ∀ h' tk m'', h'.Ns env.locals m'' → (∀ c o, c ≠ env.locals → s.heap.get? c = some o → h'.get? c = some o) → (∀ (i : Nat) (n : Str) (f : FV), γ[i]? = some f → names[i]? = some n → ∃ y, m'' n = some y ∧ RV K h' B f y) → Q () { s with heap := h', toks := tk }) :
    wpAny (model K.prog K.w) A (assign tgt env v) Q E s := by
  have hp : (env.scope.kind == .class || (env.scope.kind == .module && env.locals != env.globals)) = false := by rw [hk]; rfl
  cases ht with
  | one =>
    rename_i n p
    have e : γ = [x] := by simpa [spread] using hs.symm
    subst e
    have rx : RV K s.heap B x v := by simpa [SpR] using r
    refine wpAny_assign_Name (wpAny_storeName_local (hl n (by simp)) hn (fun h' hn' hs' => h h' _ _ hn' (fun c o hc e => hs'.extBut c o hc e) fun i n' f h1 h2 => ?_) hp)
    cases i with
    | zero =>
      cases h1; cases h2
      exact ⟨v, by simp, rx.keep (fun b o e nb => hs'.extBut b o (fun q => nb (q ▸ bl)) e) fun _ _ _ q => q⟩
    | succ i => simp at h1
  | two hne =>
    rename_i n n' p p' k p''
    obtain ⟨l, a, vs, rfl, rfl, hT, rs⟩ : ∃ l a vs, x = .tup l ∧ v = .ref a ∧ IsTup s.heap a (List.toArray vs) ∧ RVs K s.heap B l vs := by simpa [SpR] using r
    unfold spread at hs
    dsimp only at hs
    rw [if_neg (by decide)] at hs
    split at hs
    · cases hs
      rename_i hlen
      match γ, hlen, rs with
      | [f, g], _, ⟨y, q, e1, r1, z, q', e2, r2, e3⟩ =>
        subst e3; subst e2; subst e1
        refine kcp_assign hh hT (hl n (by simp)) (hl n' (by simp)) hp hn fun h' tk hn' hk' => h h' tk _ hn' hk' fun i nn f' h1 h2 => ?_
        have kp : ∀ b o, s.heap.get? b = some o → ¬ B b → h'.get? b = some o := fun b o e nb => hk' b o (fun q => nb (q ▸ bl)) e
        match i, h1, h2 with
        | 0, h1, h2 => cases h1; cases h2; exact ⟨y, by simp [hne], r1.keep kp fun _ _ _ q => q⟩
        | 1, h1, h2 => cases h1; cases h2; exact ⟨z, by simp, r2.keep kp fun _ _ _ q => q⟩
        | i + 2, h1, _ => simp at h1
    · cases hs
end

section
variable {K : Cfg} {A : Around} {fe ev : Env} {outer : List Env} {B : Addr → Prop} {s : Shared} {nm : Nms} {sc scope : Scope} {C : CallT} {n : Nat} {tgt iter elt : Expr} {names : List Str} {m : Nat} {sr : Src} {xs : List Expr} {as : List CE} {e : CE} {ow : Nat → Option Addr} {ρ : Env'} {γ : List FV} {mm cm : Str → Option Value}

theorem mapRes_cons {α β : Type} {f : α → Res β} {a : α} {r : List α} {ys : List β} (h : mapRes f (a :: r) = .ok ys) : ∃ y ys', f a = .ok y ∧ mapRes f r = .ok ys' ∧ ys = y :: ys' := by
  unfold mapRes at h
  cases hf : f a with
  | ok y =>
    rw [hf] at h
    simp only [Res.bind_ok] at h
    cases hr : mapRes f r with
    | ok ys' => rw [hr] at h; simp only [Res.bind_ok] at h; cases h; exact ⟨y, ys', rfl, rfl, rfl⟩
    | exc e => rw [hr] at h; cases h
    | no => rw [hr] at h; cases h
  | exc e => rw [hf] at h; cases h
  | no => rw [hf] at h; cases h

theorem kp_keep {fr : List Addr} {X : Addr → Prop} {h h' : Heap} (hk : ∀ b o, ¬ X b → h.get? b = some o → h'.get? b = some o) (hl : ∀ b, X b → ∃ o, h'.get? b = some o) : Kp fr X h h' := by
  refine ⟨fun b o e => ?_, fun b o e nx _ => hk b o nx e, fun b o e nx _ => ⟨o.slots, hk b o nx e⟩⟩
  by_cases q : X b
  · exact hl b q
  · exact ⟨o, hk b o q e⟩

theorem Kp.then_but {fr : List Addr} {N : Addr → Prop} {h₀ h h' : Heap} (k : Kp fr N0 h₀ h) (hN : ∀ b, N b → h₀.get? b = none) (hk : ∀ b o, ¬ N b → h.get? b = some o → h'.get? b = some o) : Kp fr N0 h₀ h' := by
  have nn : ∀ b o, h₀.get? b = some o → ¬ N b := fun b o e q => by rw [hN b q] at e; cases e
  refine ⟨fun b o e => ?_, fun b o e n0 nf => hk b o (nn b o e) (k.keep b o e n0 nf), fun b o e n0 hf => ?_⟩
  · obtain ⟨o', e'⟩ := k.there b o e
    exact ⟨o', hk b o' (nn b o e) e'⟩
  · obtain ⟨sl, e'⟩ := k.slots b o e n0 hf
    exact ⟨sl, hk b _ (nn b o e) e'⟩

theorem ev_comp : evE C ρ γ (.comp e m sr as) = ((evEs C ρ γ as).bind (srcItems sr)).bind fun xs => if 1000000 < xs.length then .no else
      match mapRes (fun x => match spread m x with | some γ' => evE C ρ γ' e | Option.none => .no) xs with | .ok ys => .ok (.lst ys) | _ => .no := by
  rw [evE]; cases evEs C ρ γ as <;> rfl
theorem comp_fold {iter : Expr} (hs : SrcOf sc iter sr xs) : ∀ x, foldedSetIterable iter ev x = pure x := by
  intro x
  cases hs <;> first | rfl | skip
  rename_i h
  cases iter <;> first | rfl | cases h
theorem comp_clos (S : St K A fe outer B nm ev ow ρ γ mm cm s.heap) (hsc : ev.scope = sc) (hk : ScOk scope sc names) : closureFor scope ev = pure (clOf scope.names ev.cells) :=
  closure_ok fun x hx hf => S.W.hc x.1 (by unfold Env.kindOf; rw [hsc]; exact hk.free x.1 (by rw [← hf]; exact hx))

set_option maxHeartbeats 1000000 in
theorem comp_core (O : Ok K) (ht : TgtOf tgt names m) (hs : SrcOf sc iter sr xs) (hp : pairOk sr m = true) (hnm : nm.cs = []) (hok : scopeOk scope sc names = true) (hcv : cvOk nm.vs names scope = true) (hsc : ev.scope = sc) (rm : Room A n)
    (ih : ∀ x a, xs = [x] → as = [a] → SE K C n nm sc x a) (ihl : SL K C n nm sc xs as) (hpl : ∀ x ∈ xs, plainE x = true) (hlen : xs.length = as.length) (ihe : SE K C n ⟨nm.vs, names⟩ (relabelS scope sc) elt e) (S : St K A fe outer B nm ev ow ρ γ mm cm s.heap) {p : Pos}
    {items ys : List FV} {E : Value → Shared → Prop} {RR : Value → Addr → Result → Shared → Prop} (hit : (evEs C ρ γ as).bind (srcItems sr) = .ok items) (hbig : ¬ 1000000 < items.length)
    (hys : mapRes (fun x => match spread m x with | some γ' => evE C ρ γ' e | Option.none => .no) items = .ok ys)
    (hRR : ∀ D CC h' tk m', Kp (frsOf fe outer) N0 s.heap h' → h'.Ns CC m' → s.heap.get? CC = none → (∃ o, h'.get? CC = some o) → RV K h' (fun b => B b ∨ b = CC) (.lst ys) (.ref D) → RR (.ref D) CC (.ok .next) { s with heap := h', toks := tk }) :
    wpAny (model K.prog K.w) A (eval iter ev) (fun x s₁ => wpAny (model K.prog K.w) A (pyIter x) (fun it s₂ => wpAny (model K.prog K.w) A (newList []) (fun acc s₃ =>
      wpAny (model K.prog K.w) A (newFunctionEnv scope ev.globals (clOf scope.names ev.cells) [] ev.qual none .none (some ev)) (fun cenv s₄ =>
        codeAny (model K.prog K.w) A (.compStart (.ListComp elt [⟨tgt, iter, [], 0⟩] scope p) 0 it acc { cenv with scope := relabel scope ev }) (RR acc cenv.locals) s₄) E s₃) E s₂) E s₁) E s := by
  have hk := ScOk.of hok
  have hne : names ≠ [] := by cases ht <;> simp
  have htg : sr = .items ∨ sr = .enum → m = 2 ∧ ∃ elts kk pos, tgt = .Tuple elts kk pos := by
    rintro (rfl | rfl) <;> cases ht <;> first | exact ⟨rfl, _, _, _, rfl⟩ | cases hp
  have hsrc := src_ends O htg hs hsc rm ih ihl hpl hlen S
  rw [hit] at hsrc
  clear hit
  refine (hsrc _ _ fun x h1 tk1 kp1 itb => itb { s with heap := h1, toks := tk1 } rfl _ _ fun it h2 tk2 kp2 hit => ?_)
  · obtain ⟨I, W, St₀, rfl, G, st, fresh⟩ := hit
    dsimp only at kp2 ⊢
    have kp02 := kp1.trans0 kp2
    -- the list and the block's names
    refine wpAny_newObj_type (wpAny_newFunctionEnv hk.nocell (by intro y hy; simp at hy) (fun h₃ hns₃ hsb₃ => ?_) hk.kind)
    dsimp only at hns₃ hsb₃ ⊢
    generalize hH2 : h2.push { cls := .type "list", dict := none, data := .seq ([] : List Value).toArray } = H2 at hns₃ hsb₃ ⊢
    have hCz : H2.objs.size = h2.objs.size + 1 := by rw [← hH2, Heap.size_push]
    have hD2 : H2.get? h2.objs.size = some { cls := .type "list", dict := none, data := .seq ([] : List Value).toArray } := by rw [← hH2]; exact Heap.get?_push_size _ rfl
    have below : ∀ b, b < h2.objs.size → b ≠ H2.objs.size ∧ b ≠ h2.objs.size := fun b hb => ⟨by rw [hCz]; exact Nat.ne_of_lt (Nat.lt_succ_of_lt hb), Nat.ne_of_lt hb⟩
    have hDC : h2.objs.size ≠ H2.objs.size := by rw [hCz]; exact Nat.ne_of_lt (Nat.lt_succ_self _)
    have up3 : ∀ b o, h2.get? b = some o → h₃.get? b = some o := fun b o e => hsb₃.extBut b o (below b (Heap.lt_size e)).1 (Heap.get?_push_of_some _ (hH2 ▸ Heap.get?_push_of_some _ e))
    have fresh0 : ∀ b, h2.objs.size ≤ b → s.heap.get? b = none := fun b hb => gone kp02 (by
      cases e : h2.get? b with
      | none => rfl
      | some o => exact absurd (Heap.lt_size e) (Nat.not_lt.mpr hb))
    generalize hDd : h2.objs.size = D at *
    generalize hCc : H2.objs.size = CC at *
    have hDl : h₃.IsList D #[] := ⟨_, hsb₃.extBut _ _ hDC (Heap.get?_push_of_some _ hD2), rfl, _, rfl⟩
    let N : Addr → Prop := fun b => W b ∨ b = D ∨ b = CC
    have hNf : ∀ b, N b → s.heap.get? b = none := fun b hb => by
      rcases hb with hb | rfl | rfl
      · exact (fresh b hb).1
      · exact fresh0 _ (Nat.le_refl _)
      · exact fresh0 _ (by rw [hCz]; exact Nat.le_succ _)
    have hWlt : ∀ b, W b → b < D := fun b hb => by obtain ⟨o, ho⟩ := (fresh b hb).2; rw [← hDd]; exact Heap.lt_size ho
    have hWD : ¬ W D := fun q => Nat.lt_irrefl _ (hWlt _ q)
    have hWC : ¬ W CC := fun q => (below _ (hWlt _ q)).1 rfl
    -- the loop
    have st₃ : St₀ (fun b => B b ∨ N b) items h₃ := G.frame (fun b => B b ∨ W b) _ _ _ _ (fun b hb => .inr hb) st (fun b o e _ => up3 b o e) fun b o e hb => by
      rcases hb with hb | hb | rfl | rfl
      · exact .inl hb
      · exact .inr hb
      · exact absurd (Heap.lt_size e) (by rw [hDd]; exact Nat.lt_irrefl _)
      · exact absurd (Heap.lt_size e) (by rw [hDd, hCz]; exact Nat.not_lt.mpr (Nat.le_succ _))
    have kp3 : Kp (frsOf fe outer) N0 s.heap h₃ := kp02.trans0 (Kp.of_keep up3)
    have hfr : ∀ b, b ∈ frsOf fe outer → ¬ N b := fun b hb q => by
      obtain ⟨o, ho⟩ := (S.I.bb b (S.I.bfr b hb)).2
      rw [hNf b q] at ho; cases ho
    have hB : ∀ b, B b → ¬ N b := fun b hb q => by
      obtain ⟨o, ho⟩ := (S.I.bb b hb).2
      rw [hNf b q] at ho; cases ho
    have hfrB : ∀ b, b ∈ frsOf fe outer → B b ∨ N b := fun b hb => .inl (S.I.bfr b hb)
    have loop : ∀ tk, codeAny (model K.prog K.w) A (.compLoop (.ListComp elt [⟨tgt, iter, [], 0⟩] scope p) 0 (.ref I) (.ref D) (compEnvC scope (clOf scope.names ev.cells) CC ev))
        (RR (.ref D) CC) { s with heap := h₃, toks := tk } := fun tk => by
      refine kcp_loop (fun k s' => ∃ h tk rest done restys us m', s' = { s with heap := h, toks := tk } ∧ k = rest.length ∧ mapRes (fun x => match spread m x with | some γ' => evE C ρ γ' e | Option.none => .no) rest = .ok restys ∧ ys = done ++ restys ∧
        done.length + rest.length ≤ 1000000 ∧ Kp (frsOf fe outer) N0 s.heap h ∧ (∀ b, N b → ∃ o, h.get? b = some o) ∧ h.IsList D (List.toArray us) ∧ RVs K h (fun b => B b ∨ N b) done us ∧ h.Ns CC m' ∧ St₀ (fun b => B b ∨ N b) rest h) ?_ items.length
        ⟨h₃, tk, items, [], ys, [], _, rfl, rfl, hys, rfl, by simpa using Nat.not_lt.mp hbig, kp3, fun b hb => ?_, hDl, rfl, hns₃, st₃⟩
      · rintro k s' ⟨h, tk, rest, done, restys, us, m', rfl, rfl, hmr, hys', hsz, kp, live, hl, rs, hns, st⟩
        cases rest with
        | nil =>
          cases hmr
          rw [List.append_nil] at hys'
          subst hys'
          refine G.done (fun b => B b ∨ N b) _ _ _ (fun b hb => .inr (.inl hb)) st fun h' tk' hk' => ?_
          refine hRR D CC h' tk' m' (kp.then_but hNf fun b o nb e => hk' b o (fun q => nb (.inl q)) e) (hns.at' fun o e => hk' CC o hWC e) (hNf CC (.inr (.inr rfl))) ?_ ⟨?_, D, us, rfl, ?_, ?_, ?_⟩
          · obtain ⟨o, ho⟩ := live CC (.inr (.inr rfl))
            exact ⟨o, hk' CC o hWC ho⟩
          · have : big = 16777216 := rfl
            simp only [List.length_nil] at hsz
            omega
          · rintro (q | q)
            · exact hB D q (.inr (.inl rfl))
            · exact hDC q
          · obtain ⟨o, ho, q⟩ := hl
            exact ⟨o, hk' D o hWD ho, q⟩
          · exact rs.keep (fun b o e nb => hk' b o (fun q => nb (.inr (.inl q))) e) fun b o e q => q.imp id fun q => .inr (.inr q)
        | cons x rest =>
          obtain ⟨y, ys', hy, hys2, rfl⟩ := mapRes_cons hmr
          obtain ⟨γ', hsp, hev⟩ : ∃ γ', spread m x = some γ' ∧ evE C ρ γ' e = .ok y := by
            cases hsp : spread m x with
            | none => rw [hsp] at hy; cases hy
            | some γ' => rw [hsp] at hy; exact ⟨γ', rfl, hy⟩
          refine G.step' (fun b => B b ∨ N b) x rest (fun b hb => .inr (.inl hb)) st (by rw [hsp]; exact fun q => nomatch q) fun v h1' tk1' hk1 sp st1 => ?_
          have hp1 : ∀ b, N b → b = D ∨ b = CC → ¬ W b := fun b _ q => by rcases q with rfl | rfl <;> assumption
          have hns1 : h1'.Ns CC m' := hns.at' fun o e => hk1 CC o hWC e
          refine tgt_assign (B := fun b => B b ∨ N b) (env := compEnvC scope (clOf scope.names ev.cells) CC ev) S.I.hd ht hk.kind (fun n hn => ?_) hns1 (.inr (.inr (.inr rfl))) hsp sp fun h2' tk2' m'' hns2 hk2 hcs => ?_
          · exact lookup_relabel_local (hk.loc n hn)
          have live1 : ∀ b, N b → ∃ o, h1'.get? b = some o := fun b hb => by
            by_cases q : W b
            · exact G.live _ _ _ st1 b q
            · obtain ⟨o, ho⟩ := live b hb
              exact ⟨o, hk1 b o q ho⟩
          have live2 : ∀ b, N b → ∃ o, h2'.get? b = some o := fun b hb => by
            by_cases q : b = CC
            · subst q
              obtain ⟨o, es, ep, ho, _⟩ := hns2
              exact ⟨o, ho⟩
            · obtain ⟨o, ho⟩ := live1 b hb
              exact ⟨o, hk2 b o q ho⟩
          have up2 : ∀ b o, ¬ W b → b ≠ CC → h.get? b = some o → h2'.get? b = some o := fun b o h1 h2 e => hk2 b o h2 (hk1 b o h1 e)
          have kp2' : Kp (frsOf fe outer) N0 s.heap h2' := kp.then_but hNf fun b o nb e => up2 b o (fun q => nb (.inl q)) (fun q => nb (.inr (.inr q))) e
          have S' := St.block S hnm hsc hk hcv hne kp2' (fun b hb => ⟨hNf b hb, live2 b hb⟩) (C := CC) (.inr (.inr rfl)) hns2 hcs
          have hE := (ihe A fe outer _ _ _ ρ γ' m'' cm { s with heap := h2', toks := tk2' } (by subst hsc; rfl) rm S').1
          rw [hev] at hE
          refine hE _ _ fun z h4 tk4 kp4 rz => ?_
          have hl4 : h4.IsList D (List.toArray us) := by
            obtain ⟨o, ho, q⟩ := hl
            exact ⟨o, kp4.keep D o (up2 D o hWD hDC ho) (fun q => q) (fun q => hfr D q (.inr (.inl rfl))), q⟩
          refine wpAny_list_append hl4 (fun h5 hl5 hs5 => ?_) ?_
          · have up4 : ∀ b o, ¬ (b ∈ frsOf fe outer) → h2'.get? b = some o → h4.get? b = some o := fun b o q e => kp4.keep b o e (fun q => q) q
            have up5 : ∀ b o, b ≠ D → h4.get? b = some o → h5.get? b = some o := fun b o q e => hs5.extBut b o q e
            refine ⟨rest.length, Nat.lt_succ_self _, h5, tk4, rest, done ++ [y], ys', us ++ [z], m'', rfl, rfl, hys2, by rw [hys', List.append_assoc]; rfl, ?_, ?_, ?_, ?_, ?_, ?_, ?_⟩
            · simp only [List.length_cons, List.length_append, List.length_nil] at hsz ⊢
              omega
            · exact (kp2'.trans0 kp4).then_but hNf fun b o nb e => up5 b o (fun q => nb (.inr (.inl q))) e
            · intro b hb
              obtain ⟨o, ho⟩ := live2 b hb
              obtain ⟨o', ho'⟩ := kp4.there b o ho
              by_cases q : b = D
              · subst q
                obtain ⟨o, ho, _⟩ := hl5
                exact ⟨o, ho⟩
              · exact ⟨o', up5 b o' q ho'⟩
            · have : us.toArray.push z = (us ++ [z]).toArray := by simp
              rw [← this]; exact hl5
            · refine RVs.append (rs.keep (fun b o e nb => ?_) fun _ _ _ q => q) (RVs.one (rz.keep (fun b o e nb => up5 b o (fun q => nb (.inr (.inr (.inl q)))) e) fun _ _ _ q => q))
              exact up5 b o (fun q => nb (.inr (.inr (.inl q)))) (up4 b o (fun q => nb (hfrB b q)) (up2 b o (fun q => nb (.inr (.inl q))) (fun q => nb (.inr (.inr (.inr q)))) e))
            · exact hns2.at' fun o e => up5 CC o (Ne.symm hDC) (up4 CC o (fun q => hfr CC q (.inr (.inr rfl))) e)
            · refine G.frame _ _ _ _ _ (fun b hb => .inr (.inl hb)) st1 (fun b o e q => ?_) fun _ _ _ q => q
              rcases q with q | q
              · exact up5 b o (fun z => q (.inr (.inr (.inl z)))) (up4 b o (fun z => q (hfrB b z)) (hk2 b o (fun z => q (.inr (.inr (.inr z)))) e))
              · exact up5 b o (fun z => hWD (z ▸ q)) (up4 b o (fun z => hfr b z (.inl q)) (hk2 b o (fun z => hWC ((show b = CC from z) ▸ q)) e))
          · have hlen := rs.length
            simp only [List.length_cons] at hsz
            show us.toArray.size ≤ 16777216
            rw [List.size_toArray, hlen]
            omega
      · rcases hb with hb | rfl | rfl
        · obtain ⟨o, ho⟩ := (fresh b hb).2
          exact ⟨o, up3 b o ho⟩
        · obtain ⟨o, ho, _⟩ := hDl
          exact ⟨o, ho⟩
        · obtain ⟨o, es, ep, ho, _⟩ := hns₃
          exact ⟨o, ho⟩
    exact codeAny_compStart_list (loop _) (G.self _ _ _ _ _ st₃ (loop _))

theorem comp_ends (O : Ok K) (ht : TgtOf tgt names m) (hs : SrcOf sc iter sr xs) (hp : pairOk sr m = true) (hnm : nm.cs = []) (hok : scopeOk scope sc names = true) (hcv : cvOk nm.vs names scope = true) (hsc : ev.scope = sc) (rm : Room A n)
    (ih : ∀ x a, xs = [x] → as = [a] → SE K C n nm sc x a) (ihl : SL K C n nm sc xs as) (hpl : ∀ x ∈ xs, plainE x = true) (hlen : xs.length = as.length) (ihe : SE K C n ⟨nm.vs, names⟩ (relabelS scope sc) elt e) (S : St K A fe outer B nm ev ow ρ γ mm cm s.heap) {p : Pos} :
    Ends K A (frsOf fe outer) B (evE C ρ γ (.comp e m sr as)) s (eval (.ListComp elt [⟨tgt, iter, [], 0⟩] scope p) ev) := by
  have hk := ScOk.of hok
  have htg : sr = .items ∨ sr = .enum → m = 2 ∧ ∃ elts kk pos, tgt = .Tuple elts kk pos := by
    rintro (rfl | rfl) <;> cases ht <;> first | exact ⟨rfl, _, _, _, rfl⟩ | cases hp
  have hsrc := src_ends O htg hs hsc rm ih ihl hpl hlen S
  rw [ev_comp, eval_ListComp]
  have core := fun items ys E RR => comp_core (s := s) (p := p) (items := items) (ys := ys) (E := E) (RR := RR) O ht hs hp hnm hok hcv hsc rm ih ihl hpl hlen ihe S
  generalize (evEs C ρ γ as).bind (srcItems sr) = r at hsrc core
  cases r with
  | no => exact EndsG.no
  | exc k => exact fun Q E hE => wpAny_comprehension_free (use := none) rfl (comp_fold hs) (comp_clos S hsc hk) hk.kind hk.locs (hsrc _ _ hE)
  | ok items =>
    rw [Res.bind_ok]
    split
    · exact EndsG.no
    rename_i hbig
    split
    case h_2 => exact EndsG.no
    rename_i ys hys
    refine .mk fun Q E hQ => wpAny_comprehension_free (use := none) rfl (comp_fold hs) (comp_clos S hsc hk) hk.kind hk.locs (core items ys E _ rfl hbig hys fun D CC h' tk m' kp hns hf hC rv => ?_)
    refine ⟨m', hns, fun h'' hs'' => hQ (.ref D) h'' tk (kp.then_but (N := fun b => b = CC) (fun b q => q ▸ hf) fun b o nb e => hs''.extBut b o nb e) ?_⟩
    exact rv.keep (fun b o e nb => hs''.extBut b o (fun q => nb (.inr q)) e) fun _ _ _ q => .inl q
end
end Mine
end

section
open PySem PySem.W PySem.Calls PyProof.Rows
set_option maxHeartbeats 0
namespace Mine
theorem tail_true (m : Sem Bool) : (m >>= fun b => (match BoolOp.And, b with | .And, false => pure false | .Or, true => pure true | _, _ => pure true : Sem Bool)) = m := by
  have : (fun b => (match BoolOp.And, b with | .And, false => pure false | .Or, true => pure true | _, _ => pure true : Sem Bool)) = pure := by funext b; cases b <;> rfl
  rw [this]; exact bind_pure m
theorem tail_false (m : Sem Bool) : (m >>= fun b => (match BoolOp.Or, b with | .And, false => pure false | .Or, true => pure true | _, _ => pure false : Sem Bool)) = m := by
  have : (fun b => (match BoolOp.Or, b with | .And, false => pure false | .Or, true => pure true | _, _ => pure false : Sem Bool)) = pure := by funext b; cases b <;> rfl
  rw [this]; exact bind_pure m
theorem and1_true_eq (y : Expr) (ev : Env) : allTrue .And [y] ev = isTrue y ev (eval y ev) := tail_true _
theorem and_true_eq (x y : Expr) (ev : Env) : allTrue .And [x, y] ev = (isTrue x ev (eval x ev) >>= fun b => if b then isTrue y ev (eval y ev) else pure false) := by
  show (isTrue x ev (eval x ev) >>= fun b => _) = _
  congr 1
  funext b
  cases b
  · rfl
  · exact and1_true_eq y ev
theorem or_true_eq (x y : Expr) (ev : Env) : allTrue .Or [x, y] ev = (isTrue x ev (eval x ev) >>= fun b => if b then pure true else isTrue y ev (eval y ev)) := by
  show (isTrue x ev (eval x ev) >>= fun b => _) = _
  congr 1
  funext b
  cases b
  · exact tail_false _
  · rfl
theorem and3_true_eq (x y z : Expr) (ev : Env) : allTrue .And [x, y, z] ev = (isTrue x ev (eval x ev) >>= fun b => if b then (isTrue y ev (eval y ev) >>= fun b => if b then isTrue z ev (eval z ev) else pure false) else pure false) := by
  show (isTrue x ev (eval x ev) >>= fun b => _) = _
  congr 1
  funext b
  cases b
  · rfl
  · exact and_true_eq y z ev

section
variable {K : Cfg} {A : Around} {fe ev : Env} {outer : List Env} {B : Addr → Prop} {s : Shared} {sc : Scope}
theorem BltT.tab {n : Str} {t : String} (h : BltT n t) : btab n = some (.type t) ∧ (n == ("__debug__" : Str)) = false := by cases h <;> exact ⟨by decide, by decide⟩
theorem cls_ends (O : Ok K) (I : Inv K A fe outer B s.heap) (W : EvOk fe B ev) (hs : ev.scope = sc) {y : Expr} {c : FV} (h : ClsOf sc y c) : Ends K A (frsOf fe outer) B (.ok c) s (eval y ev) ∧ plainE y = true ∧ ((∃ i, c = .gl i) ∨ ∃ n, c = .typ n) := by
  cases h with
  | own hg hk =>
    refine ⟨global_ends O I W hg (by unfold Env.kindOf; rw [hs]; exact hk) ?_, rfl, .inl ⟨_, rfl⟩⟩
    rename_i n p i
    cases hd : (n == ("__debug__" : Str)) with
    | false => rfl
    | true =>
      rw [eq_of_beq hd] at hg
      have : (gtab ("__debug__" : Str)).isNone = true := by decide
      rw [hg] at this
      cases this
  | blt hb hk =>
    refine ⟨?_, rfl, .inr ⟨_, rfl⟩⟩
    rename_i n p t
    refine EndsG.mk fun Q E k => ?_
    exact builtin_ends (fr := frsOf fe outer) (RR := fun _ _ z => z = .type t) O I W hb.tab.1 (by unfold Env.kindOf; rw [hs]; exact hk) hb.tab.2 rfl Q E fun z h' tk kp hz => k z h' tk kp hz
theorem clss_ends (O : Ok K) (W : EvOk fe B ev) (hs : ev.scope = sc) (pos : Pos) : ∀ {ys : List Expr} {cs : List FV}, ClssOf sc ys cs → ∀ {s : Shared}, Inv K A fe outer B s.heap →
    EndsL K A (frsOf fe outer) B (.ok cs) s (spliced (backTo pos (starEach ys ev))) ∧ ∀ c ∈ cs, (∃ i, c = .gl i) ∨ ∃ n, c = .typ n := by
  intro ys cs h
  induction h with
  | nil => intro s I; exact ⟨EndsG.pure rfl, fun c hc => nomatch hc⟩
  | cons hx _ ih =>
    intro s I
    rename_i x c xs cs _
    obtain ⟨e1, e2, e3⟩ := cls_ends O I W hs hx
    refine ⟨?_, ?_⟩
    · rw [star_plain e2]
      show EndsL K A _ B _ s (spliced ((false, eval x ev) :: backTo pos (starEach xs ev)))
      unfold spliced
      refine EndsG.res (r' := (Res.ok c).bind fun v => (Res.ok cs).bind fun vs => Res.ok (v :: vs)) (EndsG.bind e1 fun v y h' tk _ kp rv => ?_) rfl
      refine EndsG.of_eq (t' := (holding [y] (spliced (backTo pos (starEach xs ev))) >>= fun vs => pure ([y] ++ vs))) ?_ rfl
      refine EndsG.bind ((ih (s := { s with heap := h', toks := tk }) (I.step0 kp)).1.holding) fun vs ys h'' tk' _ kp' rs => ?_
      exact EndsG.pure (s := { s with heap := h'', toks := tk' }) ⟨y, ys, rfl, rv.step0 (I.step0 kp) kp', rs⟩
    · intro c' hc'
      rcases List.mem_cons.mp hc' with rfl | hc'
      · exact e3
      · exact (ih (s := s) I).2 c' hc'
theorem isi_one {v c : FV} : evP (.isi [c]) [v] = match isiOne v c with | some b => .ok (.bool b) | Option.none => .no := by
  show (match isiAny v [c] with | some b => Res.ok (FV.bool b) | Option.none => .no) = _
  unfold isiAny
  cases q : isiOne v c with
  | none => rfl
  | some b =>
    cases b with
    | true => rfl
    | false =>
      have hr : refV v = false := by
        cases v <;> first | rfl | (cases c <;> first | cases q | skip)
        rename_i j i
        have q' : (if j == 102 && i == 103 then some true else Option.none) = some false := q
        split at q' <;> cases q'
      show (match (if refV v then Option.none else some false) with | some b => Res.ok (FV.bool b) | Option.none => .no) = _
      rw [hr]
      rfl
theorem attr_tail {r : Res FV} {value : Expr} {o : Value} {fr : List Addr} {nm : Str} (h : Ends K A fr B r s (getAttr o nm true)) : Ends K A fr B r s (do let r ← holding [o] (getAttr o nm true); letTemporaryGo value o r; pure r) := by
  refine EndsG.via h fun Q E hw => wpAny_bind (wpAny_holding (wpAny_mono hw (fun r s₃ h₃ => wpAny_bind (wpAny_letTemporaryGo (wpAny_pure h₃))) fun _ _ x => x))
theorem sliceT {r : Res FV} {v : FV} {x : Value} (h : r ≠ .no) (ra : RV K s.heap B v x) (hv : (∃ l, v = .bytes l) ∨ ∃ l, v = .lst l) : ∃ T id, typeLookup (.type T) "__getitem__" = pure (some (.builtin id)) ∧ s.TypeIs x T := by
  rcases hv with ⟨l, rfl⟩ | ⟨l, rfl⟩
  · obtain ⟨_, t, rfl⟩ := ra; exact ⟨_, _, FB.slot_bytes_getitem.lookup, PySem.W.typeIs_bytes _ _ _⟩
  · obtain ⟨_, l, vs, rfl, _, hl, _⟩ := ra; exact ⟨_, _, F.slot_list_getitem.lookup, hl.typeIs⟩
end
theorem all2_plain {α β : Type} {P : α → Prop} {Q : α → β → Prop} {xs : List α} {as : List β} (h : All2 (fun x a => P x ∧ Q x a) xs as) : ∀ x ∈ xs, P x := by
  induction h with
  | nil => exact fun x hx => nomatch hx
  | cons h _ ih =>
    intro x hx
    rcases List.mem_cons.mp hx with rfl | hx
    · exact h.1
    · exact ih x hx
section
variable {M : Model} {A : Around} {s : Shared} {pl : Sem Bool} {Q : Value × List Value → Shared → Prop} {E : Value → Shared → Prop}
theorem gm_enc {p : Str} {t : Tok} (h : Q (.builtin "str.encode", [.str p t]) s) : wpAny M A (getMethod (.str p t) "encode" pl) Q E s :=
  getMethod_builtin (name := "encode") (typeIs_str _ _ _) F.plainAttrs_str F.slot_str_encode F.type_str_encode (fun a h => nomatch h) h
theorem gm_dec {p : Array UInt8} {t : Tok} (h : Q (.builtin "bytes.decode", [.bytes p t]) s) : wpAny M A (getMethod (.bytes p t) "decode" pl) Q E s :=
  getMethod_builtin (name := "decode") (PySem.W.typeIs_bytes _ _ _) FB.plainAttrs_bytes FB.slot_bytes_decode FB.type_bytes_decode (fun a h => nomatch h) h
theorem gm_dget {v : Value} (hT : s.TypeIs v "dict") (hd : ∀ a, v = .ref a → ∃ o, s.heap.get? a = some o ∧ o.dict = none) (h : Q (.builtin "dict.get", [v]) s) : wpAny M A (getMethod v "get" pl) Q E s :=
  getMethod_builtin (name := "get") hT F.plainAttrs_dict F.slot_dict_get F.type_dict_get hd h
theorem gm_join {p : Array UInt8} {t : Tok} (h : Q (.builtin "bytes.join", [.bytes p t]) s) : wpAny M A (getMethod (.bytes p t) "join" pl) Q E s :=
  getMethod_builtin (name := "join") (PySem.W.typeIs_bytes _ _ _) FB.plainAttrs_bytes slot_join type_join (fun a h => nomatch h) h
end
theorem snd {K : Cfg} {C : CallT} {n : Nat} (O : Ok K) (CO : CallOk K C n) : ∀ {nm : Nms} {sc : Scope} {X : Tm} {Y : Tc}, CX nm sc X Y → SX K C n nm sc X Y := by
  intro nm sc X Y h
  induction h with
  | const hc =>
    intro A fe outer B ev ow ρ γ m cm s hs rm S
    rename_i nm sc c k p v
    have e : Ends K A (frsOf fe outer) B (evE C ρ γ (.k v)) s (eval (.Constant c k p) ev) := by rw [evE]; exact const_ends hc
    exact ⟨e, tr_default S.I e rfl⟩
  | neg =>
    intro A fe outer B ev ow ρ γ m cm s hs rm S
    rename_i i k p p'
    have e : Ends K A (frsOf fe outer) B (evE C ρ γ (.k (.int (-i)))) s (eval (.UnaryOp .USub (.Constant (.int i) k p) p') ev) := by
      rw [evE, arm_eval_UnaryOp]
      refine EndsG.bind (r := Res.ok (FV.int i)) (f := fun _ => Res.ok (FV.int (-i))) (const_ends (fr := frsOf fe outer) (B := B) rfl) fun v x h' tk hr kp rv => EndsG.standAt (EndsG.holding ?_)
      cases hr
      obtain ⟨t, rfl⟩ := rv
      exact op_neg
    exact ⟨e, tr_default S.I e rfl⟩
  | loc hv hc hk h1 h2 =>
    intro A fe outer B ev ow ρ γ m cm s hs rm S
    rename_i nm sc nn p i
    have e : Ends K A (frsOf fe outer) B (evE C ρ γ (.v i)) s (eval (.Name nn p) ev) := by
      rw [evE]
      unfold getV
      split
      · rename_i v hi
        have hkind : ev.kindOf nn = some .local ∨ ev.kindOf nn = some .cell ∨ ev.kindOf nn = some .free := by unfold Env.kindOf; rw [hs]; exact hk
        obtain ⟨x, e1, r1⟩ := S.R.fv i nn v hi hv hc (by rcases hkind with h | h | h <;> rw [h] <;> simp) (by rcases hkind with h | h | h <;> rw [h] <;> simp)
        exact .here fun Q E k => load_lookV S.W S.R.fr e1 (k x s.toks r1) h1 h2
      · exact EndsG.no
    exact ⟨e, tr_default S.I e rfl⟩
  | cv hc h1 h2 =>
    intro A fe outer B ev ow ρ γ m cm s hs rm S
    rename_i nm sc nn p i
    have e : Ends K A (frsOf fe outer) B (evE C ρ γ (.c i)) s (eval (.Name nn p) ev) := by
      rw [evE]
      split
      · rename_i v hi
        obtain ⟨x, e1, r1⟩ := S.R.cv i nn v hi hc
        exact .here fun Q E k => load_lookV S.W S.R.fr e1 (k x s.toks r1) h1 h2
      · exact EndsG.no
    exact ⟨e, tr_default S.I e rfl⟩
  | glob hg hk hd =>
    intro A fe outer B ev ow ρ γ m cm s hs rm S
    rename_i nm sc nn p v
    have e : Ends K A (frsOf fe outer) B (evE C ρ γ (.k v)) s (eval (.Name nn p) ev) := by
      rw [evE]; exact global_ends O S.I S.W hg (by unfold Env.kindOf; rw [hs]; exact hk) hd
    exact ⟨e, tr_default S.I e rfl⟩
  | bin ho _ _ iha ihb =>
    intro A fe outer B ev ow ρ γ m cm s hs rm S
    rename_i nm sc l r op p f a b _ _
    have e : Ends K A (frsOf fe outer) B (evE C ρ γ (.p f [a, b])) s (eval (.BinOp l op r p) ev) := by
      rw [ev2]
      refine EndsG.bind (iha A fe outer B ev ow ρ γ m cm s hs rm S).1 fun v x h' tk _ kp rv => EndsG.bind ((ihb A fe outer B ev ow ρ γ m cm { s with heap := h', toks := tk } hs rm (S.step0 kp)).1.holding) fun u y h'' tk' _ kp' ru => EndsG.standAt (EndsG.operate ?_)
      exact bin_ok (s := { s with heap := h'', toks := tk' }) ho (rv.step0 (S.I.step0 kp) kp') ru
    exact ⟨e, tr_default S.I e rfl⟩
  | sub hp _ _ iha ihb =>
    intro A fe outer B ev ow ρ γ m cm s hs rm S
    rename_i nm sc x i p a b _ _
    have e : Ends K A (frsOf fe outer) B (evE C ρ γ (.p .idx [a, b])) s (eval (.Subscript x i p) ev) := by
      rw [ev2, arm_eval_Subscript]
      refine EndsG.bind (iha A fe outer B ev ow ρ γ m cm s hs rm S).1 fun v o h' tk _ kp rv => EndsG.bind ((ihb A fe outer B ev ow ρ γ m cm { s with heap := h', toks := tk } hs rm (S.step0 kp)).1.holding) fun u y h'' tk' _ kp' ru => EndsG.standAt ?_
      by_cases hn : evP .idx [v, u] = .no
      · rw [hn]; exact EndsG.no
      have rv' := rv.step0 (S.I.step0 kp) kp'
      have I' := (S.I.step0 kp).step0 kp'
      refine sub_tail (s := { s with heap := h'', toks := tk' }) hp (getsOf (s := { s with heap := h'', toks := tk' }) O I' rv' hn) (idx_ok (s := { s with heap := h'', toks := tk' }) rv' ru fun i t hv => ?_)
      subst hv
      cases rv'
      exact O.getter (s := { s with heap := h'', toks := tk' }) I'
    exact ⟨e, tr_default S.I e rfl⟩
  | enil => exact ⟨SL.nil, .nil⟩
  | econs hx _ iha ihl => exact ⟨SL.cons hx.plain iha ihl.1, .cons ⟨hx.plain, iha⟩ ihl.2⟩
  | bad hp =>
    intro A fe outer B ev ow ρ γ m cm s hs rm S
    have e : evE C ρ γ .bad = .no := by rw [evE]
    rw [e]
    exact ⟨EndsG.no, EndsG.no⟩
  | cmp ho hm _ _ iha ihb =>
    intro A fe outer B ev ow ρ γ m cm s hs rm S
    rename_i nm sc l r op p f a b _ _
    have em : markedEach [op] [r] (evalEach [r] ev) = [eval r ev] := by
      show [markedBehindIn op r (eval r ev)] = _
      unfold markedBehindIn
      rw [hm]
    have e : Ends K A (frsOf fe outer) B (evE C ρ γ (.p f [a, b])) s (eval (.Compare l [op] [r] p) ev) := by
      rw [ev2, arm_eval_Compare, em]
      refine EndsG.bind (iha A fe outer B ev ow ρ γ m cm s hs rm S).1 fun v x h' tk _ kp rv => ?_
      refine EndsG.of_eq (t' := (holding [x] (eval r ev) >>= fun y => standAt p >>= fun _ => operate [x, y] (compareOp op x y))) ?_ rfl
      refine EndsG.bind ((ihb A fe outer B ev ow ρ γ m cm { s with heap := h', toks := tk } hs rm (S.step0 kp)).1.holding) fun u y h'' tk' _ kp' ru => EndsG.standAt (EndsG.operate ?_)
      have I' := (S.I.step0 kp).step0 kp'
      have rv' := rv.step0 (S.I.step0 kp) kp'
      refine cmp_ok (s := { s with heap := h'', toks := tk' }) ho rv' ru rm.line fun q q' h1 h2 => ?_
      subst h1; subst h2
      exact O.eqCode (s := { s with heap := h'', toks := tk' }) I' rm rv' ru
    refine ⟨e, ?_⟩
    rw [ev2, arm_isTrue_Compare, em]
    refine EndsG.res (r' := (evE C ρ γ a).bind fun v => (evE C ρ γ b).bind fun u => resT (evP f [v, u])) ?_ (by cases evE C ρ γ a <;> first | rfl | (cases evE C ρ γ b <;> rfl))
    refine EndsG.bind (iha A fe outer B ev ow ρ γ m cm s hs rm S).1 fun v x h' tk _ kp rv => ?_
    refine EndsG.of_eq (t' := (holding [x] (eval r ev) >>= fun y => standAt p >>= fun _ => operate [x, y] (compareOp op x y) >>= fun c => holding [c] (truthy c))) ?_ rfl
    refine EndsG.bind ((ihb A fe outer B ev ow ρ γ m cm { s with heap := h', toks := tk } hs rm (S.step0 kp)).1.holding) fun u y h'' tk' _ kp' ru => EndsG.standAt ?_
    have I' := (S.I.step0 kp).step0 kp'
    have rv' := rv.step0 (S.I.step0 kp) kp'
    refine EndsG.bind (EndsG.operate (cmp_ok (s := { s with heap := h'', toks := tk' }) ho rv' ru rm.line fun q q' h1 h2 => ?_)) fun w z h3 tk3 _ kp3 rw3 => EndsG.holding (truth_ends (s := { s with heap := h3, toks := tk3 }) (I'.step0 kp3) rw3)
    subst h1; subst h2
    exact O.eqCode (s := { s with heap := h'', toks := tk' }) I' rm rv' ru
  | isN _ iha =>
    intro A fe outer B ev ow ρ γ m cm s hs rm S
    rename_i nm sc l k p p' a _
    have em : markedEach [.Is] [.Constant .none k p'] (evalEach [.Constant .none k p'] ev) = [pure .none] := rfl
    have e : Ends K A (frsOf fe outer) B (evE C ρ γ (.p .isNone [a])) s (eval (.Compare l [.Is] [.Constant .none k p'] p) ev) := by
      rw [ev1, arm_eval_Compare, em]
      refine EndsG.bind (iha A fe outer B ev ow ρ γ m cm s hs rm S).1 fun v x h' tk _ kp rv => ?_
      refine EndsG.of_eq (t' := (holding [x] (pure Value.none) >>= fun y => standAt p >>= fun _ => operate [x, y] (compareOp .Is x y))) ?_ rfl
      refine EndsG.res (r' := (Res.ok FV.none).bind fun _ => evP .isNone [v]) (EndsG.bind (EndsG.holding (EndsG.pure (RR := fun h => RV K h B) (s := { s with heap := h', toks := tk }) (v := FV.none) rfl)) fun _ y h'' tk'' hy kp'' ry => ?_) rfl
      cases hy
      cases ry
      exact EndsG.standAt (EndsG.operate (op_isNone (s := { s with heap := h'', toks := tk'' }) (rv.step0 (S.I.step0 kp) kp'') O.gNone))
    refine ⟨e, ?_⟩
    rw [ev1, arm_isTrue_Compare, em]
    refine EndsG.res (r' := (evE C ρ γ a).bind fun v => resT (evP .isNone [v])) ?_ (by cases evE C ρ γ a <;> rfl)
    refine EndsG.bind (iha A fe outer B ev ow ρ γ m cm s hs rm S).1 fun v x h' tk _ kp rv => ?_
    refine EndsG.of_eq (t' := (holding [x] (pure Value.none) >>= fun y => standAt p >>= fun _ => operate [x, y] (compareOp .Is x y) >>= fun c => holding [c] (truthy c))) ?_ rfl
    refine EndsG.res (r' := (Res.ok FV.none).bind fun _ => resT (evP .isNone [v])) (EndsG.bind (EndsG.holding (EndsG.pure (RR := fun h => RV K h B) (s := { s with heap := h', toks := tk }) (v := FV.none) rfl)) fun _ y h'' tk'' hy kp'' ry => ?_) rfl
    cases hy
    cases ry
    have I' := (S.I.step0 kp).step0 kp''
    exact EndsG.standAt (EndsG.bind (EndsG.operate (op_isNone (s := { s with heap := h'', toks := tk'' }) (rv.step0 (S.I.step0 kp) kp'') O.gNone)) fun w z h3 tk3 _ kp3 rw3 => EndsG.holding (truth_ends (s := { s with heap := h3, toks := tk3 }) (I'.step0 kp3) rw3))
  | and2 _ _ iha ihb =>
    intro A fe outer B ev ow ρ γ m cm s hs rm S
    rename_i nm sc x y p a b _ _
    have ea : evE C ρ γ (.and a b) = andR (evE C ρ γ a) (evE C ρ γ b) := by rw [evE]; rfl
    rw [ea]
    refine ⟨EndsG.of_eq (and_ends S.I (iha A fe outer B ev ow ρ γ m cm s hs rm S).1 fun h' tk kp => (ihb A fe outer B ev ow ρ γ m cm { s with heap := h', toks := tk } hs rm (S.step0 kp)).1) rfl, ?_⟩
    rw [resT_and, arm_isTrue_BoolOp]
    refine EndsG.of_eq (t' := (isTrue x ev (eval x ev) >>= fun b => if b then isTrue y ev (eval y ev) else pure false)) ?_ (and_true_eq _ _ _)
    exact EndsG.res (ite_ends (iha A fe outer B ev ow ρ γ m cm s hs rm S).2 (fun h' tk kp => (ihb A fe outer B ev ow ρ γ m cm { s with heap := h', toks := tk } hs rm (S.step0 kp)).2) fun h' tk kp => EndsG.pure (s := { s with heap := h', toks := tk }) rfl) rfl
  | or2 _ _ iha ihb =>
    intro A fe outer B ev ow ρ γ m cm s hs rm S
    rename_i nm sc x y p a b _ _
    have ea : evE C ρ γ (.or a b) = orR (evE C ρ γ a) (evE C ρ γ b) := by rw [evE]; rfl
    rw [ea]
    refine ⟨EndsG.of_eq (or_ends S.I (iha A fe outer B ev ow ρ γ m cm s hs rm S).1 fun h' tk kp => (ihb A fe outer B ev ow ρ γ m cm { s with heap := h', toks := tk } hs rm (S.step0 kp)).1) rfl, ?_⟩
    rw [resT_or, arm_isTrue_BoolOp]
    refine EndsG.of_eq (t' := (isTrue x ev (eval x ev) >>= fun b => if b then pure true else isTrue y ev (eval y ev))) ?_ (or_true_eq _ _ _)
    exact EndsG.res (ite_ends (iha A fe outer B ev ow ρ γ m cm s hs rm S).2 (fun h' tk kp => EndsG.pure (s := { s with heap := h', toks := tk }) rfl) fun h' tk kp => (ihb A fe outer B ev ow ρ γ m cm { s with heap := h', toks := tk } hs rm (S.step0 kp)).2) rfl
  | and3 _ _ _ iha ihb ihc =>
    intro A fe outer B ev ow ρ γ m cm s hs rm S
    rename_i nm sc x y z p a b c _ _ _
    have ea : evE C ρ γ (.and a (.and b c)) = andR (evE C ρ γ a) (andR (evE C ρ γ b) (evE C ρ γ c)) := by simp only [evE]; rfl
    rw [ea]
    refine ⟨EndsG.of_eq (and_ends S.I (iha A fe outer B ev ow ρ γ m cm s hs rm S).1 fun h' tk kp => and_ends (s := { s with heap := h', toks := tk }) (S.I.step0 kp) (ihb A fe outer B ev ow ρ γ m cm { s with heap := h', toks := tk } hs rm (S.step0 kp)).1 fun h'' tk' kp' => (ihc A fe outer B ev ow ρ γ m cm { s with heap := h'', toks := tk' } hs rm ((S.step0 kp).step0 kp')).1) rfl, ?_⟩
    rw [resT_and, resT_and, arm_isTrue_BoolOp]
    refine EndsG.of_eq (t' := (isTrue x ev (eval x ev) >>= fun b => if b then (isTrue y ev (eval y ev) >>= fun b => if b then isTrue z ev (eval z ev) else pure false) else pure false)) ?_ (and3_true_eq _ _ _ _)
    refine EndsG.res (ite_ends (iha A fe outer B ev ow ρ γ m cm s hs rm S).2 (fun h' tk kp => EndsG.res (ite_ends (s := { s with heap := h', toks := tk }) (ihb A fe outer B ev ow ρ γ m cm { s with heap := h', toks := tk } hs rm (S.step0 kp)).2 (fun h'' tk' kp' => (ihc A fe outer B ev ow ρ γ m cm { s with heap := h'', toks := tk' } hs rm ((S.step0 kp).step0 kp')).2) fun h'' tk' kp' => EndsG.pure (s := { s with heap := h'', toks := tk' }) rfl) rfl) fun h' tk kp => EndsG.pure (s := { s with heap := h', toks := tk }) rfl) rfl
  | ife _ _ _ iht iha ihb =>
    intro A fe outer B ev ow ρ γ m cm s hs rm S
    rename_i nm sc t x y p c a b _ _ _
    have ea : evE C ρ γ (.ife c a b) = (resT (evE C ρ γ c)).bind fun t => if t then evE C ρ γ a else evE C ρ γ b := by rw [evE]; exact ife_eq
    rw [ea]
    refine ⟨EndsG.of_eq (ite_ends (iht A fe outer B ev ow ρ γ m cm s hs rm S).2 (fun h' tk kp => (iha A fe outer B ev ow ρ γ m cm { s with heap := h', toks := tk } hs rm (S.step0 kp)).1) fun h' tk kp => (ihb A fe outer B ev ow ρ γ m cm { s with heap := h', toks := tk } hs rm (S.step0 kp)).1) (arm_eval_IfExp ..), ?_⟩
    rw [arm_isTrue_IfExp]
    refine EndsG.res (ite_ends (iht A fe outer B ev ow ρ γ m cm s hs rm S).2 (fun h' tk kp => (iha A fe outer B ev ow ρ γ m cm { s with heap := h', toks := tk } hs rm (S.step0 kp)).2) fun h' tk kp => (ihb A fe outer B ev ow ρ γ m cm { s with heap := h', toks := tk } hs rm (S.step0 kp)).2) ?_
    cases resT (evE C ρ γ c) with
    | ok b => cases b <;> rfl
    | exc e => rfl
    | no => rfl
  | notE _ iha =>
    intro A fe outer B ev ow ρ γ m cm s hs rm S
    rename_i nm sc x p a _
    have ea : evE C ρ γ (.p .not [a]) = (resT (evE C ρ γ a)).bind fun b => .ok (.bool !b) := by
      rw [ev1]
      cases evE C ρ γ a with
      | ok v => show (match v.truth with | some b => Res.ok (FV.bool !b) | Option.none => .no) = _; unfold resT; simp only [Res.bind_ok]; cases v.truth <;> rfl
      | exc e => rfl
      | no => rfl
    rw [ea]
    refine ⟨?_, ?_⟩
    · rw [arm_eval_UnaryOp]
      refine EndsG.res (r' := (evE C ρ γ a).bind fun v => (resT (.ok v)).bind fun b => .ok (.bool !b)) ?_ (by cases evE C ρ γ a <;> rfl)
      refine EndsG.bind (iha A fe outer B ev ow ρ γ m cm s hs rm S).1 fun v y h' tk _ kp rv => EndsG.standAt (EndsG.holding ?_)
      refine EndsG.of_eq (t' := (holding [y] (truthy y >>= fun b => pure (Value.bool !b)))) ?_ rfl
      refine EndsG.holding (EndsG.bind (truth_ends (s := { s with heap := h', toks := tk }) (S.I.step0 kp) rv) fun b c h'' tk'' _ kp'' rb => ?_)
      cases rb
      exact EndsG.pure (s := { s with heap := h'', toks := tk'' }) rfl
    · rw [arm_isTrue_UnaryOp]
      refine EndsG.res (r' := (resT (evE C ρ γ a)).bind fun b => .ok !b) (EndsG.bind (iha A fe outer B ev ow ρ γ m cm s hs rm S).2 fun b c h' tk _ kp rv => ?_) (by cases resT (evE C ρ γ a) <;> rfl)
      cases rv
      exact EndsG.pure (s := { s with heap := h', toks := tk }) rfl
  | tup _ ih =>
    intro A fe outer B ev ow ρ γ m cm s hs rm S
    rename_i nm sc xs k p as _
    have e : Ends K A (frsOf fe outer) B (evE C ρ γ (.p .mkTup as)) s (eval (.Tuple xs k p) ev) := by
      rw [evL, arm_eval_Tuple]
      refine EndsG.standAt (EndsG.bind (ih.1 A fe outer B ev ow ρ γ m cm s p hs rm S).1 fun vs ys h' tk _ kp rs => ?_)
      show Ends K A _ B (if vs.length ≤ 1000 then .ok (.tup vs) else .no) _ _
      split
      · exact new_tup (s := { s with heap := h', toks := tk }) (S.I.step0 kp) rs (Nat.le_trans (by assumption) (by decide))
      · exact EndsG.no
    exact ⟨e, tr_default S.I e rfl⟩
  | lst _ ih =>
    intro A fe outer B ev ow ρ γ m cm s hs rm S
    rename_i nm sc xs p as _
    have e : Ends K A (frsOf fe outer) B (evE C ρ γ (.p .mkLst as)) s (eval (.List xs p) ev) := by
      rw [evL, arm_eval_List]
      refine EndsG.standAt (EndsG.bind (ih.1 A fe outer B ev ow ρ γ m cm s p hs rm S).1 fun vs ys h' tk _ kp rs => ?_)
      show Ends K A _ B (if vs.length ≤ 1000 then .ok (.lst vs) else .no) _ _
      split
      · exact new_list (s := { s with heap := h', toks := tk }) (S.I.step0 kp) rs (Nat.le_trans (by assumption) (by decide))
      · exact EndsG.no
    exact ⟨e, tr_default S.I e rfl⟩
  | blt1 hB hk hx ih =>
    intro A fe outer B ev ow ρ γ m cm s hs rm S
    rename_i nm sc nn p p' x a v f
    have e := callB (xs := []) (p := p) (p' := p') O hB.tab.1 hB.tab.2 hB.keep hk hx.plain (SL.cons hx.plain ih SL.nil) (fun _ _ => rfl) hs rm S fun h' tk vs ys I r => blt1_ok (s := { s with heap := h', toks := tk }) hB I r
    exact ⟨e, tr_default S.I e rfl⟩
  | blt2 hB hk hx hy iha ihb =>
    intro A fe outer B ev ow ρ γ m cm s hs rm S
    rename_i nm sc nn p p' x y a b v f
    have e := callB (p := p) (p' := p') O hB.tab.1 hB.tab.2 hB.keep hk hx.plain (SL.cons hx.plain iha (SL.cons hy.plain ihb SL.nil)) (fun _ _ => by rw [star_plain hy.plain]; rfl) hs rm S fun h' tk vs ys I r => blt2_ok (s := { s with heap := h', toks := tk }) hB I r
    exact ⟨e, tr_default S.I e rfl⟩
  | call hf hfe hl ihf ihl =>
    intro A fe outer B ev ow ρ γ m cm s hs rm S
    rename_i nm sc f x xs p a as
    have hp : plainE x = true := by cases hl; rename_i h _; exact h.plain
    have ea : evE C ρ γ (.call a as) = (evE C ρ γ a).bind fun g => (evEs C ρ γ as).bind fun vs => (C g (vs.map .fv)).bind fun r => .ok r.1 := by rw [evE]
    have e : Ends K A (frsOf fe outer) B (evE C ρ γ (.call a as)) s (eval (.Call f (x :: xs) [] p) ev) := by
      rw [ea]
      refine EndsG.of_eq (t' := (eval f ev >>= fun g => callWith p g [] (backTo p (starEach (x :: xs) ev)) (backToKw p (keywordEach [] ev)))) ?_ (by cases f <;> first | rfl | cases hf)
      refine EndsG.bind (ihf A fe outer B ev ow ρ γ m cm s hs rm S).1 fun g gx h' tk _ kp rg => ?_
      have hL := ihl.1 A fe outer B ev ow ρ γ m cm { s with heap := h', toks := tk } p hs rm (S.step0 kp)
      have hany : (backTo p (starEach xs ev)).any (·.1) = false := by
        have := hL.2
        rw [star_plain hp] at this
        simpa [backTo] using this
      have hng : ∀ vs : List FV, ((C g (vs.map .fv)).bind fun r => Res.ok r.1) ≠ .no → ∃ i, g = .gl i ∧ gx = K.G i ∧ C (.gl i) (vs.map .fv) ≠ .no := by
        intro vs hv
        by_cases hg : ∃ i, g = .gl i
        · obtain ⟨i, rfl⟩ := hg
          exact ⟨i, rfl, rg, fun h => hv (by rw [h]; rfl)⟩
        · exfalso; apply hv
          rw [CO.nogl g _ fun i h => hg ⟨i, h⟩]; rfl
      refine callW (s := { s with heap := h', toks := tk }) (S.I.step0 kp) hp hany (fun hv => ?_) hL.1 fun vs ys h'' tk' _ hv kp' rs => ?_
      · obtain ⟨vs, hv⟩ := hv
        obtain ⟨i, rfl, rfl, h⟩ := hng vs hv
        exact CO.keep i _ h
      · obtain ⟨i, rfl, rfl, h⟩ := hng vs hv
        exact CO.run (s := { s with heap := h'', toks := tk' }) ((S.I.step0 kp).step0 kp') rm rs
    exact ⟨e, tr_default S.I e (by cases f <;> first | rfl | cases hf)⟩
  | attr hb _ ih =>
    intro A fe outer B ev ow ρ γ m cm s hs rm S
    rename_i nm sc o nn p a _
    have e : Ends K A (frsOf fe outer) B (evE C ρ γ (.p (.attr nn) [a])) s (eval (.Attribute o (Str.ofString nn) p) ev) := by
      rw [ev1, arm_eval_Attribute, base_plain hb]
      refine EndsG.bind (ih A fe outer B ev ow ρ γ m cm s hs rm S).1 fun v x h' tk _ kp rv => EndsG.standAt ?_
      exact attr_tail (s := { s with heap := h', toks := tk }) (O.attr (s := { s with heap := h', toks := tk }) (S.I.step0 kp) rm rv)
    exact ⟨e, tr_default S.I e rfl⟩
  | mkCode hk hx ih =>
    intro A fe outer B ev ow ρ γ m cm s hs rm S
    rename_i nm sc x p p' a
    have e : Ends K A (frsOf fe outer) B (evE C ρ γ (.p .mkCode [a])) s (eval (.Call (.Name "Code" p') [x] [] p) ev) := by
      rw [evL]
      refine EndsG.res (r' := (Res.ok (FV.gl 100)).bind fun _ => (evEs C ρ γ [a]).bind (evP .mkCode)) ?_ rfl
      refine EndsG.of_eq (t' := (eval (.Name "Code" p') ev >>= fun g => callWith p g [] (backTo p (starEach [x] ev)) (backToKw p (keywordEach [] ev)))) ?_ rfl
      refine EndsG.bind (global_ends (B := B) O S.I S.W (show gtab "Code" = some (.gl 100) from rfl) (by unfold Env.kindOf; rw [hs]; exact hk) (by decide)) fun g gx h' tk hg kp rg => ?_
      cases hg
      cases rg
      refine callW (s := { s with heap := h', toks := tk }) (S.I.step0 kp) hx.plain rfl (fun _ => O.keepCode) ((SL.cons hx.plain ih SL.nil) A fe outer B ev ow ρ γ m cm { s with heap := h', toks := tk } p hs rm (S.step0 kp)).1 fun vs ys h'' tk' _ hv kp' rs => ?_
      have I' := (S.I.step0 kp).step0 kp'
      match vs, rs, hv with
      | [], _, hv => exact absurd rfl hv
      | v :: w :: l, _, hv => exact absurd (by cases v <;> rfl) hv
      | [v], ⟨y, q, e1, ry, e2⟩, _ => subst e2; subst e1; exact O.mkCode (s := { s with heap := h'', toks := tk' }) I' rm ry
    exact ⟨e, tr_default S.I e rfl⟩
  | isi1 hk hx hc ih =>
    intro A fe outer B ev ow ρ γ m cm s hs rm S
    rename_i nm sc p p' x y a c
    have hy := (cls_ends O S.I S.W hs hc).2.1
    have e : Ends K A (frsOf fe outer) B (evE C ρ γ (.p (.isi [c]) [a])) s (eval (.Call (.Name "isinstance" p') [x, y] [] p) ev) := by
      refine EndsG.res (r' := (Res.ok ()).bind fun _ => ((evE C ρ γ a).bind fun v => Res.ok [v, c]).bind fun vs => evP (.isi [c]) (vs.take 1)) ?_ (by rw [ev1]; cases evE C ρ γ a <;> rfl)
      refine EndsG.of_eq (t' := (eval (.Name "isinstance" p') ev >>= fun g => callWith p g [] (backTo p (starEach [x, y] ev)) (backToKw p (keywordEach [] ev)))) ?_ rfl
      refine EndsG.bind (builtin_ends (RR := fun _ _ z => z = .builtin "isinstance") O S.I S.W (show btab "isinstance" = some (.builtin "isinstance") by decide) (by unfold Env.kindOf; rw [hs]; exact hk) (by decide) rfl) fun _ z h' tk _ kp rz => ?_
      subst rz
      refine callW (s := { s with heap := h', toks := tk }) (S.I.step0 kp) hx.plain (by rw [star_plain hy]; rfl) (fun _ => keep_builtin) ?_ fun vs ys h'' tk' hvs hv kp' rs => ?_
      · rw [star_plain hx.plain]
        show EndsL K A _ B _ _ (spliced ((false, eval x ev) :: backTo p (starEach [y] ev)))
        unfold spliced
        refine EndsG.bind (ih A fe outer B ev ow ρ γ m cm { s with heap := h', toks := tk } hs rm (S.step0 kp)).1 fun v vx h2 tk2 _ kp2 rv => ?_
        have S2 := (S.step0 kp).step0 kp2
        refine EndsG.of_eq (t' := (holding [vx] (spliced (backTo p (starEach [y] ev))) >>= fun vs => pure ([vx] ++ vs))) ?_ rfl
        refine EndsG.res (r' := (Res.ok [c]).bind fun us => Res.ok (v :: us)) (EndsG.bind (clss_ends O S.W hs p (ClssOf.cons hc ClssOf.nil) (s := { s with heap := h2, toks := tk2 }) S2.I).1.holding fun us yv h3 tk3 _ kp3 ru => ?_) rfl
        exact EndsG.pure (s := { s with heap := h3, toks := tk3 }) ⟨vx, yv, rfl, rv.step0 S2.I kp3, ru⟩
      · obtain ⟨v, hv2, hv3⟩ : ∃ v, evE C ρ γ a = .ok v ∧ vs = [v, c] := by
          cases hva : evE C ρ γ a with
          | ok v => rw [hva] at hvs; cases hvs; exact ⟨v, rfl, rfl⟩
          | exc e => rw [hva] at hvs; cases hvs
          | no => rw [hva] at hvs; cases hvs
        subst hv3
        obtain ⟨vx, q, rfl, r1, yv, q', rfl, r2, rfl⟩ := rs
        show Ends K A _ B (evP (.isi [c]) [v]) _ _
        rw [isi_one]
        cases hi : isiOne v c with
        | none => exact EndsG.no
        | some b => exact O.isi (s := { s with heap := h'', toks := tk' }) ((S.I.step0 kp).step0 kp') r1 r2 hi
    exact ⟨e, tr_default S.I e rfl⟩
  | isiT hk hx hc hcs ih =>
    intro A fe outer B ev ow ρ γ m cm s hs rm S
    rename_i nm sc p p' p'' k x ys a cs
    have e : Ends K A (frsOf fe outer) B (evE C ρ γ (.p (.isi cs) [a])) s (eval (.Call (.Name "isinstance" p') [x, .Tuple ys k p''] [] p) ev) := by
      refine EndsG.res (r' := (Res.ok ()).bind fun _ => ((evE C ρ γ a).bind fun v => Res.ok [v, .tup cs]).bind fun vs => evP (.isi cs) (vs.take 1)) ?_ (by rw [ev1]; cases evE C ρ γ a <;> rfl)
      refine EndsG.of_eq (t' := (eval (.Name "isinstance" p') ev >>= fun g => callWith p g [] (backTo p (starEach [x, .Tuple ys k p''] ev)) (backToKw p (keywordEach [] ev)))) ?_ rfl
      refine EndsG.bind (builtin_ends (RR := fun _ _ z => z = .builtin "isinstance") O S.I S.W (show btab "isinstance" = some (.builtin "isinstance") by decide) (by unfold Env.kindOf; rw [hs]; exact hk) (by decide) rfl) fun _ z h' tk _ kp rz => ?_
      subst rz
      · refine callW (s := { s with heap := h', toks := tk }) (S.I.step0 kp) hx.plain (by rfl) (fun _ => keep_builtin) ?_ fun vs us h'' tk' hvs hv kp' rs => ?_
        · rw [star_plain hx.plain]
          show EndsL K A _ B _ _ (spliced ((false, eval x ev) :: backTo p (starEach [.Tuple ys k p''] ev)))
          unfold spliced
          refine EndsG.bind (ih A fe outer B ev ow ρ γ m cm { s with heap := h', toks := tk } hs rm (S.step0 kp)).1 fun v vx h2 tk2 _ kp2 rv => ?_
          have S2 := (S.step0 kp).step0 kp2
          refine EndsG.of_eq (t' := (holding [vx] (eval (.Tuple ys k p'') ev >>= fun tv => holding [tv] (pure []) >>= fun r => pure ([tv] ++ r)) >>= fun vs => pure ([vx] ++ vs))) ?_ rfl
          have et : Ends K A (frsOf fe outer) B (.ok (.tup cs)) { s with heap := h2, toks := tk2 } (eval (.Tuple ys k p'') ev) := by
            rw [arm_eval_Tuple]
            refine EndsG.standAt (EndsG.res (r' := (Res.ok cs).bind fun cs => Res.ok (.tup cs)) (EndsG.bind (clss_ends O S.W hs p'' hc (s := { s with heap := h2, toks := tk2 }) S2.I).1 fun vs us h3 tk3 hvs kp3 rs => ?_) rfl)
            cases hvs
            exact new_tup (s := { s with heap := h3, toks := tk3 }) (S2.I.step0 kp3) rs (Nat.le_trans hcs (by decide))
          refine EndsG.res (r' := (Res.ok [FV.tup cs]).bind fun us => Res.ok (v :: us)) (EndsG.bind (RR := fun h => RVs K h B) (EndsG.holding (EndsG.res (r' := (Res.ok (FV.tup cs)).bind fun t => Res.ok [t]) (EndsG.bind et fun t tv h3 tk3 _ kp3 rt => ?_) rfl)) fun us yv h4 tk4 _ kp4 ru => ?_) rfl
          · refine EndsG.of_eq (t' := (holding [tv] (pure ([] : List Value)) >>= fun r => pure ([tv] ++ r))) ?_ rfl
            refine EndsG.res (r' := (Res.ok ([] : List FV)).bind fun r => Res.ok (t :: r)) (EndsG.bind (EndsG.holding (EndsG.pure (RR := fun h => RVs K h B) (s := { s with heap := h3, toks := tk3 }) (v := []) rfl)) fun r yr h5 tk5 hr kp5 rr => ?_) rfl
            cases hr
            cases rr
            exact EndsG.pure (s := { s with heap := h5, toks := tk5 }) ⟨tv, [], rfl, rt.step0 (S2.I.step0 kp3) kp5, rfl⟩
          · exact EndsG.pure (s := { s with heap := h4, toks := tk4 }) ⟨vx, yv, rfl, rv.step0 S2.I kp4, ru⟩
        · obtain ⟨v, hv2, hv3⟩ : ∃ v, evE C ρ γ a = .ok v ∧ vs = [v, .tup cs] := by
            cases hva : evE C ρ γ a with
            | ok v => rw [hva] at hvs; cases hvs; exact ⟨v, rfl, rfl⟩
            | exc e => rw [hva] at hvs; cases hvs
            | no => rw [hva] at hvs; cases hvs
          subst hv3
          obtain ⟨vx, q, rfl, r1, yv, q', rfl, ⟨_, l, us, rfl, _, hl, rl⟩, rfl⟩ := rs
          show Ends K A _ B (match isiAny v cs with | some b => Res.ok (FV.bool b) | Option.none => .no) _ _
          cases hi : isiAny v cs with
          | none => exact EndsG.no
          | some b => exact O.isiT (s := { s with heap := h'', toks := tk' }) ((S.I.step0 kp).step0 kp') r1 hl rl (clss_ends O S.W hs p hc (s := { s with heap := h', toks := tk }) (S.I.step0 kp)).2 hi
    exact ⟨e, tr_default S.I e rfl⟩
  | enc he hb hl _ ih =>
    intro A fe outer B ev ow ρ γ m cm s hs rm S
    rename_i nm sc o e p p' p'' a _
    have key : Ends K A (frsOf fe outer) B (evE C ρ γ (.p .enc [a])) s (eval (.Call (.Attribute o "encode" p') [lit e p''] [] p) ev) := by
      rw [ev1]
      have hc : constOf (.str (Str.ofString e)) = some (.str (Str.ofString e)) := by rcases he with rfl | rfl <;> rfl
      refine methC (g := fun v => evP .enc [v]) (id := "str.encode") (vs := [.str (Str.ofString e)]) hb hl hc [] [] (fun _ => rfl) (by decide) SL.nil (fun _ _ => evEs1) ih hs rm S (fun v x h' tk pl Q E hv rv hq => ?_) fun v x h' tk ys I' rv rs => ?_
      · cases v <;> first | exact absurd rfl hv | skip
        obtain ⟨_, t, rfl⟩ := rv
        exact gm_enc hq
      · cases v <;> first | exact EndsG.no | skip
        obtain ⟨_, t, rfl⟩ := rv
        obtain ⟨y, q, rfl, ⟨_, u, rfl⟩, rfl⟩ := rs
        show Ends K A _ B (match encSigns _ with | some b => okBytes b | Option.none => .no) _ _
        split
        · exact okBytes_ends fun hb => op_enc (by rcases he with rfl | rfl; exact .inl rfl; exact .inr rfl) (by assumption) hb
        · exact EndsG.no
    exact ⟨key, tr_default S.I key rfl⟩
  | dec hb hl _ ih =>
    intro A fe outer B ev ow ρ γ m cm s hs rm S
    rename_i nm sc o p p' p'' a _
    have key : Ends K A (frsOf fe outer) B (evE C ρ γ (.p .dec [a])) s (eval (.Call (.Attribute o "decode" p') [lit "utf-8" p''] [] p) ev) := by
      rw [ev1]
      refine methC (g := fun v => evP .dec [v]) (id := "bytes.decode") (vs := [.str (Str.ofString "utf-8")]) hb hl (show constOf (.str (Str.ofString "utf-8")) = _ from rfl) [] [] (fun _ => rfl) (by decide) SL.nil (fun _ _ => evEs1) ih hs rm S (fun v x h' tk pl Q E hv rv hq => ?_) fun v x h' tk ys I' rv rs => ?_
      · cases v <;> first | exact absurd rfl hv | skip
        obtain ⟨_, t, rfl⟩ := rv
        exact gm_dec hq
      · cases v <;> first | exact EndsG.no | skip
        obtain ⟨_, t, rfl⟩ := rv
        obtain ⟨y, q, rfl, ⟨_, u, rfl⟩, rfl⟩ := rs
        show Ends K A _ B (match decSigns _ with | some x => okStr ⟨x.toArray⟩ | Option.none => .no) _ _
        split
        · rename_i cs hcs
          refine okStr_ends fun hb => op_dec hcs ?_
          have : (PySem.Str.mk cs.toArray).length = cs.length := List.size_toArray ..
          rw [← this]; exact hb
        · exact EndsG.no
    exact ⟨key, tr_default S.I key rfl⟩
  | toBp hb hl _ ih =>
    intro A fe outer B ev ow ρ γ m cm s hs rm S
    rename_i nm sc o k p p' p1 p2 a _
    have key : Ends K A (frsOf fe outer) B (evE C ρ γ (.p (.toB false) [a])) s (eval (.Call (.Attribute o "to_bytes" p') [.Constant (.int 4) k p1, lit "little" p2] [] p) ev) := by
      rw [ev1]
      refine methC (g := fun v => evP (.toB false) [v]) (id := "int.to_bytes") (vs := [.int 4, .str (Str.ofString "little")]) hb hl (show constOf (.int 4) = _ from rfl) [lit "little" p2] [.k (.str (Str.ofString "little"))] (fun _ => rfl) (by show 1 < 20; decide) (SL.cons rfl (SE.const rfl) SL.nil) (fun _ _ => evEs2) ih hs rm S (fun v x h' tk pl Q E hv rv hq => ?_) fun v x h' tk ys I' rv rs => ?_
      · cases v <;> first | exact absurd rfl hv | skip
        obtain ⟨t, rfl⟩ := rv
        exact KTBy.method hq
      · cases v <;> first | exact EndsG.no | skip
        obtain ⟨t, rfl⟩ := rv
        obtain ⟨y, q, rfl, ⟨u, rfl⟩, z, q', rfl, ⟨_, u', rfl⟩, rfl⟩ := rs
        refine ends_if fun h => ?_
        simp only [Bool.false_eq_true, if_false, Bool.and_eq_true, decide_eq_true_eq] at h
        exact op_toB_plain h.1 h.2
    exact ⟨key, tr_default S.I key rfl⟩
  | get hc hb hl _ ih =>
    intro A fe outer B ev ow ρ γ m cm s hs rm S
    rename_i nm sc o c k p p' p1 w a _
    have key : Ends K A (frsOf fe outer) B (evE C ρ γ (.p .get [a, .k w])) s (eval (.Call (.Attribute o "get" p') [.Constant c k p1] [] p) ev) := by
      refine EndsG.res (r' := (evE C ρ γ a).bind fun v => evP .get [v, w]) ?_ (by rw [ev2]; cases evE C ρ γ a <;> first | rfl | (simp only [evE]; rfl))
      refine methC (g := fun v => evP .get [v, w]) (id := "dict.get") (vs := [w]) hb hl hc [] [] (fun _ => rfl) (by decide) SL.nil (fun _ _ => evEs1) ih hs rm S (fun v x h' tk pl Q E hv rv hq => ?_) fun v x h' tk ys I' rv rs => ?_
      · cases v <;> first | exact absurd rfl hv | skip
        obtain ⟨_, d, kvs, rfl, _, ns, hd, _⟩ := rv
        exact gm_dget hd.typeIs hd.mapOf.noDict hq
      · cases v <;> first | exact EndsG.no | skip
        cases w <;> first | exact EndsG.no | skip
        obtain ⟨_, d, kvs, rfl, _, ns, hd, rd⟩ := rv
        obtain ⟨y, q, rfl, ⟨_, u, rfl⟩, rfl⟩ := rs
        exact op_get hd ns rd
    exact ⟨key, tr_default S.I key rfl⟩
  | join hl hx ih =>
    intro A fe outer B ev ow ρ γ m cm s hs rm S
    rename_i nm sc x k p p' p'' a
    have key : Ends K A (frsOf fe outer) B (evE C ρ γ (.p .join [a])) s (eval (.Call (.Attribute (.Constant (.bytes []) k p'') "join" p') [x] [] p) ev) := by
      rw [evL]
      refine EndsG.res (r' := (Res.ok (FV.bytes [])).bind fun _ => (evEs C ρ γ [a]).bind (evP .join)) ?_ rfl
      refine methW (.builtin "bytes.join") rfl hl (by rw [star_plain hx.plain]; rfl) ((SE.const (K := K) (C := C) (n := n) (nm := nm) (sc := sc) (show constOf (.bytes []) = some (.bytes []) from rfl)) A fe outer B ev ow ρ γ m cm s hs rm S).1 (fun v y h' tk pl Q E hv _ rv hq => ?_) fun v y h' tk hv kp rv => ?_
      · cases hv
        obtain ⟨_, t, rfl⟩ := rv
        exact gm_join hq
      · cases hv
        obtain ⟨_, t, rfl⟩ := rv
        have S' := S.step0 kp
        refine callW (s := { s with heap := h', toks := tk }) S'.I hx.plain rfl (fun _ => keep_builtin) ((SL.cons hx.plain ih SL.nil) A fe outer B ev ow ρ γ m cm { s with heap := h', toks := tk } p hs rm S').1 fun vs ys h'' tk' _ hv kp' rs => ?_
        match vs, rs, hv with
        | [], _, hv => exact absurd rfl hv
        | v :: w :: l, _, hv => exact absurd (by cases v <;> rfl) hv
        | [v], ⟨y, q, e1, ry, e2⟩, hv =>
          subst e2; subst e1
          cases v <;> first | exact absurd rfl hv | skip
          obtain ⟨sz, l, us, rfl, _, hl, rl⟩ := ry
          show Ends K A _ B (match allBytes _ with | some bs => okBytes bs.flatten | Option.none => .no) _ _
          split
          · exact okBytes_ends fun hz => op_join (s := { s with heap := h'', toks := tk' }) hl rl (by assumption) hz
          · exact EndsG.no
    exact ⟨key, tr_default S.I key rfl⟩
  | chn ho ho' hm _ _ _ iha ihb ihc =>
    intro A fe outer B ev ow ρ γ m cm s hs rm S
    rename_i nm sc l mm r op op' p f f' a b c _ _ _
    have em : markedEach [op, op'] [mm, r] (evalEach [mm, r] ev) = [eval mm ev, eval r ev] := by
      show eval mm ev :: [markedBehindIn op' r (eval r ev)] = _
      unfold markedBehindIn
      rw [hm]
    have e : Ends K A (frsOf fe outer) B (evE C ρ γ (.chn a f b f' c)) s (eval (.Compare l [op, op'] [mm, r] p) ev) := by
      rw [evE, arm_eval_Compare, em]
      refine EndsG.bind (iha A fe outer B ev ow ρ γ m cm s hs rm S).1 fun v x h' tk _ kp rv => ?_
      refine EndsG.of_eq (t' := (holding [x] (eval mm ev) >>= fun y => standAt p >>= fun _ => holding [x, y] (compareOp op x y) >>= fun c => release [x, y] [c] >>= fun _ => holding [c, y] (truthy c) >>= fun t => if t then (holding [y] (eval r ev) >>= fun z => standAt p >>= fun _ => operate [y, z] (compareOp op' y z)) else pure c)) ?_ rfl
      refine EndsG.bind ((ihb A fe outer B ev ow ρ γ m cm { s with heap := h', toks := tk } hs rm (S.step0 kp)).1.holding) fun u y h'' tk' _ kp' ru => EndsG.standAt ?_
      have S2 := (S.step0 kp).step0 kp'
      have rv' := rv.step0 (S.I.step0 kp) kp'
      refine EndsG.bind (EndsG.holding (cmp_ok (s := { s with heap := h'', toks := tk' }) ho rv' ru rm.line fun q q' h1 h2 => ?_)) fun w z h3 tk3 hw3 kp3 rw3 => ?_
      · subst h1; subst h2
        exact O.eqCode (s := { s with heap := h'', toks := tk' }) S2.I rm rv' ru
      clear hw3
      have S3 := S2.step0 kp3
      cases w <;> first | exact EndsG.no | skip
      rename_i bb
      cases rw3
      refine EndsG.via ?_ fun Q E hw => wpAny_bind (wpAny_release (wpAny_bind (wpAny_holding (wpAny_truthy_bool hw))))
      cases bb with
      | false => exact EndsG.pure (s := { s with heap := h3, toks := tk3 }) rfl
      | true =>
        refine EndsG.bind ((ihc A fe outer B ev ow ρ γ m cm { s with heap := h3, toks := tk3 } hs rm S3).1.holding) fun w z h4 tk4 _ kp4 rz => EndsG.standAt (EndsG.operate ?_)
        refine cmp_ok (s := { s with heap := h4, toks := tk4 }) ho' ((ru.step0 S2.I kp3).step0 S3.I kp4) rz rm.line fun q q' h1 h2 => ?_
        subst h1; subst h2
        exact O.eqCode (s := { s with heap := h4, toks := tk4 }) (S3.step0 kp4).I rm ((ru.step0 S2.I kp3).step0 S3.I kp4) rz
    refine ⟨e, ?_⟩
    rw [evE, arm_isTrue_Compare, em]
    refine EndsG.res (r' := (evE C ρ γ a).bind fun v => (evE C ρ γ b).bind fun u => (evP f [v, u]).bind fun r => match r with | .bool true => (evE C ρ γ c).bind fun z => resT (evP f' [u, z]) | .bool false => .ok false | _ => .no) ?_ ?_
    · refine EndsG.bind (iha A fe outer B ev ow ρ γ m cm s hs rm S).1 fun v x h' tk _ kp rv => ?_
      refine EndsG.of_eq (t' := (holding [x] (eval mm ev) >>= fun y => standAt p >>= fun _ => holding [x, y] (compareOp op x y) >>= fun c => release [x, y] [c] >>= fun _ => holding [c, y] (truthy c) >>= fun t => if t then (holding [y] (eval r ev) >>= fun z => standAt p >>= fun _ => operate [y, z] (compareOp op' y z) >>= fun c => holding [c] (truthy c)) else pure false)) ?_ rfl
      refine EndsG.bind ((ihb A fe outer B ev ow ρ γ m cm { s with heap := h', toks := tk } hs rm (S.step0 kp)).1.holding) fun u y h'' tk' _ kp' ru => EndsG.standAt ?_
      have S2 := (S.step0 kp).step0 kp'
      have rv' := rv.step0 (S.I.step0 kp) kp'
      refine EndsG.bind (EndsG.holding (cmp_ok (s := { s with heap := h'', toks := tk' }) ho rv' ru rm.line fun q q' h1 h2 => ?_)) fun w z h3 tk3 hw3 kp3 rw3 => ?_
      · subst h1; subst h2
        exact O.eqCode (s := { s with heap := h'', toks := tk' }) S2.I rm rv' ru
      clear hw3
      have S3 := S2.step0 kp3
      cases w <;> first | exact EndsG.no | skip
      rename_i bb
      cases rw3
      refine EndsG.via ?_ fun Q E hw => wpAny_bind (wpAny_release (wpAny_bind (wpAny_holding (wpAny_truthy_bool hw))))
      cases bb with
      | false => exact EndsG.pure (s := { s with heap := h3, toks := tk3 }) rfl
      | true =>
        refine EndsG.bind ((ihc A fe outer B ev ow ρ γ m cm { s with heap := h3, toks := tk3 } hs rm S3).1.holding) fun w z h4 tk4 _ kp4 rz => EndsG.standAt ?_
        refine EndsG.bind (EndsG.operate (cmp_ok (s := { s with heap := h4, toks := tk4 }) ho' ((ru.step0 S2.I kp3).step0 S3.I kp4) rz rm.line fun q q' h1 h2 => ?_)) fun w z h5 tk5 _ kp5 rw5 => EndsG.holding (truth_ends (s := { s with heap := h5, toks := tk5 }) ((S3.step0 kp4).I.step0 kp5) rw5)
        subst h1; subst h2
        exact O.eqCode (s := { s with heap := h4, toks := tk4 }) (S3.step0 kp4).I rm ((ru.step0 S2.I kp3).step0 S3.I kp4) rz
    · cases evE C ρ γ a with
      | ok v =>
        cases evE C ρ γ b with
        | ok u =>
          simp only [Res.bind_ok]
          cases evP f [v, u] with
          | ok w =>
            simp only [Res.bind_ok]
            cases w with
            | bool bb => cases bb <;> first | rfl | (cases evE C ρ γ c <;> rfl)
            | _ => rfl
          | exc e => rfl
          | no => rfl
        | exc e => rfl
        | no => rfl
      | exc e => rfl
      | no => rfl
  | slB _ _ iha ihb =>
    intro A fe outer B ev ow ρ γ m cm s hs rm S
    rename_i nm sc x u p p' a b _ _
    have e : Ends K A (frsOf fe outer) B (evE C ρ γ (.p .slB [a, b])) s (eval (.Subscript x (.Slice none (some u) none p') p) ev) := by
      rw [ev2, arm_eval_Subscript]
      refine EndsG.bind (iha A fe outer B ev ow ρ γ m cm s hs rm S).1 fun v o h' tk _ kp rv => ?_
      have S1 := S.step0 kp
      refine EndsG.res (r' := ((Res.ok FV.none).bind fun l => (evE C ρ γ b).bind fun w => Res.ok (l, w)).bind fun q => evP .slB [v, q.2]) (EndsG.bind (EndsG.holding (slice_ends' (s := { s with heap := h', toks := tk }) S1.I rfl fun h2 tk2 kp2 => (ihb A fe outer B ev ow ρ γ m cm { s with heap := h2, toks := tk2 } hs rm (S1.step0 kp2)).1)) fun q i h3 tk3 hq kp3 rq => EndsG.standAt ?_) (by cases evE C ρ γ b <;> rfl)
      by_cases hn : evP .slB [v, q.2] = .no
      · rw [hn]; exact EndsG.no
      have rv' := rv.step0 S1.I kp3
      obtain ⟨w, rfl⟩ : ∃ w, q = (FV.none, w) := by
        cases hb : evE C ρ γ b <;> rw [hb] at hq <;> cases hq
        exact ⟨_, rfl⟩
      refine slice_tail (s := { s with heap := h3, toks := tk3 }) (sliceT (s := { s with heap := h3, toks := tk3 }) hn rv' ?_) (slB_ok (s := { s with heap := h3, toks := tk3 }) (S1.I.step0 kp3) rv' rq)
      cases v <;> first | exact absurd rfl hn | exact .inl ⟨_, rfl⟩ | exact .inr ⟨_, rfl⟩
    exact ⟨e, tr_default S.I e rfl⟩
  | slA _ _ iha ihb =>
    intro A fe outer B ev ow ρ γ m cm s hs rm S
    rename_i nm sc x u p p' a b _ _
    have e : Ends K A (frsOf fe outer) B (evE C ρ γ (.p .slA [a, b])) s (eval (.Subscript x (.Slice (some u) none none p') p) ev) := by
      rw [ev2, arm_eval_Subscript]
      refine EndsG.bind (iha A fe outer B ev ow ρ γ m cm s hs rm S).1 fun v o h' tk _ kp rv => ?_
      have S1 := S.step0 kp
      refine EndsG.res (r' := ((evE C ρ γ b).bind fun w => (Res.ok FV.none).bind fun l => Res.ok (w, l)).bind fun q => evP .slA [v, q.1]) (EndsG.bind (EndsG.holding (slice_ends' (s := { s with heap := h', toks := tk }) S1.I (ihb A fe outer B ev ow ρ γ m cm { s with heap := h', toks := tk } hs rm S1).1 fun h2 tk2 kp2 => rfl)) fun q i h3 tk3 hq kp3 rq => EndsG.standAt ?_) (by cases evE C ρ γ b <;> rfl)
      by_cases hn : evP .slA [v, q.1] = .no
      · rw [hn]; exact EndsG.no
      have rv' := rv.step0 S1.I kp3
      obtain ⟨w, rfl⟩ : ∃ w, q = (w, FV.none) := by
        cases hb : evE C ρ γ b <;> rw [hb] at hq <;> cases hq
        exact ⟨_, rfl⟩
      refine slice_tail (s := { s with heap := h3, toks := tk3 }) (sliceT (s := { s with heap := h3, toks := tk3 }) hn rv' ?_) (slA_ok (s := { s with heap := h3, toks := tk3 }) (S1.I.step0 kp3) rv' rq)
      cases v <;> first | exact absurd rfl hn | exact .inl ⟨_, rfl⟩ | exact .inr ⟨_, rfl⟩
    exact ⟨e, tr_default S.I e rfl⟩
  | slAB _ _ _ iha ihb ihc =>
    intro A fe outer B ev ow ρ γ m cm s hs rm S
    rename_i nm sc x l u p p' a b c _ _ _
    have e : Ends K A (frsOf fe outer) B (evE C ρ γ (.p .slAB [a, b, c])) s (eval (.Subscript x (.Slice (some l) (some u) none p') p) ev) := by
      rw [ev3, arm_eval_Subscript]
      refine EndsG.bind (iha A fe outer B ev ow ρ γ m cm s hs rm S).1 fun v o h' tk _ kp rv => ?_
      have S1 := S.step0 kp
      refine EndsG.res (r' := ((evE C ρ γ b).bind fun w => (evE C ρ γ c).bind fun l => Res.ok (w, l)).bind fun q => evP .slAB [v, q.1, q.2]) (EndsG.bind (EndsG.holding (slice_ends' (s := { s with heap := h', toks := tk }) S1.I (ihb A fe outer B ev ow ρ γ m cm { s with heap := h', toks := tk } hs rm S1).1 fun h2 tk2 kp2 => (ihc A fe outer B ev ow ρ γ m cm { s with heap := h2, toks := tk2 } hs rm (S1.step0 kp2)).1)) fun q i h3 tk3 hq kp3 rq => EndsG.standAt ?_) (by cases evE C ρ γ b <;> first | rfl | (cases evE C ρ γ c <;> rfl))
      by_cases hn : evP .slAB [v, q.1, q.2] = .no
      · rw [hn]; exact EndsG.no
      have rv' := rv.step0 S1.I kp3
      refine slice_tail (s := { s with heap := h3, toks := tk3 }) (sliceT (s := { s with heap := h3, toks := tk3 }) hn rv' ?_) (slAB_ok (s := { s with heap := h3, toks := tk3 }) (S1.I.step0 kp3) rv' rq)
      cases v <;> first | exact absurd rfl hn | exact .inl ⟨_, rfl⟩ | exact .inr ⟨_, rfl⟩
    exact ⟨e, tr_default S.I e rfl⟩
  | lenv hk hcs hv h1 h2 =>
    intro A fe outer B ev ow ρ γ m cm s hs rm S
    rename_i nm sc p p' p'' nn i
    have e : Ends K A (frsOf fe outer) B (evE C ρ γ (.lenv i)) s (eval (.Call (.Name "len" p') [.Name nn p''] [] p) ev) := lenv_ends O S (by unfold Env.kindOf; rw [hs]; exact hk) hcs hv h1 h2
    exact ⟨e, tr_default S.I e rfl⟩
  | toBs hb hl _ ih =>
    intro A fe outer B ev ow ρ γ m cm s hs rm S
    rename_i nm sc o k k' p p' p1 p2 p3 p4 a _
    have key : Ends K A (frsOf fe outer) B (evE C ρ γ (.p (.toB true) [a])) s (eval (.Call (.Attribute o "to_bytes" p') [.Constant (.int 4) k p1, lit "little" p2] [⟨some "signed", .Constant (.bool true) k' p3, p4⟩] p) ev) := by
      rw [ev1]
      refine methW (.builtin "int.to_bytes") hb hl rfl (ih A fe outer B ev ow ρ γ m cm s hs rm S).1 (fun v x h' tk pl Q E _ hv rv hq => ?_) fun v x h' tk _ kp rv => toBs_call (s := { s with heap := h', toks := tk }) rv
      cases v <;> first | exact absurd rfl hv | skip
      obtain ⟨t, rfl⟩ := rv
      exact KTBy.method hq
    exact ⟨key, tr_default S.I key rfl⟩
  | fromB hk hl hx hy iha ihb =>
    intro A fe outer B ev ow ρ γ m cm s hs rm S
    rename_i nm sc x y p p' p1 p2 p3 a b
    have key : Ends K A (frsOf fe outer) B (evE C ρ γ (.p .fromB [a, b])) s (eval (.Call (.Attribute (.Name "int" p1) "from_bytes" p') [x, lit "little" p2] [⟨some "signed", y, p3⟩] p) ev) := by
      rw [ev2, arm_eval_Call, base_plain (o := .Name "int" p1) rfl]
      refine EndsG.res (r' := (Res.ok ()).bind fun _ => (evE C ρ γ a).bind fun v => (evE C ρ γ b).bind fun u => evP .fromB [v, u]) ?_ rfl
      refine EndsG.bind (builtin_ends (RR := fun _ _ z => z = .type "int") O S.I S.W (show btab "int" = some (.type "int") by decide) (by unfold Env.kindOf; rw [hs]; exact hk) (by decide) rfl) fun _ z h' tk _ kp rz => EndsG.standAt ?_
      subst rz
      have S' := S.step0 kp
      have hf : methodCallForm ([x, lit "little" p2].length + 1) (backTo p (starEach [x, lit "little" p2] ev)) (backToKw p (keywordEach [⟨some "signed", y, p3⟩] ev)) = true := by rw [star_plain hx.plain]; rfl
      have kpush := Kp.push (frsOf fe outer) N0 h' KFB.bound
      have S2 := S'.step0 kpush
      have hnf : h'.objs.size ∉ frsOf fe outer := fun hm => fresh_notB (s := { s with heap := h', toks := tk }) S'.I (S'.I.bfr _ hm)
      refine EndsG.after (s := { s with heap := h', toks := tk }) (h' := h'.push KFB.bound) (tk := tk + 1) kpush (fromB_call (p := p) (p2 := p2) (p3 := p3) (s := { s with heap := h'.push KFB.bound, toks := tk + 1 }) S2.I (Heap.get?_push_size _ rfl) hnf hx.plain (iha A fe outer B ev ow ρ γ m cm { s with heap := h'.push KFB.bound, toks := tk + 1 } hs rm S2).1 fun h2 tk2 kp2 => (ihb A fe outer B ev ow ρ γ m cm { s with heap := h2, toks := tk2 } hs rm (S2.step0 kp2)).1) fun Q E hw => ?_
      unfold methodCall
      rw [show ([x, lit "little" p2].length + [({ arg := some "signed", value := y, pos := p3 } : Keyword)].length) = [x, lit "little" p2].length + 1 from rfl, hf]
      have e1 : methodCallPos true (.Name "int" p1) ev p' p = pure p := by unfold methodCallPos; simp [hl]
      exact wpAny_bind (wpAny_holding (O.fbm (s := { s with heap := h', toks := tk }) S'.I.stay (wpAny_bind (wpAny_of_eq e1 hw))))
    exact ⟨key, tr_default S.I key rfl⟩
  | comp ht hsr hnm hok hcv hpo _ _ ihl ihe =>
    intro A fe outer B ev ow ρ γ m cm s hs rm S
    rename_i nm sc elt tgt iter scope p e mm sr xs as names _ _
    have e : Ends K A (frsOf fe outer) B (evE C ρ γ (.comp e mm sr as)) s (eval (.ListComp elt [⟨tgt, iter, [], 0⟩] scope p) ev) := by
      refine comp_ends O ht hsr hpo hnm hok hcv hs rm (fun x a hx ha => ?_) ihl.1 (fun x hx => ?_) ihl.2.length_eq ihe S
      · subst hx; subst ha
        cases ihl.2 with
        | cons h _ => exact h.2
      · exact all2_plain ihl.2 x hx
    exact ⟨e, tr_default S.I e rfl⟩
end Mine
end

section
open PySem PySem.W PySem.Calls PyProof.Rows
namespace Mine

section
variable {K : Cfg} {B B' : Addr → Prop} {h h' : Heap}
/-- as RV.keep: records (exceptions, tracebacks, iterators) may change, no value leans on one -/
theorem codeAt_keepF (hk : ∀ b o, h.get? b = some o → ¬ B b → (∀ vs, o.data ≠ .fields vs) → h'.get? b = some o) (hB : ∀ b o, h.get? b = some o → B' b → B b) {a : Addr} {y : Str} (na : ¬ B a) (x : CodeAt K h B a y) : CodeAt K h' B' a y := by
  obtain ⟨d, es, n, nd, e1, e2, r⟩ := x
  exact ⟨d, es, n, fun q => nd (hB d _ e2 q), hk _ _ e1 na (fun vs q => nomatch q), hk _ _ e2 nd (fun vs q => by unfold dictOf at q; cases q), r⟩
mutual
theorem RV.keepF (hk : ∀ b o, h.get? b = some o → ¬ B b → (∀ vs, o.data ≠ .fields vs) → h'.get? b = some o) (hB : ∀ b o, h.get? b = some o → B' b → B b) : ∀ {f : FV} {x : Value}, RV K h B f x → RV K h' B' f x
  | .none, _, r => r
  | .bool _, _, r => r
  | .int _, _, r => r
  | .str _, _, r => r
  | .bytes _, _, r => r
  | .tup l, x, r => by
    obtain ⟨sz, a, vs, rfl, nb, ⟨o, ho, hc, n, hd⟩, rs⟩ := r
    exact ⟨sz, a, vs, rfl, fun z => nb (hB a o ho z), ⟨o, hk _ _ ho nb (fun vs q => by rw [hd] at q; cases q), hc, n, hd⟩, RVs.keepF hk hB rs⟩
  | .lst l, x, r => by
    obtain ⟨sz, a, vs, rfl, nb, ⟨o, ho, hc, n, hd⟩, rs⟩ := r
    exact ⟨sz, a, vs, rfl, fun z => nb (hB a o ho z), ⟨o, hk _ _ ho nb (fun vs q => by rw [hd] at q; cases q), hc, n, hd⟩, RVs.keepF hk hB rs⟩
  | .dct l, x, r => by
    obtain ⟨sz, a, kvs, rfl, nb, ns, ⟨o, es, ep, ho, hc, hd, q⟩, rs⟩ := r
    exact ⟨sz, a, kvs, rfl, fun z => nb (hB a o ho z), ns, ⟨o, es, ep, hk _ _ ho nb (fun vs q => by rw [hd] at q; cases q), hc, hd, q⟩, RVd.keepF hk hB rs⟩
  | .code y, x, r => by
    obtain ⟨sz, a, rfl, nb, c⟩ := r
    refine ⟨sz, a, rfl, fun z => ?_, codeAt_keepF hk hB nb c⟩
    obtain ⟨d, es, n, nd, e1, _⟩ := c
    exact nb (hB a _ e1 z)
  | .gl _, _, r => r
  | .typ _, _, r => r
theorem RVs.keepF (hk : ∀ b o, h.get? b = some o → ¬ B b → (∀ vs, o.data ≠ .fields vs) → h'.get? b = some o) (hB : ∀ b o, h.get? b = some o → B' b → B b) : ∀ {l : List FV} {vs : List Value}, RVs K h B l vs → RVs K h' B' l vs
  | [], _, r => r
  | f :: l, vs, r => by
    obtain ⟨x, q, rfl, r1, r2⟩ := r
    exact ⟨x, q, rfl, RV.keepF hk hB r1, RVs.keepF hk hB r2⟩
theorem RVd.keepF (hk : ∀ b o, h.get? b = some o → ¬ B b → (∀ vs, o.data ≠ .fields vs) → h'.get? b = some o) (hB : ∀ b o, h.get? b = some o → B' b → B b) : ∀ {l : List (Str × FV)} {vs : List (Str × Value)}, RVd K h B l vs → RVd K h' B' l vs
  | [], _, r => r
  | p :: l, vs, r => by
    obtain ⟨x, q, rfl, r1, r2⟩ := r
    exact ⟨x, q, rfl, RVp.keepF hk hB r1, RVd.keepF hk hB r2⟩
theorem RVp.keepF (hk : ∀ b o, h.get? b = some o → ¬ B b → (∀ vs, o.data ≠ .fields vs) → h'.get? b = some o) (hB : ∀ b o, h.get? b = some o → B' b → B b) : ∀ {p : Str × FV} {x : Str × Value}, RVp K h B p x → RVp K h' B' p x
  | (_, _), _, r => ⟨r.1, RV.keepF hk hB r.2⟩
end
end

/-- what no frozen value leans on: what is fixed, and what is still being made -/
def BO (B₀ : Addr → Prop) (ow : Nat → Option Addr) : Addr → Prop := fun b => B₀ b ∨ ∃ i, ow i = some b
def XO (ev : Env) (pl : Nat → Bool) (ow₀ : Nat → Option Addr) : Addr → Prop := fun b => b = ev.locals ∨ (∃ n, ev.cells.lookup n = some b) ∨ ∃ i, pl i = true ∧ ow₀ i = some b

/-- what holds between two statements: hE is the heap at the block's start; pl are the names whose lists came from outside -/
structure SSt (K : Cfg) (A : Around) (fe : Env) (outer : List Env) (B₀ : Addr → Prop) (pl : Nat → Bool) (ow₀ : Nat → Option Addr) (hE : Heap) (nm : Nms) (ev : Env) (ρ : Env') (h : Heap) : Prop where
  base : K.base.StaysIn hE
  nd : nm.vs.Nodup
  ncs : nm.cs = []
  bl : B₀ ev.locals
  bc : ∀ n c, ev.cells.lookup n = some c → B₀ c
  bfr : ∀ b ∈ frsOf fe outer, B₀ b
  bp : ∀ i a, pl i = true → ow₀ i = some a → B₀ a
  kp : Kp (frsOf fe outer) (XO ev pl ow₀) hE h
  st : ∃ ow m cm, (∀ i, pl i = true → ow i = ow₀ i) ∧ (∀ i a, pl i = false → ow i = some a → ¬ B₀ a ∧ hE.get? a = none) ∧ St K A fe outer (BO B₀ ow) nm ev ow ρ [] m cm h

section
variable {K : Cfg} {A : Around} {fe ev : Env} {outer : List Env} {B₀ : Addr → Prop} {pl : Nat → Bool} {ow₀ : Nat → Option Addr} {hE h h' : Heap} {nm : Nms} {ρ : Env'}
theorem SSt.step0 (S : SSt K A fe outer B₀ pl ow₀ hE nm ev ρ h) (k : Kp (frsOf fe outer) N0 h h') : SSt K A fe outer B₀ pl ow₀ hE nm ev ρ h' := by
  obtain ⟨ow, m, cm, h1, h2, st⟩ := S.st
  exact ⟨S.base, S.nd, S.ncs, S.bl, S.bc, S.bfr, S.bp, S.kp.trans k (fun _ q => q) (fun _ _ _ q => q.elim), ow, m, cm, h1, h2, st.step0 k⟩

/-- a value under a name -/
theorem SSt.store {M : Model} {E : Value → Shared → Prop} {Q : Unit → Shared → Prop} {s : Shared} {i : Nat} {n : Str} {x : Value} {ow : Nat → Option Addr} {m cm : Str → Option Value}
    (S : SSt K A fe outer B₀ pl ow₀ hE nm ev ρ s.heap) (h1 : ∀ i, pl i = true → ow i = ow₀ i) (h2 : ∀ i a, pl i = false → ow i = some a → ¬ B₀ a ∧ hE.get? a = none) (st : St K A fe outer (BO B₀ ow) nm ev ow ρ [] m cm s.heap)
    (hv : nm.vs[i]? = some n) (hk : ev.kindOf n = some .local ∨ ev.kindOf n = some .cell) {v : FV} (r : RV K s.heap (BO B₀ ow) v x)
    (hq : ∀ h' tk, (∀ b o, s.heap.get? b = some o → b ≠ ev.locals → (∀ n, ev.cells.lookup n ≠ some b) → h'.get? b = some o) → SSt K A fe outer B₀ pl ow₀ hE nm ev (setV ρ i (.fv v)) h' → St K A fe outer (BO B₀ ow) nm ev ow (setV ρ i (.fv v)) [] (putM ev n x m) (putC ev n x cm) h' → Q () { s with heap := h', toks := tk }) : wpAny M A (storeName ev n x) Q E s := by
  have hk' : ev.kindOf n = some .local ∨ (ev.kindOf n = some .cell ∧ (ev.cells.lookup n).isSome = true) := hk.imp id fun q => ⟨q, st.W.hc n q⟩
  refine store_seat st.W st.R.fr hk' fun h' tk b seat hs F' hns => ?_
  have hb : B₀ b := by
    rcases seat with ⟨_, rfl⟩ | ⟨_, hc⟩
    · exact S.bl
    · exact S.bc n b hc
  have hbX : XO ev pl ow₀ b := by
    rcases seat with ⟨_, rfl⟩ | ⟨_, hc⟩
    · exact .inl rfl
    · exact .inr (.inl ⟨n, hc⟩)
  have hthere : ∃ o, h'.get? b = some o := by
    rcases seat with ⟨_, rfl⟩ | ⟨_, hc⟩
    · obtain ⟨o, es, ep, ho, _⟩ := F'.ns; exact ⟨o, ho⟩
    · obtain ⟨o, ho, _⟩ := F'.cell n b hc; exact ⟨o, ho⟩
  have kp : Kp (frsOf fe outer) (fun c => c = b) s.heap h' := kp_keep (fun c o q e => hs.extBut c o q e) fun c q => q ▸ hthere
  have hX : ∀ c o, s.heap.get? c = some o → c = b → BO B₀ ow c := fun c o _ q => .inl (q ▸ hb)
  have I' : Inv K A fe outer (BO B₀ ow) h' := st.I.step kp hX fun c _ q => by
    subst q
    rcases seat with ⟨_, rfl⟩ | ⟨_, hc⟩
    · obtain ⟨o, es, ep, ho, hd, _⟩ := F'.ns; exact ⟨o, ho, fun vs q => by rw [hd] at q; cases q⟩
    · obtain ⟨o, ho, hd⟩ := F'.cell n c hc; exact ⟨o, ho, fun vs q => by rw [hd] at q; cases q⟩
  have hne : ∀ (j : Nat) (n' : Str), j ≠ i → nm.vs[j]? = some n' → n' ≠ n := fun j n' hj hn' q => by
    subst q
    exact hj ((List.getElem?_inj (by exact (List.getElem?_eq_some_iff.mp hn').1) S.nd).mp (hn'.trans hv.symm))
  have R' : EnvR K nm ev h' (BO B₀ ow) ow (setV ρ i (.fv v)) [] (putM ev n x m) (putC ev n x cm) := by
    refine ⟨F', fun j n' v' g1 g2 g3 g4 g5 => ?_, fun j n' v' g1 _ => by simp at g1, fun j n' lv g1 g2 g3 => ?_⟩
    · rw [lookV_put hk']
      by_cases hj : j = i
      · subst hj
        rw [hv] at g2; cases g2
        rw [if_pos rfl]
        refine ⟨x, rfl, ?_⟩
        have e : v' = v := by
          unfold setV at g1
          rw [List.getElem?_set] at g1
          simp only [if_true] at g1
          split at g1
          · cases g1; rfl
          · cases g1
        subst e
        exact r.stepX st.I kp hX
      · rw [if_neg (hne j n' hj g2)]
        have g1' : ρ[j]? = some (some (.fv v')) := by unfold setV at g1; rwa [List.getElem?_set_ne (Ne.symm hj)] at g1
        obtain ⟨y, e1, r1⟩ := st.R.fv j n' v' g1' g2 g3 g4 g5
        exact ⟨y, e1, r1.stepX st.I kp hX⟩
    · by_cases hj : j = i
      · subst hj
        exfalso
        unfold setV at g1
        rw [List.getElem?_set] at g1
        simp only [if_true] at g1
        split at g1
        · cases g1; exact g2 v rfl
        · cases g1
      · have g1' : ρ[j]? = some (some lv) := by unfold setV at g1; rwa [List.getElem?_set_ne (Ne.symm hj)] at g1
        obtain ⟨a, e1, e2, e3, e4⟩ := st.R.own j n' lv g1' g2 g3
        refine ⟨a, e1, fun q => ?_, e3, e4.stepX st.I (st.O.1 j a e1).1 ?_ kp hX⟩
        · rw [lookV_put hk', if_neg (hne j n' hj g3)]; exact e2 q
        · rintro rfl
          rcases seat with ⟨_, q⟩ | ⟨_, hc⟩
          · exact (st.O.1 j _ e1).2.1 q
          · exact (st.O.1 j _ e1).2.2 n _ hc rfl
  have st' : St K A fe outer (BO B₀ ow) nm ev ow (setV ρ i (.fv v)) [] (putM ev n x m) (putC ev n x cm) h' := ⟨I', st.W, st.O, R'⟩
  exact hq h' tk (fun c o e n1 n2 => hs.extBut c o (fun q => by
      subst q
      rcases seat with ⟨_, q⟩ | ⟨_, hc⟩
      · exact n1 q
      · exact n2 _ hc) e) ⟨S.base, S.nd, S.ncs, S.bl, S.bc, S.bfr, S.bp, S.kp.trans kp (fun _ q => q) (fun c o _ q => q ▸ hbX), ow, _, _, h1, h2, st'⟩ st'
end
end Mine
end

section
open PySem PySem.W PySem.Calls PyProof.Rows
namespace Mine
section
variable {K : Cfg} {A : Around} {fe ev : Env} {outer : List Env} {B₀ : Addr → Prop} {pl : Nat → Bool} {ow₀ : Nat → Option Addr} {hE h h' : Heap} {nm : Nms} {ρ : Env'}

theorem setV_self {ρ : Env'} {i : Nat} {lv lv' : LV} (h : (setV ρ i lv)[i]? = some (some lv')) : lv' = lv := by
  unfold setV at h
  rw [List.getElem?_set] at h
  simp only [if_true] at h
  split at h
  · cases h; rfl
  · cases h
theorem setV_ne {ρ : Env'} {i j : Nat} {lv : LV} {x : Option (Option LV)} (hj : j ≠ i) (h : (setV ρ i lv)[j]? = x) : ρ[j]? = x := by
  unfold setV at h; rwa [List.getElem?_set_ne (Ne.symm hj)] at h

/-- a list or a dict that is still being made turns into another -/
theorem SSt.turn {i : Nat} {a : Addr} {lv lv' : LV} {n : Str} {ow : Nat → Option Addr} {m cm : Str → Option Value}
    (S : SSt K A fe outer B₀ pl ow₀ hE nm ev ρ h) (h1 : ∀ i, pl i = true → ow i = ow₀ i) (h2 : ∀ i a, pl i = false → ow i = some a → ¬ B₀ a ∧ hE.get? a = none) (st : St K A fe outer (BO B₀ ow) nm ev ow ρ [] m cm h)
    (hi : ow i = some a) (hr : ρ[i]? = some (some lv)) (hn : ∀ v, lv ≠ .fv v) (hs : Heap.SameBut a h h') (ho : Own K h' (BO B₀ ow) a lv') (hf : ∀ v, lv' ≠ .fv v) : SSt K A fe outer B₀ pl ow₀ hE nm ev (setV ρ i lv') h' := by
  have hB : BO B₀ ow a := .inr ⟨i, hi⟩
  have hthere : ∃ o, h'.get? a = some o := by
    cases lv' with
    | fv v => exact absurd rfl (hf v)
    | ml l => obtain ⟨_, _, ⟨_, ho⟩, _⟩ := ho; exact ⟨_, ho⟩
    | md l => obtain ⟨_, _, _, ⟨o, es, ep, ho, _⟩, _⟩ := ho; exact ⟨o, ho⟩
  have kp : Kp (frsOf fe outer) (fun c => c = a) h h' := kp_keep (fun c o q e => hs.extBut c o q e) fun c q => q ▸ hthere
  have hX : ∀ c o, h.get? c = some o → c = a → BO B₀ ow c := fun c o _ q => q ▸ hB
  have I' : Inv K A fe outer (BO B₀ ow) h' := st.I.step kp hX fun c hc q => absurd (q ▸ hc) (st.O.1 i a hi).1
  have R' : EnvR K nm ev h' (BO B₀ ow) ow (setV ρ i lv') [] m cm := by
    refine ⟨⟨ns_slots st.R.fr.ns fun o e => kp.old e fun q => (st.O.1 i a hi).2.1 q.symm, fun n c hc => cell_slots (st.R.fr.cell n c hc) fun o e => kp.old e fun q => (st.O.1 i a hi).2.2 n c hc q⟩, fun j n' v' g1 g2 g3 g4 g5 => ?_, fun j n' v' g1 _ => by simp at g1, fun j n' lw g1 g2 g3 => ?_⟩
    · by_cases hj : j = i
      · subst hj; exact absurd (setV_self g1).symm (hf v')
      · obtain ⟨y, e1, r1⟩ := st.R.fv j n' v' (setV_ne hj g1) g2 g3 g4 g5
        exact ⟨y, e1, r1.stepX st.I kp hX⟩
    · by_cases hj : j = i
      · subst hj
        cases setV_self g1
        obtain ⟨a', e1, e2, e3, e4⟩ := st.R.own j n' lv hr hn g3
        rw [hi] at e1; cases e1
        exact ⟨a, hi, e2, e3, ho⟩
      · obtain ⟨a', e1, e2, e3, e4⟩ := st.R.own j n' lw (setV_ne hj g1) g2 g3
        refine ⟨a', e1, e2, e3, e4.stepX st.I (st.O.1 j a' e1).1 ?_ kp hX⟩
        rintro rfl
        exact hj (st.O.2 j i _ e1 hi)
  refine ⟨S.base, S.nd, S.ncs, S.bl, S.bc, S.bfr, S.bp, S.kp.trans kp (fun _ q => q) (fun c o e q => ?_), ow, _, _, h1, h2, I', st.W, st.O, R'⟩
  subst q
  cases hp : pl i with
  | true => exact .inr (.inr ⟨i, hp, (h1 i hp).symm.trans hi⟩)
  | false => rw [(h2 i _ hp hi).2] at e; cases e

/-- what was being made is done -/
theorem SSt.frz {i : Nat} {lv : LV} {v : FV} (S : SSt K A fe outer B₀ pl ow₀ hE nm ev ρ h) (hp : pl i = false) (hr : ρ[i]? = some (some lv)) (hv : (∃ l, lv = .ml l ∧ v = .lst l) ∨ ∃ l, lv = .md l ∧ v = .dct l) (hn : ∃ n, nm.vs[i]? = some n) :
    SSt K A fe outer B₀ pl ow₀ hE nm ev (setV ρ i (.fv v)) h := by
  obtain ⟨ow, m, cm, h1, h2, st⟩ := S.st
  obtain ⟨n, hn⟩ := hn
  have hnf : ∀ u, lv ≠ .fv u := by rcases hv with ⟨l, rfl, _⟩ | ⟨l, rfl, _⟩ <;> exact fun u q => nomatch q
  obtain ⟨a, e1, e2, e3, e4⟩ := st.R.own i n lv hr hnf hn
  have hnb : ¬ BO B₀ (fun j => if j = i then none else ow j) a := by
    rintro (q | ⟨j, q⟩)
    · exact (h2 i a hp e1).1 q
    · dsimp only at q
      split at q
      · cases q
      · rename_i hj; exact hj (st.O.2 j i a q e1)
  have hB : ∀ b, BO B₀ (fun j => if j = i then none else ow j) b → BO B₀ ow b := fun b q => q.imp id fun ⟨j, q⟩ => ⟨j, by dsimp only at q; split at q; cases q; exact q⟩
  have hBa : ∀ b o, h.get? b = some o → BO B₀ (fun j => if j = i then none else ow j) b → BO B₀ ow b := fun b o _ => hB b
  have keep : ∀ b o, h.get? b = some o → ¬ BO B₀ ow b → h.get? b = some o := fun _ _ e _ => e
  have I' : Inv K A fe outer (BO B₀ (fun j => if j = i then none else ow j)) h := ⟨st.I.stay, st.I.frs, st.I.ff, fun b hb => .inl (S.bfr b hb), fun b hb => st.I.bb b (hB b hb), st.I.hd⟩
  refine ⟨S.base, S.nd, S.ncs, S.bl, S.bc, S.bfr, S.bp, S.kp, (fun j => if j = i then none else ow j), m, cm, fun j hj => ?_, fun j b hj q => ?_, I', ?_, ⟨fun j b q => ?_, fun j k b q q' => ?_⟩, st.R.fr, fun j n' v' g1 g2 g3 g4 g5 => ?_, fun j n' v' g1 _ => by simp at g1, fun j n' lw g1 g2 g3 => ?_⟩
  · dsimp only
    rw [if_neg (by rintro rfl; rw [hp] at hj; cases hj)]; exact h1 j hj
  · dsimp only at q
    split at q
    · cases q
    · exact h2 j b hj q
  · exact ⟨st.W.kind, st.W.gl, st.W.bl, st.W.frame, .inl S.bl, fun n c hc => .inl (S.bc n c hc), st.W.hc, st.W.apart⟩
  · dsimp only at q
    split at q
    · cases q
    · exact st.O.1 j b q
  · dsimp only at q q'
    split at q
    · cases q
    · split at q'
      · cases q'
      · exact st.O.2 j k b q q'
  · by_cases hj : j = i
    · subst hj
      have ev' := setV_self g1
      cases ev'
      rw [hn] at g2; cases g2
      refine ⟨.ref a, e2 S.ncs, ?_⟩
      rcases hv with ⟨l, rfl, rfl⟩ | ⟨l, rfl, rfl⟩
      · obtain ⟨sz, ys, hl, rs⟩ := e4
        exact ⟨sz, a, ys, rfl, hnb, hl.isList, rs.keep keep hBa⟩
      · obtain ⟨sz, kvs, ns, hl, rs⟩ := e4
        exact ⟨sz, a, kvs, rfl, hnb, ns, hl, rs.keep keep hBa⟩
    · obtain ⟨y, f1, r1⟩ := st.R.fv j n' v' (setV_ne hj g1) g2 g3 g4 g5
      exact ⟨y, f1, r1.keep keep hBa⟩
  · by_cases hj : j = i
    · subst hj; exact absurd (setV_self g1) (g2 v)
    · obtain ⟨a', f1, f2, f3, f4⟩ := st.R.own j n' lw (setV_ne hj g1) g2 g3
      refine ⟨a', ?_, f2, .inr ⟨j, ?_⟩, ?_⟩
      · show (if j = i then none else ow j) = some a'
        rw [if_neg hj]; exact f1
      · show (if j = i then none else ow j) = some a'
        rw [if_neg hj]; exact f1
      · cases lw with
        | fv _ => exact f4
        | ml l => obtain ⟨sz, ys, hl, rs⟩ := f4; exact ⟨sz, ys, hl, rs.keep keep hBa⟩
        | md l => obtain ⟨sz, kvs, ns, hl, rs⟩ := f4; exact ⟨sz, kvs, ns, hl, rs.keep keep hBa⟩

/-- a new list or dict under a name -/
theorem SSt.fresh {M : Model} {E : Value → Shared → Prop} {Q : Unit → Shared → Prop} {s : Shared} {i : Nat} {n : Str} {D : Addr} {lv : LV} {h₁ : Heap}
    (S : SSt K A fe outer B₀ pl ow₀ hE nm ev ρ h₁) (hp : pl i = false) (hv : nm.vs[i]? = some n) (hk : ev.kindOf n = some .local ∨ ev.kindOf n = some .cell) (kp : Kp (frsOf fe outer) N0 h₁ s.heap) (hD : h₁.get? D = none) (hDs : ∃ o, s.heap.get? D = some o)
    (ho : (lv = .ml [] ∧ s.heap.PlainList D #[]) ∨ (lv = .md [] ∧ (D == sysModules) = false ∧ s.heap.DictOf (strKind K.prog K.w) D []))
    (hq : ∀ h' tk, (∀ b o, s.heap.get? b = some o → b ≠ ev.locals → (∀ n, ev.cells.lookup n ≠ some b) → h'.get? b = some o) → SSt K A fe outer B₀ pl ow₀ hE nm ev (setV ρ i lv) h' → Q () { s with heap := h', toks := tk }) : wpAny M A (storeName ev n (.ref D)) Q E s := by
  obtain ⟨ow, m, cm, h1, h2, st⟩ := S.st
  have st₁ := st.step0 kp
  have hk' : ev.kindOf n = some .local ∨ (ev.kindOf n = some .cell ∧ (ev.cells.lookup n).isSome = true) := hk.imp id fun q => ⟨q, st.W.hc n q⟩
  have hnf : ∀ u, lv ≠ .fv u := by rcases ho with ⟨rfl, _⟩ | ⟨rfl, _⟩ <;> exact fun u q => nomatch q
  have old : ∀ b, BO B₀ ow b → b ≠ D := fun b hb q => by obtain ⟨o, ho⟩ := (st.I.bb b hb).2; rw [q, hD] at ho; cases ho
  refine store_seat st₁.W st₁.R.fr hk' fun h' tk b seat hs F' hns => ?_
  have hb : B₀ b := by
    rcases seat with ⟨_, rfl⟩ | ⟨_, hc⟩
    · exact S.bl
    · exact S.bc n b hc
  have hbX : XO ev pl ow₀ b := by
    rcases seat with ⟨_, rfl⟩ | ⟨_, hc⟩
    · exact .inl rfl
    · exact .inr (.inl ⟨n, hc⟩)
  have hbD : b ≠ D := old b (.inl hb)
  have hthere : ∃ o, h'.get? b = some o := by
    rcases seat with ⟨_, rfl⟩ | ⟨_, hc⟩
    · obtain ⟨o, es, ep, ho, _⟩ := F'.ns; exact ⟨o, ho⟩
    · obtain ⟨o, ho, _⟩ := F'.cell n b hc; exact ⟨o, ho⟩
  let ow' : Nat → Option Addr := fun j => if j = i then some D else ow j
  have kpb : Kp (frsOf fe outer) (fun c => c = b) s.heap h' := kp_keep (fun c o q e => hs.extBut c o q e) fun c q => q ▸ hthere
  have kp' : Kp (frsOf fe outer) (fun c => c = b) h₁ h' := kp.trans kpb (fun _ q => q.elim) (fun _ _ _ q => q)
  have hX : ∀ c o, h₁.get? c = some o → c = b → BO B₀ ow c := fun c o _ q => .inl (q ▸ hb)
  have hDl : ∀ c, BO B₀ ow' c → BO B₀ ow c ∨ c = D := fun c q => by
    rcases q with q | ⟨j, q⟩
    · exact .inl (.inl q)
    · dsimp only [ow'] at q
      split at q
      · cases q; exact .inr rfl
      · exact .inl (.inr ⟨j, q⟩)
  have hBa : ∀ c o, h₁.get? c = some o → BO B₀ ow' c → BO B₀ ow c := fun c o e q => (hDl c q).elim id fun q => by rw [q, hD] at e; cases e
  have keep : ∀ c o, h₁.get? c = some o → ¬ BO B₀ ow c → h'.get? c = some o := fun c o e nb => kp'.keep c o e (fun q => nb (.inl (q ▸ hb))) fun q => nb (.inl (S.bfr c q))
  have hDo : ∃ o, h'.get? D = some o := by obtain ⟨o, ho⟩ := hDs; exact ⟨o, hs.extBut D o (Ne.symm hbD) ho⟩
  have hDE : hE.get? D = none := gone S.kp hD
  have I' : Inv K A fe outer (BO B₀ ow) h' := st₁.I.step kpb (fun c o _ q => .inl (q ▸ hb)) fun c _ q => by
    subst q
    rcases seat with ⟨_, rfl⟩ | ⟨_, hc⟩
    · obtain ⟨o, es, ep, ho, hd, _⟩ := F'.ns; exact ⟨o, ho, fun vs q => by rw [hd] at q; cases q⟩
    · obtain ⟨o, ho, hd⟩ := F'.cell n c hc; exact ⟨o, ho, fun vs q => by rw [hd] at q; cases q⟩
  have I'' : Inv K A fe outer (BO B₀ ow') h' := by
    refine ⟨I'.stay, I'.frs, I'.ff, fun b hb => .inl (S.bfr b hb), fun c hc => ?_, I'.hd⟩
    rcases hDl c hc with q | rfl
    · exact I'.bb c q
    · refine ⟨?_, hDo⟩
      cases e : K.base.get? c with
      | none => rfl
      | some o => have := st.I.stay c o e; rw [hD] at this; cases this
  have hne : ∀ (j : Nat) (n' : Str), j ≠ i → nm.vs[j]? = some n' → n' ≠ n := fun j n' hj hn' q => by
    subst q
    exact hj ((List.getElem?_inj (by exact (List.getElem?_eq_some_iff.mp hn').1) S.nd).mp (hn'.trans hv.symm))
  refine hq h' tk (fun c o e n1 n2 => hs.extBut c o (fun q => by
      subst q
      rcases seat with ⟨_, q⟩ | ⟨_, hc⟩
      · exact n1 q
      · exact n2 _ hc) e) ⟨S.base, S.nd, S.ncs, S.bl, S.bc, S.bfr, S.bp, (S.kp.trans kp (fun _ q => q) fun _ _ _ q => q.elim).trans kpb (fun _ q => q) (fun c o _ q => q ▸ hbX), ow', _, _, fun j hj => ?_, fun j c hj q => ?_, I'', ?_, ⟨fun j c q => ?_, fun j k c q q' => ?_⟩, F', fun j n' v' g1 g2 g3 g4 g5 => ?_, fun j n' v' g1 _ => by simp at g1, fun j n' lw g1 g2 g3 => ?_⟩
  · show (if j = i then some D else ow j) = _
    rw [if_neg (by rintro rfl; rw [hp] at hj; cases hj)]; exact h1 j hj
  · dsimp only [ow'] at q
    split at q
    · cases q
      exact ⟨fun q => old _ (.inl q) rfl, hDE⟩
    · exact h2 j c hj q
  · exact ⟨st.W.kind, st.W.gl, st.W.bl, st.W.frame, .inl S.bl, fun n c hc => .inl (S.bc n c hc), st.W.hc, st.W.apart⟩
  · dsimp only [ow'] at q
    split at q
    · cases q
      exact ⟨fun q => old _ (.inl (S.bfr _ q)) rfl, fun q => old _ (.inl S.bl) q.symm, fun n c hc q => old c (.inl (S.bc n c hc)) q⟩
    · exact st.O.1 j c q
  · dsimp only [ow'] at q q'
    split at q
    · split at q'
      · rename_i hj hk; rw [hj, hk]
      · cases q
        exact absurd rfl (old _ (.inr ⟨k, q'⟩))
    · split at q'
      · cases q'
        exact absurd rfl (old _ (.inr ⟨j, q⟩))
      · exact st.O.2 j k c q q'
  · rw [lookV_put hk']
    by_cases hj : j = i
    · subst hj; exact absurd (setV_self g1).symm (hnf v')
    · rw [if_neg (hne j n' hj g2)]
      obtain ⟨y, f1, r1⟩ := st.R.fv j n' v' (setV_ne hj g1) g2 g3 g4 g5
      exact ⟨y, f1, r1.keep keep hBa⟩
  · rw [lookV_put hk']
    by_cases hj : j = i
    · subst hj
      cases setV_self g1
      rw [hv] at g3; cases g3
      refine ⟨D, if_pos rfl, fun _ => if_pos rfl, .inr ⟨j, if_pos rfl⟩, ?_⟩
      rcases ho with ⟨rfl, ho⟩ | ⟨rfl, ns, ⟨o, es, ep, ho, q⟩⟩
      · exact ⟨Nat.zero_le _, [], ho.at fun o ho => hs.extBut D o (Ne.symm hbD) ho, rfl⟩
      · exact ⟨Nat.zero_le _, [], ns, ⟨o, es, ep, hs.extBut D o (Ne.symm hbD) ho, q⟩, rfl⟩
    · obtain ⟨a', f1, f2, f3, f4⟩ := st.R.own j n' lw (setV_ne hj g1) g2 g3
      have fa : (fun j => if j = i then some D else ow j) j = some a' := by dsimp only; rw [if_neg hj]; exact f1
      have nab : a' ≠ b := by
        rintro rfl
        rcases seat with ⟨_, q⟩ | ⟨_, hc⟩
        · exact (st.O.1 j _ f1).2.1 q
        · exact (st.O.1 j _ f1).2.2 n _ hc rfl
      have up : ∀ o, h₁.get? a' = some o → h'.get? a' = some o := fun o e => kp'.keep a' o e nab (st.O.1 j a' f1).1
      refine ⟨a', fa, fun q => by rw [if_neg (hne j n' hj g3)]; exact f2 q, .inr ⟨j, fa⟩, ?_⟩
      cases lw with
      | fv _ => exact f4
      | ml l => obtain ⟨sz, ys, hl, rs⟩ := f4; exact ⟨sz, ys, hl.at fun o ho => up o ho, rs.keep keep hBa⟩
      | md l => obtain ⟨sz, kvs, ns, ⟨o, es, ep, ho, q⟩, rs⟩ := f4; exact ⟨sz, kvs, ns, ⟨o, es, ep, up o ho, q⟩, rs.keep keep hBa⟩
end
end Mine
end

section
open PySem PySem.W PySem.Calls PyProof.Rows
namespace Mine

/-- an exception on its way through a frame: at rest, or in flight in this very frame -/
structure ExcS (K : Cfg) (fe : Env) (k : EK) (a : Addr) (h₀ h : Heap) : Prop where
  new : h₀.get? a = none
  at_ : ∃ t tb cx c3 c4 c5 sl dd, h.get? a = some ⟨clsV K k.cls, dd, .fields #[.ref t, tb, cx, c3, c4, c5], sl⟩ ∧
    (tb = .none ∨ ∃ T oT ts, tb = .ref T ∧ h₀.get? T = none ∧ T ≠ a ∧ h.get? T = some oT ∧ oT.data = .fields ts ∧ (ts[3]? = some .none ∨ ∃ L, fe.frame = some L ∧ ts[3]? = some (rawInt L))) ∧
    (∀ n, k.cls = .blt n → cx = .none) ∧
    (∀ x, k.msg = some x → h₀.get? t = none ∧ ∃ tk, IsTup h t #[.str x tk])
theorem ExcAt.toS {K : Cfg} {fe : Env} {k : EK} {a : Addr} {h₀ h : Heap} (x : ExcAt K k a h₀ h) : ExcS K fe k a h₀ h := by
  obtain ⟨n1, t, tb, cx, c3, c4, c5, sl, dd, e, q, c, m⟩ := x
  refine ⟨n1, t, tb, cx, c3, c4, c5, sl, dd, e, ?_, c, m⟩
  rcases q with q | ⟨T, oT, ts, q1, q2, q3, q4, q5, q6⟩
  · exact .inl q
  · exact .inr ⟨T, oT, ts, q1, q2, q3, q4, q5, .inl q6⟩

def FlR (K : Cfg) (h : Heap) (B₀ : Addr → Prop) : Fl → Flow → Prop
  | .next, f => f = .next
  | .ret v, f => ∃ x, f = .ret x ∧ RV K h B₀ v x

/-- a tree of a statement ends as the abstract answer says -/
def EndsP (K : Cfg) (A : Around) (fe : Env) (outer : List Env) (B₀ : Addr → Prop) (pl : Nat → Bool) (ow₀ : Nat → Option Addr) (hE : Heap) (nm : Nms) (ev : Env) (r : SR) (s : Shared) (P : (Flow → Shared → Prop) → (Value → Shared → Prop) → Prop) : Prop := match r with
  | .no => True
  | .ok f ρ' => ∀ (Q : Flow → Shared → Prop) (E : Value → Shared → Prop), (∀ fl h' tk, SSt K A fe outer B₀ pl ow₀ hE nm ev ρ' h' → FlR K h' B₀ f fl → Q fl { s with heap := h', toks := tk }) → P Q E
  | .exc e ρ' => ∀ (Q : Flow → Shared → Prop) (E : Value → Shared → Prop), (∀ a h' tk, SSt K A fe outer B₀ pl ow₀ hE nm ev ρ' h' → ExcS K fe e a hE h' → E (.ref a) { s with heap := h', toks := tk }) → P Q E
abbrev EndsS (K : Cfg) (A : Around) (fe : Env) (outer : List Env) (B₀ : Addr → Prop) (pl : Nat → Bool) (ow₀ : Nat → Option Addr) (hE : Heap) (nm : Nms) (ev : Env) (r : SR) (s : Shared) (t : Sem Flow) : Prop :=
  EndsP K A fe outer B₀ pl ow₀ hE nm ev r s fun Q E => wpAny (model K.prog K.w) A t Q E s

section
variable {K : Cfg} {A : Around} {fe ev : Env} {outer : List Env} {B₀ : Addr → Prop} {pl : Nat → Bool} {ow₀ : Nat → Option Addr} {hE : Heap} {nm : Nms} {ρ : Env'} {s : Shared}

theorem EndsP.via {r : SR} {P P' : (Flow → Shared → Prop) → (Value → Shared → Prop) → Prop} (h : EndsP K A fe outer B₀ pl ow₀ hE nm ev r s P) (w : ∀ Q E, P Q E → P' Q E) : EndsP K A fe outer B₀ pl ow₀ hE nm ev r s P' := by
  cases r with
  | no => trivial
  | ok f ρ' => exact fun Q E hQ => w _ _ (h Q E hQ)
  | exc e ρ' => exact fun Q E hQ => w _ _ (h Q E hQ)

theorem EndsP.expr {B : Addr → Prop} {r : Res FV} {f : FV → SR} {t : Sem Value} {P : (Flow → Shared → Prop) → (Value → Shared → Prop) → Prop} {P' : Value → Shared → (Flow → Shared → Prop) → (Value → Shared → Prop) → Prop}
    (S : SSt K A fe outer B₀ pl ow₀ hE nm ev ρ s.heap) (h : Ends K A (frsOf fe outer) B r s t) (w : ∀ Q E, wpAny (model K.prog K.w) A t (fun v s₁ => P' v s₁ Q E) E s → P Q E)
    (ok : ∀ v x h' tk, r = .ok v → Kp (frsOf fe outer) N0 s.heap h' → RV K h' B v x → EndsP K A fe outer B₀ pl ow₀ hE nm ev (f v) { s with heap := h', toks := tk } (P' x { s with heap := h', toks := tk })) :
    EndsP K A fe outer B₀ pl ow₀ hE nm ev (thenE r ρ f) s P := by
  cases r with
  | no => trivial
  | exc e => exact fun Q E hE => w Q E (h _ _ fun a h' tk kp x => hE a h' tk (S.step0 kp) ((x.low S.kp).toS))
  | ok v =>
    show EndsP K A fe outer B₀ pl ow₀ hE nm ev (f v) s P
    cases hf : f v with
    | no => trivial
    | ok fl ρ' =>
      intro Q E hQ
      refine w Q E (h _ _ fun x h' tk kp rv => ?_)
      have := ok v x h' tk rfl kp rv
      rw [hf] at this
      exact this Q E hQ
    | exc e ρ' =>
      intro Q E hQ
      refine w Q E (h _ _ fun x h' tk kp rv => ?_)
      have := ok v x h' tk rfl kp rv
      rw [hf] at this
      exact this Q E hQ

/-- the truth of an expression, then one of two -/
theorem EndsP.test {r : Res FV} {ra rb : SR} {t : Sem Bool} {P : (Flow → Shared → Prop) → (Value → Shared → Prop) → Prop} {P' : Bool → Shared → (Flow → Shared → Prop) → (Value → Shared → Prop) → Prop}
    (S : SSt K A fe outer B₀ pl ow₀ hE nm ev ρ s.heap) (h : EndsB K A (frsOf fe outer) (resT r) s t) (w : ∀ Q E, wpAny (model K.prog K.w) A t (fun b s₁ => P' b s₁ Q E) E s → P Q E)
    (ha : ∀ h' tk, Kp (frsOf fe outer) N0 s.heap h' → EndsP K A fe outer B₀ pl ow₀ hE nm ev ra { s with heap := h', toks := tk } (P' true { s with heap := h', toks := tk }))
    (hb : ∀ h' tk, Kp (frsOf fe outer) N0 s.heap h' → EndsP K A fe outer B₀ pl ow₀ hE nm ev rb { s with heap := h', toks := tk } (P' false { s with heap := h', toks := tk })) :
    EndsP K A fe outer B₀ pl ow₀ hE nm ev (thenE r ρ fun v => match v.truth with | some true => ra | some false => rb | Option.none => .no) s P := by
  cases r with
  | no => trivial
  | exc e => exact fun Q E hE => w Q E (h _ _ fun a h' tk kp x => hE a h' tk (S.step0 kp) ((x.low S.kp).toS))
  | ok v =>
    unfold resT at h
    simp only [Res.bind_ok] at h
    unfold thenE
    dsimp only
    cases hv : v.truth with
    | none => trivial
    | some b =>
      rw [hv] at h
      cases b with
      | true =>
        dsimp only
        cases hr : ra with
        | no => trivial
        | ok fl ρ' => exact fun Q E hQ => w Q E (h _ _ fun x h' tk kp rv => by cases rv; have := ha h' tk kp; rw [hr] at this; exact this Q E hQ)
        | exc e ρ' => exact fun Q E hQ => w Q E (h _ _ fun x h' tk kp rv => by cases rv; have := ha h' tk kp; rw [hr] at this; exact this Q E hQ)
      | false =>
        dsimp only
        cases hr : rb with
        | no => trivial
        | ok fl ρ' => exact fun Q E hQ => w Q E (h _ _ fun x h' tk kp rv => by cases rv; have := hb h' tk kp; rw [hr] at this; exact this Q E hQ)
        | exc e ρ' => exact fun Q E hQ => w Q E (h _ _ fun x h' tk kp rv => by cases rv; have := hb h' tk kp; rw [hr] at this; exact this Q E hQ)

/-- one statement, then what stands behind -/
theorem EndsP.seq {r : SR} {f : Env' → SR} {P : (Flow → Shared → Prop) → (Value → Shared → Prop) → Prop} {P' : (Flow → Shared → Prop) → (Value → Shared → Prop) → Prop} {P'' : Shared → (Flow → Shared → Prop) → (Value → Shared → Prop) → Prop}
    (h : EndsP K A fe outer B₀ pl ow₀ hE nm ev r s P') (w : ∀ Q E, P' (fun fl s₁ => match fl with | .next => P'' s₁ Q E | fl => Q fl s₁) E → P Q E)
    (hn : ∀ ρ' h' tk, r = .ok .next ρ' → SSt K A fe outer B₀ pl ow₀ hE nm ev ρ' h' → EndsP K A fe outer B₀ pl ow₀ hE nm ev (f ρ') { s with heap := h', toks := tk } (P'' { s with heap := h', toks := tk })) :
    EndsP K A fe outer B₀ pl ow₀ hE nm ev (match r with | .ok .next ρ' => f ρ' | o => o) s P := by
  cases r with
  | no => trivial
  | exc e ρ' => exact fun Q E hQ => w Q E (h _ _ hQ)
  | ok fl ρ' =>
    cases fl with
    | ret v =>
      intro Q E hQ
      refine w Q E (h _ _ fun fl h' tk S' r' => ?_)
      obtain ⟨x, rfl, rv⟩ := r'
      exact hQ _ h' tk S' ⟨x, rfl, rv⟩
    | next =>
      show EndsP K A fe outer B₀ pl ow₀ hE nm ev (f ρ') s P
      cases hf : f ρ' with
      | no => trivial
      | ok fl2 ρ2 =>
        intro Q E hQ
        refine w Q E (h _ _ fun fl h' tk S' r' => ?_)
        cases r'
        have := hn ρ' h' tk rfl S'
        rw [hf] at this
        exact this Q E hQ
      | exc e ρ2 =>
        intro Q E hQ
        refine w Q E (h _ _ fun fl h' tk S' r' => ?_)
        cases r'
        have := hn ρ' h' tk rfl S'
        rw [hf] at this
        exact this Q E hQ

/-- what an expression of the block needs -/
theorem SSt.exp {C : CallT} {n : Nat} {sc : Scope} {x : Expr} {a : CE} (S : SSt K A fe outer B₀ pl ow₀ hE nm ev ρ s.heap) (h : SE K C n nm sc x a) (hs : ev.scope = sc) (rm : Room A n) :
    ∃ B, (∀ b, B₀ b → B b) ∧ Ends K A (frsOf fe outer) B (evE C ρ [] a) s (eval x ev) ∧ EndsB K A (frsOf fe outer) (resT (evE C ρ [] a)) s (isTrue x ev (eval x ev)) := by
  obtain ⟨ow, m, cm, h1, h2, st⟩ := S.st
  exact ⟨BO B₀ ow, fun b q => .inl q, h A fe outer _ ev ow ρ [] m cm s hs rm st⟩
end
end Mine
end

section
open PySem PySem.W PySem.Calls PyProof.Rows
namespace Mine
section
variable {K : Cfg} {A : Around} {fe ev : Env} {outer : List Env} {B₀ : Addr → Prop} {pl : Nat → Bool} {ow₀ : Nat → Option Addr} {hE h h' : Heap} {nm : Nms} {ρ : Env'}

theorem ExcS.low {X : Addr → Prop} {fr : List Addr} {k : EK} {a : Addr} {h₀ h₁ : Heap} (x : ExcS K fe k a h₁ h) (kp : Kp fr X h₀ h₁) : ExcS K fe k a h₀ h := by
  obtain ⟨n1, t, tb, cx, c3, c4, c5, sl, dd, e, q, c, m⟩ := x
  refine ⟨gone kp n1, t, tb, cx, c3, c4, c5, sl, dd, e, ?_, c, fun y hy => ⟨gone kp (m y hy).1, (m y hy).2⟩⟩
  rcases q with q | ⟨T, oT, ts, q1, q2, q3⟩
  · exact .inl q
  · exact .inr ⟨T, oT, ts, q1, gone kp q2, q3⟩

theorem Kp.then_butX {fr : List Addr} {X N : Addr → Prop} {h₀ h h' : Heap} (k : Kp fr X h₀ h) (hN : ∀ b, N b → h₀.get? b = none) (hk : ∀ b o, ¬ N b → h.get? b = some o → h'.get? b = some o) : Kp fr X h₀ h' := by
  have nn : ∀ b o, h₀.get? b = some o → ¬ N b := fun b o e q => by rw [hN b q] at e; cases e
  refine ⟨fun b o e => ?_, fun b o e n0 nf => hk b o (nn b o e) (k.keep b o e n0 nf), fun b o e n0 hf => ?_⟩
  · obtain ⟨o', e'⟩ := k.there b o e
    exact ⟨o', hk b o' (nn b o e) e'⟩
  · obtain ⟨sl, e'⟩ := k.slots b o e n0 hf
    exact ⟨sl, hk b _ (nn b o e) e'⟩

/-- records that are new to the block may turn: no value leans on one -/
theorem SSt.calm {N : Addr → Prop} (S : SSt K A fe outer B₀ pl ow₀ hE nm ev ρ h) (k : Kp (frsOf fe outer) N h h') (hN : ∀ b, N b → hE.get? b = none) (hf : ∀ b o, N b → h.get? b = some o → ∃ vs, o.data = .fields vs) : SSt K A fe outer B₀ pl ow₀ hE nm ev ρ h' := by
  obtain ⟨ow, m, cm, h1, h2, st⟩ := S.st
  have nf : ∀ b o, h.get? b = some o → (∀ vs, o.data ≠ .fields vs) → ¬ N b := fun b o e q n => by obtain ⟨vs, e'⟩ := hf b o n e; exact q vs e'
  have keepF : ∀ b o, h.get? b = some o → ¬ BO B₀ ow b → (∀ vs, o.data ≠ .fields vs) → h'.get? b = some o := fun b o e nb q => k.keep b o e (nf b o e q) fun z => nb (.inl (S.bfr b z))
  have old : ∀ b o, h.get? b = some o → (∀ vs, o.data ≠ .fields vs) → ∃ sl, h'.get? b = some { o with slots := sl } := fun b o e q => k.old e (nf b o e q)
  have hB : ∀ b o, h.get? b = some o → BO B₀ ow b → BO B₀ ow b := fun _ _ _ q => q
  have I' : Inv K A fe outer (BO B₀ ow) h' := by
    refine ⟨fun b o e => ?_, st.I.frs, ?_, st.I.bfr, fun b hb => ⟨(st.I.bb b hb).1, let ⟨o, e⟩ := (st.I.bb b hb).2; k.there b o e⟩, st.I.hd⟩
    · refine k.keep b o (st.I.stay b o e) (fun q => ?_) (fun q => ?_)
      · have := S.base b o e; rw [hN b q] at this; cases this
      · have := (st.I.bb b (st.I.bfr b q)).1; rw [e] at this; cases this
    · refine funFrames_of st.I.ff fun b hb o ho hd => ?_
      obtain ⟨sl, e⟩ := old b o ho hd
      exact ⟨_, e, hd⟩
  refine ⟨S.base, S.nd, S.ncs, S.bl, S.bc, S.bfr, S.bp, S.kp.trans k (fun _ q => q) (fun b o e q => by rw [hN b q] at e; cases e), ow, m, cm, h1, h2, I', st.W, st.O, ⟨?_, fun n c hc => ?_⟩, fun i n v g1 g2 g3 g4 g5 => ?_, fun i n v g1 _ => by simp at g1, fun i n lv g1 g2 g3 => ?_⟩
  · obtain ⟨o, es, ep, ho, hd, r⟩ := st.R.fr.ns
    obtain ⟨sl, e⟩ := old _ o ho fun vs q => by rw [hd] at q; cases q
    exact ⟨_, es, ep, e, hd, r⟩
  · obtain ⟨o, ho, hd⟩ := st.R.fr.cell n c hc
    obtain ⟨sl, e⟩ := old _ o ho fun vs q => by rw [hd] at q; cases q
    exact ⟨_, e, hd⟩
  · obtain ⟨x, e1, r1⟩ := st.R.fv i n v g1 g2 g3 g4 g5
    exact ⟨x, e1, r1.keepF keepF hB⟩
  · obtain ⟨a, e1, e2, e3, e4⟩ := st.R.own i n lv g1 g2 g3
    refine ⟨a, e1, e2, e3, ?_⟩
    cases lv with
    | fv _ => exact e4
    | ml l =>
      obtain ⟨sz, ys, ⟨n, ho⟩, rs⟩ := e4
      exact ⟨sz, ys, ⟨n, k.keep a _ ho (nf a _ ho fun vs q => nomatch q) (st.O.1 i a e1).1⟩, rs.keepF keepF hB⟩
    | md l =>
      obtain ⟨sz, kvs, ns, ⟨o, es, ep, ho, hc, hd, q⟩, rs⟩ := e4
      exact ⟨sz, kvs, ns, ⟨o, es, ep, k.keep a o ho (nf a o ho fun vs q => by rw [hd] at q; cases q) (st.O.1 i a e1).1, hc, hd, q⟩, rs.keepF keepF hB⟩
end
end Mine

namespace Mine
/-- an exception, with or without (o) a traceback; V tells what its first record's flight is -/
def ExcV (K : Cfg) (k : EK) (a : Addr) (h₀ h : Heap) (V : Value → Prop) (o : Bool) : Prop :=
  h₀.get? a = none ∧ ∃ t tb cx c3 c4 c5 sl dd, h.get? a = some ⟨clsV K k.cls, dd, .fields #[.ref t, tb, cx, c3, c4, c5], sl⟩ ∧
    ((o = true ∧ tb = .none) ∨ ∃ T oT ts fl, tb = .ref T ∧ h₀.get? T = none ∧ T ≠ a ∧ h.get? T = some oT ∧ oT.data = .fields ts ∧ ts[3]? = some fl ∧ V fl) ∧
    (∀ n, k.cls = .blt n → cx = .none) ∧
    (∀ x, k.msg = some x → h₀.get? t = none ∧ ∃ tk, IsTup h t #[.str x tk])
theorem ExcS.toV {K : Cfg} {fe : Env} {k : EK} {a : Addr} {h₀ h : Heap} (x : ExcS K fe k a h₀ h) : ExcV K k a h₀ h (fun fl => fl = .none ∨ ∃ L, fe.frame = some L ∧ fl = rawInt L) true := by
  obtain ⟨n1, t, tb, cx, c3, c4, c5, sl, dd, e, q, c, m⟩ := x
  refine ⟨n1, t, tb, cx, c3, c4, c5, sl, dd, e, ?_, c, m⟩
  rcases q with q | ⟨T, oT, ts, q1, q2, q3, q4, q5, q6⟩
  · exact .inl ⟨rfl, q⟩
  · rcases q6 with q6 | ⟨L, q6, q7⟩
    · exact .inr ⟨T, oT, ts, _, q1, q2, q3, q4, q5, q6, .inl rfl⟩
    · exact .inr ⟨T, oT, ts, _, q1, q2, q3, q4, q5, q7, .inr ⟨L, q6, rfl⟩⟩
theorem ExcV.toS {K : Cfg} {fe : Env} {k : EK} {a : Addr} {h₀ h : Heap} {V : Value → Prop} {o : Bool} (hV : ∀ fl, V fl → fl = .none ∨ ∃ L, fe.frame = some L ∧ fl = rawInt L) (x : ExcV K k a h₀ h V o) : ExcS K fe k a h₀ h := by
  obtain ⟨n1, t, tb, cx, c3, c4, c5, sl, dd, e, q, c, m⟩ := x
  refine ⟨n1, t, tb, cx, c3, c4, c5, sl, dd, e, ?_, c, m⟩
  rcases q with q | ⟨T, oT, ts, fl, q1, q2, q3, q4, q5, q6, q7⟩
  · exact .inl q.2
  · rcases hV _ q7 with rfl | ⟨L, hL, rfl⟩
    · exact .inr ⟨T, oT, ts, q1, q2, q3, q4, q5, .inl q6⟩
    · exact .inr ⟨T, oT, ts, q1, q2, q3, q4, q5, .inr ⟨L, hL, q6⟩⟩
theorem ExcV.toAt {K : Cfg} {k : EK} {a : Addr} {h₀ h : Heap} {V : Value → Prop} {o : Bool} (hV : ∀ fl, V fl → fl = .none) (x : ExcV K k a h₀ h V o) : ExcAt K k a h₀ h := by
  obtain ⟨n1, t, tb, cx, c3, c4, c5, sl, dd, e, q, c, m⟩ := x
  refine ⟨n1, t, tb, cx, c3, c4, c5, sl, dd, e, ?_, c, m⟩
  rcases q with q | ⟨T, oT, ts, fl, q1, q2, q3, q4, q5, q6, q7⟩
  · exact .inl q.2
  · rw [hV _ q7] at q6
    exact .inr ⟨T, oT, ts, q1, q2, q3, q4, q5, q6⟩

section
variable {K : Cfg} {A : Around} {fe ev : Env} {outer : List Env} {s : Shared} {E : Value → Shared → Prop}

/-- a record of this frame is put ahead of an exception's traceback -/
theorem entry_ok {M : Model} {e L : Addr} {oe : Obj} {vs : Array Value} {head : Value} {hadNext : Bool} {Q : Unit → Shared → Prop} {base : Heap} (hfr : A.frames = some (fe :: outer)) (hl : s.heap.FunFrames base (fe :: outer)) (hf : fe.frame = some L)
    (he : s.heap.get? e = some oe) (hd : oe.data = .fields vs) (hsz : 1 < vs.size) (hen : e ∉ frsOf fe outer)
    (h : ∀ h' T ts, s.heap.get? T = none → T ≠ e → Kp (frsOf fe outer) (fun b => b = e) s.heap h' → h'.get? e = some (oe.mapFields (·.setIfInBounds 1 (.ref T))) → h'.get? T = some { cls := .type "traceback", dict := none, data := .fields ts } → ts[3]? = some (rawInt L) → Q () { s with heap := h' }) :
    wpAny M A (do let a ← PySem.frameOf fe; let pl ← entryPlaceOf L hadNext; let b ← EntryCells.newEntry head a .none (rawInt L) .none pl; setField (.ref e) 1 b) Q E s := by
  refine wpAny_bind (wpAny_frameOf_fun hfr hl hf fun h₁ hs₁ => ?_)
  refine wpAny_bind (wpAny_entryPlaceOf fun pl hpl => ?_)
  unfold EntryCells.newEntry newFields
  refine wpAny_bind (wpAny_newObj_type ?_ (hpl.sizeOk5 _ _ _ _ _))
  have he₁ : h₁.get? e = some oe := (hs₁.2.1 e hen).trans he
  have he₂ := Heap.get?_push_of_some (h := h₁) { cls := .type "traceback", dict := none, data := .fields ([head, .ref L, .none, rawInt L, .none] ++ (if pl.isEmpty then List.replicate 6 Value.none else pl)).toArray } he₁
  have hTe : h₁.objs.size ≠ e := Nat.ne_of_gt (Heap.lt_size he₁)
  have hd₃ := Obj.data_mapFields hd (·.setIfInBounds 1 (Value.ref h₁.objs.size))
  have he₃ := Heap.get?_update_self (Obj.mapFields (·.setIfInBounds 1 (Value.ref h₁.objs.size))) he₂ (Obj.isFreed_of_fields hd₃)
  have hT₃ := (Heap.get?_update_other (h₁.push { cls := .type "traceback", dict := none, data := .fields ([head, .ref L, .none, rawInt L, .none] ++ (if pl.isEmpty then List.replicate 6 Value.none else pl)).toArray })
    (Obj.mapFields (·.setIfInBounds 1 (Value.ref h₁.objs.size))) (Ne.symm hTe)).trans (Heap.get?_push_size h₁ rfl)
  refine wpAny_setField he₂ hd hsz (h _ h₁.objs.size _ ?_ hTe ?_ he₃ hT₃ (by first | (simp; done) | (rcases hpl with rfl | ⟨_, _, _, _, _, _, _, rfl⟩ <;> simp)))
  · cases q : s.heap.get? h₁.objs.size with
    | none => rfl
    | some o => obtain ⟨sl, q'⟩ := hs₁.2.2 _ o q; exact absurd (Heap.lt_size q') (Nat.lt_irrefl _)
  · have up : ∀ b o, b ≠ e → h₁.get? b = some o → ((h₁.push { cls := .type "traceback", dict := none, data := .fields ([head, .ref L, .none, rawInt L, .none] ++ (if pl.isEmpty then List.replicate 6 Value.none else pl)).toArray }).update e (Obj.mapFields (·.setIfInBounds 1 (Value.ref h₁.objs.size)))).get? b = some o := fun b o hbe hb => by
      rw [Heap.get?_update_other _ _ (Ne.symm hbe)]
      exact Heap.get?_push_of_some _ hb
    refine ⟨fun b o hb => ?_, fun b o hb hne nf => up b o hne ((hs₁.2.1 b nf).trans hb), fun b o hb hne _ => ?_⟩
    · by_cases q : b = e
      · subst q; exact ⟨_, he₃⟩
      · obtain ⟨sl, q'⟩ := hs₁.2.2 b o hb
        exact ⟨_, up b _ q q'⟩
    · obtain ⟨sl, q'⟩ := hs₁.2.2 b o hb
      exact ⟨sl, up b _ hne q'⟩

variable {B₀ : Addr → Prop} {pl : Nat → Bool} {ow₀ : Nat → Option Addr} {hE : Heap} {nm : Nms} {ρ : Env'}

theorem frameOf_eq (h : ev.frame = fe.frame) : PySem.frameOf ev = PySem.frameOf fe := by
  unfold PySem.frameOf
  rw [h]

theorem note_ok {k : EK} {a : Addr} {Q : Unit → Shared → Prop} (S : SSt K A fe outer B₀ pl ow₀ hE nm ev ρ s.heap) (x : ExcS K fe k a hE s.heap)
    (hQ : ∀ h', SSt K A fe outer B₀ pl ow₀ hE nm ev ρ h' → ExcV K k a hE h' (fun fl => ∃ L, fe.frame = some L ∧ fl = rawInt L) false → Q () { s with heap := h' }) : wpAny (model K.prog K.w) A (noteFrame (.ref a) ev) Q E s := by
  obtain ⟨ow, m, cm, h1, h2, st⟩ := S.st
  obtain ⟨_, ⟨L, oL, hf, _, hLo, _⟩, _⟩ := st.I.ff
  have hfe : ev.frame = some L := st.W.frame.trans hf
  obtain ⟨n1, t, tb, cx, c3, c4, c5, sl, dd, e, q, c, m'⟩ := x
  have hen : a ∉ frsOf fe outer := fun hm => by
    obtain ⟨_, o, ho, hnf⟩ := st.I.ff.mem hm
    rw [e] at ho; cases ho; exact hnf _ rfl
  unfold noteFrame
  simp only [hfe]
  rcases q with rfl | ⟨T, oT, ts, rfl, q2, q3, q4, q5, q6⟩
  · refine wpAny_bind (wpAny_field e rfl (x := .none) rfl ?_)
    rw [if_neg (by decide)]
    rw [frameOf_eq st.W.frame]
    refine entry_ok st.I.frs st.I.ff hf e rfl (by simp) hen fun h' T ts hT hTa kp ha hT' h3 => hQ h' ?_ ⟨n1, t, .ref T, cx, c3, c4, c5, sl, dd, ha, .inr ⟨T, _, ts, _, rfl, gone S.kp hT, hTa, hT', rfl, h3, L, hf, rfl⟩, c, fun y hy => ?_⟩
    · exact S.calm kp (fun b q => q ▸ n1) fun b o q e' => by subst q; rw [e] at e'; cases e'; exact ⟨_, rfl⟩
    · obtain ⟨m1, tk, o, ho, hc, nn, hd⟩ := m' y hy
      by_cases hfm : t ∈ frsOf fe outer
      · obtain ⟨sl', hs'⟩ := kp.slots t o ho (fun q => by subst q; rw [e] at ho; cases ho; cases hd) hfm
        exact ⟨m1, tk, _, hs', hc, nn, hd⟩
      · exact ⟨m1, tk, o, kp.keep t o ho (fun q => by subst q; rw [e] at ho; cases ho; cases hd) hfm, hc, nn, hd⟩
  · refine wpAny_bind (wpAny_field e rfl (x := .ref T) rfl ?_)
    rw [if_pos (show (Value.ref T != Value.none) = true from by simp)]
    rcases q6 with q6 | ⟨L', hL', q6⟩
    · refine wpAny_bind (wpAny_field q4 q5 q6 ?_)
      rw [if_neg (show ¬ ((Value.none == rawInt L) = true) from by simp [rawInt])]
      refine wpAny_bind (wpAny_setField q4 q5 (Array.getElem?_eq_some_iff.mp q6).1 ?_)
      have hTn : T ∉ frsOf fe outer := fun hm => by
        obtain ⟨_, o, ho, hnf⟩ := st.I.ff.mem hm
        rw [q4] at ho; cases ho; exact hnf _ q5
      have other : ∀ b o, b ≠ T → s.heap.get? b = some o → (s.heap.update T (Obj.mapFields (·.setIfInBounds 3 Value.none))).get? b = some o := fun b o hb e => (Heap.get?_update_other _ _ (Ne.symm hb)).trans e
      have hT1 := Heap.get?_update_self (Obj.mapFields (·.setIfInBounds 3 Value.none)) q4 (Obj.isFreed_of_fields (Obj.data_mapFields q5 _))
      have kp1 : Kp (frsOf fe outer) (fun b => b = T) s.heap (s.heap.update T (Obj.mapFields (·.setIfInBounds 3 Value.none))) := kp_keep (fun b o q e => other b o q e) fun b q => by subst q; exact ⟨_, hT1⟩
      have S1 := S.calm kp1 (fun b q => q ▸ q2) fun b o q e' => by subst q; rw [q4] at e'; cases e'; exact ⟨_, q5⟩
      obtain ⟨ow', m1, cm1, g1, g2, st1⟩ := S1.st
      rw [frameOf_eq st.W.frame]
      have e1 := other a _ (Ne.symm q3) e
      refine entry_ok (s := { s with heap := s.heap.update T (Obj.mapFields (·.setIfInBounds 3 Value.none)) }) st1.I.frs st1.I.ff hf e1 rfl (by simp) hen fun h' T' ts' hT' hTa kp ha hT'' h3 => hQ h' ?_ ⟨n1, t, .ref T', cx, c3, c4, c5, sl, dd, ha, .inr ⟨T', _, ts', _, rfl, gone S1.kp hT', hTa, hT'', rfl, h3, L, hf, rfl⟩, c, fun y hy => ?_⟩
      · exact S1.calm kp (fun b q => q ▸ n1) fun b o q e' => by subst q; rw [e1] at e'; cases e'; exact ⟨_, rfl⟩
      · obtain ⟨m1, tk, o, ho, hc, nn, hd⟩ := m' y hy
        have htT : t ≠ T := fun q => by subst q; rw [q4] at ho; cases ho; rw [q5] at hd; cases hd
        have ho1 := other t o htT ho
        by_cases hfm : t ∈ frsOf fe outer
        · obtain ⟨sl', hs'⟩ := kp.slots t o ho1 (fun q => by subst q; rw [e] at ho; cases ho; cases hd) hfm
          exact ⟨m1, tk, _, hs', hc, nn, hd⟩
        · exact ⟨m1, tk, o, kp.keep t o ho1 (fun q => by subst q; rw [e] at ho; cases ho; cases hd) hfm, hc, nn, hd⟩
    · rw [hf] at hL'; cases hL'
      refine wpAny_bind (wpAny_field q4 q5 q6 ?_)
      rw [if_pos (show (rawInt L == rawInt L) = true from by simp)]
      exact wpAny_pure (hQ s.heap S ⟨n1, t, .ref T, cx, c3, c4, c5, sl, dd, e, .inr ⟨T, oT, ts, _, rfl, q2, q3, q4, q5, q6, L, hf, rfl⟩, c, m'⟩)

/-- the flight of an exception with a traceback is told anew -/
theorem flight_ok {A' : Around} {k : EK} {a : Addr} {V : Value → Prop} {fl : Option Addr} {Q : Unit → Shared → Prop} (S : SSt K A fe outer B₀ pl ow₀ hE nm ev ρ s.heap) (x : ExcV K k a hE s.heap V false)
    (hQ : ∀ h', SSt K A fe outer B₀ pl ow₀ hE nm ev ρ h' → ExcV K k a hE h' (fun v => v = fl.elim .none fun f => rawInt f) false → Q () { s with heap := h' }) : wpAny (model K.prog K.w) A' (setFlight (.ref a) fl) Q E s := by
  obtain ⟨n1, t, tb, cx, c3, c4, c5, sl, dd, e, q, c, m'⟩ := x
  rcases q with ⟨q, _⟩ | ⟨T, oT, ts, v, rfl, q2, q3, q4, q5, q6, q7⟩
  · cases q
  unfold setFlight
  refine wpAny_bind (wpAny_field e rfl (x := .ref T) rfl ?_)
  rw [if_pos (show (Value.ref T != Value.none) = true from by simp)]
  have hsz := (Array.getElem?_eq_some_iff.mp q6).1
  have other : ∀ b o, b ≠ T → s.heap.get? b = some o → (s.heap.update T (Obj.mapFields (·.setIfInBounds 3 (fl.elim Value.none fun f => rawInt f)))).get? b = some o := fun b o hb e => (Heap.get?_update_other _ _ (Ne.symm hb)).trans e
  have hT1 := Heap.get?_update_self (Obj.mapFields (·.setIfInBounds 3 (fl.elim Value.none fun f => rawInt f))) q4 (Obj.isFreed_of_fields (Obj.data_mapFields q5 _))
  have kp1 : Kp (frsOf fe outer) (fun b => b = T) s.heap (s.heap.update T (Obj.mapFields (·.setIfInBounds 3 (fl.elim Value.none fun f => rawInt f)))) := kp_keep (fun b o q e => other b o q e) fun b q => by subst q; exact ⟨_, hT1⟩
  refine wpAny_setField q4 q5 hsz (hQ _ (S.calm kp1 (fun b q => q ▸ q2) fun b o q e' => by subst q; rw [q4] at e'; cases e'; exact ⟨_, q5⟩) ⟨n1, t, .ref T, cx, c3, c4, c5, sl, dd, other a _ (Ne.symm q3) e, .inr ⟨T, _, _, _, rfl, q2, q3, hT1, Obj.data_mapFields q5 _, by simp [hsz], rfl⟩, c, fun y hy => ?_⟩)
  obtain ⟨m1, tk, o, ho, hc, nn, hd⟩ := m' y hy
  exact ⟨m1, tk, o, other t o (fun q => by subst q; rw [q4] at ho; cases ho; rw [q5] at hd; cases hd) ho, hc, nn, hd⟩

/-- an exception comes back from an own activation of this frame -/
theorem back_ok {k : EK} {a : Addr} (S : SSt K A fe outer B₀ pl ow₀ hE nm ev ρ s.heap) (x : ExcS K fe k a hE s.heap)
    (hE' : ∀ h', SSt K A fe outer B₀ pl ow₀ hE nm ev ρ h' → ExcS K fe k a hE h' → E (.ref a) { s with heap := h' }) : notedBy (model K.prog K.w) A ev (cameBackBy (model K.prog K.w) A ev E) (.ref a) s := by
  unfold notedBy
  refine note_ok S x fun h' S' x' => ?_
  unfold cameBackBy
  obtain ⟨n1, t, tb, cx, c3, c4, c5, sl, dd, e, q, c, m'⟩ := id x'
  rcases q with ⟨q, _⟩ | ⟨T, oT, ts, v, rfl, q2, q3, q4, q5, q6, q7⟩
  · cases q
  refine wpAny_bind (wpAny_field e rfl (x := .ref T) rfl ?_)
  rw [if_neg (show ¬ ((Value.ref T == Value.none) = true) from Bool.false_ne_true)]
  obtain ⟨ow, m, cm, h1, h2, st⟩ := S.st
  obtain ⟨_, ⟨L, oL, hf, _, hLo, _⟩, _⟩ := st.I.ff
  refine flight_ok (s := { s with heap := h' }) S' x' fun h'' S'' x'' => hE' h'' S'' (x''.toS fun fl hfl => .inr ⟨L, hf, ?_⟩)
  rw [hfl, st.W.frame, hf]; rfl
end
end Mine
end

section
open PySem PySem.W PySem.Calls PyProof.Rows
namespace Mine

def notComp : Expr → Bool
  | .ListComp .. => false
  | .SetComp .. => false
  | .DictComp .. => false
  | _ => true
def notTup : Expr → Bool
  | .Tuple .. => false
  | _ => true
def swOk (sc : Scope) (x : Expr) (n : Str) : Bool := notComp x || sc.names.lookup n != some .local
abbrev sName (sc : Scope) (n : Str) : Prop := sc.names.lookup n = some .local ∨ sc.names.lookup n = some .cell

inductive NmL (vs : List Str) (sc : Scope) : List Expr → List Nat → Prop
  | nil : NmL vs sc [] []
  | cons {i n p es is} : vs[i]? = some n → sName sc n → NmL vs sc es is → NmL vs sc (.Name n p :: es) (i :: is)
/-- a loop's target: the indices of its names -/
inductive TgtF (vs : List Str) (sc : Scope) : Expr → List Nat → Prop
  | one {i n p} : vs[i]? = some n → sName sc n → TgtF vs sc (.Name n p) [i]
  | two {i j es k p} : NmL vs sc es [i, j] → TgtF vs sc (.Tuple es k p) [i, j]
def pairOkF : Src → Nat → Bool
  | .items, 2 => true
  | .enum, 2 => true
  | .items, _ => false
  | .enum, _ => false
  | _, _ => true
inductive EcOf (sc : Scope) : Expr → EC → Prop
  | own {n p i} : gtab n = some (.gl i) → sc.names.lookup n = some .globalImplicit → EcOf sc (.Name n p) (.own i)
  | blt {n p t} : btab n = some (.type t) → sc.names.lookup n = some .globalImplicit → (n == ("__debug__" : Str)) = false → EcOf sc (.Name n p) (.blt t)
inductive HdOf (vs : List Str) (sc : Scope) : ExceptHandler → Hd → Prop
  | raiseStr {t n c p p1 p2 p3 p4 p5 p6 k b} {i : Nat} : vs[i]? = some n → sc.names.lookup n = some .local → EcOf sc b c → sc.names.lookup ("str" : Str) = some .globalImplicit → (n == ("__debug__" : Str)) = false →
      HdOf vs sc (.ExceptHandler (some t) (some n) [.Raise (some (.Call b [.Call (.Name "str" p1) [.Name n p2] [] p3] [] p4)) (some (.Constant .none k p5)) p6] p) (.raiseStr i c)
  | unk {t n m p p1 p2 p3 p4 p5} {i j : Nat} : vs[i]? = some n → vs[j]? = some m → kName sc n → kName sc m → (n == ("__debug__" : Str)) = false → (n == ("__classdict__" : Str)) = false → (m == ("__debug__" : Str)) = false → (m == ("__classdict__" : Str)) = false →
      sc.names.lookup ("_raise_unknown_type" : Str) = some .globalImplicit →
      HdOf vs sc (.ExceptHandler (some t) none [.Expr (.Call (.Name "_raise_unknown_type" p1) [.Name n p2, .Name m p3] [] p4) p5] p) (.unk i j)
  | again {t p p1} : HdOf vs sc (.ExceptHandler (some t) none [.Raise none none p1] p) .again
  | ret {t b k p p1 p2} : HdOf vs sc (.ExceptHandler (some t) none [.Return (some (.Constant (.bool b) k p1)) p2] p) (.ret (.bool b))
  | other {h} : HdOf vs sc h .other
def hdType : ExceptHandler → Option Expr
  | .ExceptHandler t _ _ _ => t
inductive HdsOf (vs : List Str) (sc : Scope) : List ExceptHandler → List (EC × Hd) → Prop
  | nil : HdsOf vs sc [] []
  | cons {t n body p c d hs ds} : EcOf sc t c → HdOf vs sc (.ExceptHandler (some t) n body p) d → (∃ b r, body = b :: r) → HdsOf vs sc hs ds → HdsOf vs sc (.ExceptHandler (some t) n body p :: hs) ((c, d) :: ds)

inductive SM where
  | s (x : Stmt)
  | b (xs : List Stmt)
inductive SMc where
  | s (c : CS)
  | b (cs : List CS)

/-- the text's statements against the abstract ones -/
inductive CY (nm : Nms) (sc : Scope) : (Nat → Bool) → SM → SMc → Prop
  | nil {pl} : CY nm sc pl (.b []) (.b [])
  | cons {pl x xs c cs} : CY nm sc pl (.s x) (.s c) → CY nm sc pl (.b xs) (.b cs) → CY nm sc pl (.b (x :: xs)) (.b (c :: cs))
  | frz {pl i xs cs} : pl i = false → (∃ n, nm.vs[i]? = some n) → CY nm sc pl (.b xs) (.b cs) → CY nm sc pl (.b xs) (.b (.frz i :: cs))
  | ex {pl x p a} : CX nm sc (.e x) (.e a) → notComp x = true → CY nm sc pl (.s (.Expr x p)) (.s (.ex a))
  | set {pl i n p x q a} : nm.vs[i]? = some n → sName sc n → CX nm sc (.e x) (.e a) → swOk sc x n = true → CY nm sc pl (.s (.Assign [.Name n p] x q)) (.s (.set i a))
  | ml0 {pl i n p p' q} : pl i = false → nm.vs[i]? = some n → sName sc n → CY nm sc pl (.s (.Assign [.Name n p] (.List [] p') q)) (.s (.ml0 i))
  | md0 {pl i n p p' q} : pl i = false → nm.vs[i]? = some n → sName sc n → CY nm sc pl (.s (.Assign [.Name n p] (.Dict [] [] p') q)) (.s (.md0 i))
  | un {pl es is k p x q a} : NmL nm.vs sc es is → 2 ≤ is.length → CX nm sc (.e x) (.e a) → notTup x = true → CY nm sc pl (.s (.Assign [.Tuple es k p] x q)) (.s (.un is a))
  | app {pl i n p p1 p2 q x a} : nm.vs[i]? = some n → kName sc n → (n == ("__debug__" : Str)) = false → (n == ("__classdict__" : Str)) = false → (p1.endLine == p2.line) = true → CX nm sc (.e x) (.e a) →
      CY nm sc pl (.s (.Expr (.Call (.Attribute (.Name n p) "append" p1) [x] [] p2) q)) (.s (.app i a))
  | put {pl i n p p1 q y x b a} : nm.vs[i]? = some n → kName sc n → (n == ("__debug__" : Str)) = false → (n == ("__classdict__" : Str)) = false → notComp x = true → CX nm sc (.e y) (.e b) → CX nm sc (.e x) (.e a) →
      CY nm sc pl (.s (.Assign [.Subscript (.Name n p) y p1] x q)) (.s (.put i b a))
  | aug {pl i n p op f x q a} : iopOf op = some f → nm.vs[i]? = some n → sName sc n → (n == ("__classdict__" : Str)) = false → CX nm sc (.e x) (.e a) → CY nm sc pl (.s (.AugAssign (.Name n p) op x q)) (.s (.aug f i a))
  | ite {pl t a xs ys as bs p} : CX nm sc (.e t) (.e a) → CY nm sc pl (.b xs) (.b as) → CY nm sc pl (.b ys) (.b bs) → CY nm sc pl (.s (.If t xs ys p)) (.s (.ite a as bs))
  | whl {pl t a xs as p} : CX nm sc (.e t) (.e a) → CY nm sc pl (.b xs) (.b as) → CY nm sc pl (.s (.While t xs [] p)) (.s (.whl a as))
  | for {pl tgt is iter s es as xs bs p} : TgtF nm.vs sc tgt is → SrcOf sc iter s es → pairOkF s is.length = true → CX nm sc (.l es) (.l as) → CY nm sc (fun _ => true) (.b xs) (.b bs) → CY nm sc pl (.s (.For tgt iter xs [] p)) (.s (.for is s as bs))
  | ret {pl x a p} : CX nm sc (.e x) (.e a) → CY nm sc pl (.s (.Return (some x) p)) (.s (.ret a))
  | ret0 {pl p} : CY nm sc pl (.s (.Return none p)) (.s .ret0)
  | rs {pl x t c a p p1} : EcOf sc t c → (c = .own 104 ∨ c = .blt "ValueError") → CX nm sc (.e x) (.e a) → CY nm sc pl (.s (.Raise (some (.Call t [x] [] p1)) none p)) (.s (.rs c a))
  | try {pl xs cs h hs ds p} : CY nm sc pl (.b xs) (.b cs) → HdsOf nm.vs sc (h :: hs) ds → CY nm sc pl (.s (.Try xs (h :: hs) [] [] p)) (.s (.try cs ds))
  | bad {pl x} : CY nm sc pl (.s x) (.s .bad)
  | badB {pl xs cs} : CY nm sc pl (.b xs) (.b (.bad :: cs))
  | ml2 {pl i j a b p p1 p2 p3 p4 p5 k k' q} : pl i = false → pl j = false → i ≠ j → nm.vs[i]? = some a → nm.vs[j]? = some b → sc.names.lookup a = some .local → sc.names.lookup b = some .local → (p.line == p1.line) = true →
      CY nm sc pl (.s (.Assign [.Tuple [.Name a p, .Name b p1] k p2] (.Tuple [.List [] p3, .List [] p4] k' p5) q)) (.s (.ml2 i j))
  | setC {pl i n p q elt tgt iter scope pc e m s es as names} : nm.vs[i]? = some n → sc.names.lookup n = some .local → (p.line == pc.line) = true → (scope.names.any fun (y, k) => y == n && (k == .local || k == .cell)) = false →
      TgtOf tgt names m → SrcOf sc iter s es → nm.cs = [] → scopeOk scope sc names = true → cvOk nm.vs names scope = true → pairOk s m = true → CX nm sc (.l es) (.l as) → CX ⟨nm.vs, names⟩ (relabelS scope sc) (.e elt) (.e e) →
      CY nm sc pl (.s (.Assign [.Name n p] (.ListComp elt [⟨tgt, iter, [], 0⟩] scope pc) q)) (.s (.set i (.comp e m s as)))
  | callR {pl fn p0 p1 q x1 x2 a1 a2 n1 n2 p3 p4} {r1 r2 : Nat} : gtab fn = some (.gl 7) → sc.names.lookup fn = some .globalImplicit → (fn == ("__debug__" : Str)) = false → CX nm sc (.e x1) (.e a1) → CX nm sc (.e x2) (.e a2) → nm.vs[r1]? = some n1 → nm.vs[r2]? = some n2 → r1 ≠ r2 →
      (n1 == ("__debug__" : Str)) = false → (n1 == ("__classdict__" : Str)) = false → (n2 == ("__debug__" : Str)) = false → (n2 == ("__classdict__" : Str)) = false →
      CY nm sc pl (.s (.Expr (.Call (.Name fn p0) [x1, x2, .Name n1 p3, .Name n2 p4] [] p1) q)) (.s (.callR (.k (.gl 7)) [a1, a2] [r1, r2]))

section
variable {K : Cfg} {C : CallT} {n : Nat}
def SY (K : Cfg) (C : CallT) (n : Nat) (nm : Nms) (sc : Scope) (pl : Nat → Bool) : SM → SMc → Prop
  | .s x, .s c => ∀ (A : Around) (fe : Env) (outer : List Env) (B₀ : Addr → Prop) (ev : Env) (ow₀ : Nat → Option Addr) (hE : Heap) (ρ : Env') (s : Shared), ev.scope = sc → Room A n → SSt K A fe outer B₀ pl ow₀ hE nm ev ρ s.heap →
      EndsS K A fe outer B₀ pl ow₀ hE nm ev (exS C ρ c) s (exec x ev)
  | .b xs, .b cs => ∀ (A : Around) (fe : Env) (outer : List Env) (B₀ : Addr → Prop) (ev : Env) (ow₀ : Nat → Option Addr) (hE : Heap) (ρ : Env') (s : Shared), ev.scope = sc → Room A n → SSt K A fe outer B₀ pl ow₀ hE nm ev ρ s.heap →
      EndsS K A fe outer B₀ pl ow₀ hE nm ev (exSs C ρ cs) s (execs xs ev)
  | _, _ => True
end

section
variable {K : Cfg} {A : Around} {fe ev : Env} {outer : List Env} {B₀ : Addr → Prop} {pl : Nat → Bool} {ow₀ : Nat → Option Addr} {hE : Heap} {nm : Nms} {ρ : Env'} {s : Shared} {C : CallT} {n : Nat} {sc : Scope}

theorem EndsP.done {fl : Flow} {f : Fl} {P : (Flow → Shared → Prop) → (Value → Shared → Prop) → Prop} (S : SSt K A fe outer B₀ pl ow₀ hE nm ev ρ s.heap) (r : FlR K s.heap B₀ f fl) (h : ∀ Q E, Q fl s → P Q E) : EndsP K A fe outer B₀ pl ow₀ hE nm ev (.ok f ρ) s P :=
  fun Q E hQ => h Q E (hQ fl s.heap s.toks S r)
/-- as EndsP.via, after a step that turned the heap -/
theorem EndsP.after {r : SR} {h' : Heap} {tk : Nat} {P P' : (Flow → Shared → Prop) → (Value → Shared → Prop) → Prop} (h : EndsP K A fe outer B₀ pl ow₀ hE nm ev r { s with heap := h', toks := tk } P) (w : ∀ Q E, P Q E → P' Q E) : EndsP K A fe outer B₀ pl ow₀ hE nm ev r s P' := by
  cases r with
  | no => trivial
  | ok f ρ' => exact fun Q E hQ => w _ _ (h Q E hQ)
  | exc e ρ' => exact fun Q E hQ => w _ _ (h Q E hQ)
theorem swap_none {x : Expr} {t : Option Expr} {l : Nat} (h : notComp x = true) : swapsWith x t l ev = pure false := by cases x <;> first | (cases h; done) | rfl
theorem swap_name {x : Expr} {nn : Str} {p : Pos} {l : Nat} (h : swOk ev.scope x nn = true) : swapsWith x (some (.Name nn p)) l ev = pure false := by
  unfold swOk at h
  rw [Bool.or_eq_true] at h
  rcases h with h | h
  · exact swap_none h
  · have e : (ev.kindOf nn == some .local) = false := by unfold Env.kindOf; simpa using h
    cases x <;> first
      | rfl
      | (unfold swapsWith; simp only [e, Bool.and_false, Bool.false_and])

theorem expr_stmt {x : Expr} {p : Pos} {a : CE} (hw : SE K C n nm sc x a) (hc : notComp x = true) (hs : ev.scope = sc) (rm : Room A n) (S : SSt K A fe outer B₀ pl ow₀ hE nm ev ρ s.heap) :
    EndsS K A fe outer B₀ pl ow₀ hE nm ev (exS C ρ (.ex a)) s (exec (.Expr x p) ev) := by
  obtain ⟨ow, m, cm, h1, h2, st⟩ := S.st
  rw [exS]
  refine EndsP.expr S (hw A fe outer _ ev ow ρ [] m cm s hs rm st).1 (P' := fun v s₁ Q E => Q .next s₁) (fun Q E h => wpAny_Expr_any h ?_ (swap_none hc)) fun v x h' tk _ kp rv => EndsP.done (s := { s with heap := h', toks := tk }) (S.step0 kp) rfl fun Q E q => q
  unfold interactive; rw [st.W.kind]; rfl
theorem set_stmt {i : Nat} {nn : Str} {p q : Pos} {x : Expr} {a : CE} (hv : nm.vs[i]? = some nn) (hk : sName sc nn) (hw : SE K C n nm sc x a) (hsw : swOk sc x nn = true) (hs : ev.scope = sc) (rm : Room A n) (S : SSt K A fe outer B₀ pl ow₀ hE nm ev ρ s.heap) :
    EndsS K A fe outer B₀ pl ow₀ hE nm ev (exS C ρ (.set i a)) s (exec (.Assign [.Name nn p] x q) ev) := by
  obtain ⟨ow, m, cm, h1, h2, st⟩ := S.st
  rw [exS]
  refine EndsP.expr S (hw A fe outer _ ev ow ρ [] m cm s hs rm st).1 (P' := fun v s₁ Q E => wpAny (model K.prog K.w) A (storeName ev nn v) (fun _ => Q .next) E s₁) (fun Q E h => wpAny_Assign_Name h (swap_name (by rw [hs]; exact hsw))) fun v x h' tk _ kp rv => ?_
  intro Q E hQ
  exact SSt.store (s := { s with heap := h', toks := tk }) (S.step0 kp) h1 h2 (st.step0 kp) hv (by unfold Env.kindOf; rw [hs]; exact hk) rv fun h'' tk' _ S' _ => hQ .next h'' tk' S' rfl

/-- names in a row take values in a row -/
theorem names_ok {vs : List Str} (hvs : nm.vs = vs) : ∀ {es : List Expr} {is : List Nat}, NmL vs sc es is → ∀ {us : List FV} {xs : List Value} {ρ : Env'} {s : Shared} {ow : Nat → Option Addr} {m cm : Str → Option Value} {Q : Unit → Shared → Prop} {E : Value → Shared → Prop}, ev.scope = sc →
    SSt K A fe outer B₀ pl ow₀ hE nm ev ρ s.heap → (∀ i, pl i = true → ow i = ow₀ i) → (∀ i a, pl i = false → ow i = some a → ¬ B₀ a ∧ hE.get? a = none) → St K A fe outer (BO B₀ ow) nm ev ow ρ [] m cm s.heap → us.length = is.length → RVs K s.heap (BO B₀ ow) us xs →
    (∀ h' tk m' cm', SSt K A fe outer B₀ pl ow₀ hE nm ev (setAll ρ is us) h' → St K A fe outer (BO B₀ ow) nm ev ow (setAll ρ is us) [] m' cm' h' → Q () { s with heap := h', toks := tk }) → wpAny (model K.prog K.w) A (assignInOrder ((assignEach es ev).map (·.2)) xs) Q E s := by
  intro es is h
  induction h with
  | nil =>
    intro us xs ρ s ow m cm Q E hs S h1 h2 st hl r hQ
    cases us with
    | nil => cases r; exact assignInOrder_nil (hQ s.heap s.toks m cm S st)
    | cons _ _ => cases hl
  | cons hv hk _ ih =>
    intro us xs ρ s ow m cm Q E hs S h1 h2 st hl r hQ
    rename_i i nn p es is _
    cases us with
    | nil => cases hl
    | cons u us =>
      obtain ⟨y, q, rfl, ry, rq⟩ := r
      show wpAny _ _ (assignInOrder (assign (.Name nn p) ev :: (assignEach es ev).map (·.2)) (y :: q)) _ _ _
      refine assignInOrder_cons (PySem.wpAny_assign_Name ?_)
      refine SSt.store S h1 h2 st (hvs ▸ hv) (by unfold Env.kindOf; rw [hs]; exact hk) ry fun h' tk keep S' st' => ?_
      refine ih (s := { s with heap := h', toks := tk }) hs S' h1 h2 st' (by simpa using hl) (rq.keep (fun b o e nb => keep b o e (fun q => nb (.inl (q ▸ S.bl))) fun n q => nb (.inl (S.bc n b q))) fun _ _ _ q => q) fun h'' tk' m' cm' S'' st'' => hQ h'' tk' m' cm' S'' st''
theorem each_len : ∀ {vs : List Str} {es : List Expr} {is : List Nat}, NmL vs sc es is → (assignEach es ev).length = is.length ∧ (assignEach es ev).findIdx? (·.1) = none := by
  intro vs es is h
  induction h with
  | nil => exact ⟨rfl, rfl⟩
  | cons _ _ _ ih =>
    rename_i i nn p es is _ _ _
    have e : assignEach (.Name nn p :: es) ev = (false, assign (.Name nn p) ev) :: assignEach es ev := rfl
    rw [e]
    refine ⟨by simp [ih.1], ?_⟩
    rw [List.findIdx?_cons]
    simp [ih.2]
/-- a tuple is taken apart -/
theorem tuple_ok {es : List Expr} {is : List Nat} {k : Nat} {p : Pos} {l : List FV} {us : List Value} {t : Addr} {ow : Nat → Option Addr} {m cm : Str → Option Value} {Q : Unit → Shared → Prop} {E : Value → Shared → Prop} (hn : NmL nm.vs sc es is) (hs : ev.scope = sc)
    (S : SSt K A fe outer B₀ pl ow₀ hE nm ev ρ s.heap) (h1 : ∀ i, pl i = true → ow i = ow₀ i) (h2 : ∀ i a, pl i = false → ow i = some a → ¬ B₀ a ∧ hE.get? a = none) (st : St K A fe outer (BO B₀ ow) nm ev ow ρ [] m cm s.heap) (hl : l.length = is.length)
    (hT : IsTup s.heap t (List.toArray us)) (r : RVs K s.heap (BO B₀ ow) l us)
    (hQ : ∀ h' tk m' cm', SSt K A fe outer B₀ pl ow₀ hE nm ev (setAll ρ is l) h' → St K A fe outer (BO B₀ ow) nm ev ow (setAll ρ is l) [] m' cm' h' → Q () { s with heap := h', toks := tk }) : wpAny (model K.prog K.w) A (assign (.Tuple es k p) ev (.ref t)) Q E s := by
  have hlen := each_len (ev := ev) hn
  refine assign_Tuple_tuple st.I.hd hT (by rw [hlen.1, List.size_toArray, r.length, hl]) hlen.2 fun h' he => ?_
  have kp : Kp (frsOf fe outer) N0 s.heap h' := Kp.of_keep fun b o e => he b o (Nat.ne_of_lt (Heap.lt_size e)) e
  exact names_ok rfl hn (s := { s with heap := h' }) hs (S.step0 kp) h1 h2 (st.step0 kp) hl (r.step0 st.I kp) hQ
theorem un_stmt {es : List Expr} {is : List Nat} {k : Nat} {p q : Pos} {x : Expr} {a : CE} (hn : NmL nm.vs sc es is) (h2l : 2 ≤ is.length) (hw : SE K C n nm sc x a) (ht : notTup x = true) (hs : ev.scope = sc) (rm : Room A n) (S : SSt K A fe outer B₀ pl ow₀ hE nm ev ρ s.heap) :
    EndsS K A fe outer B₀ pl ow₀ hE nm ev (exS C ρ (.un is a)) s (exec (.Assign [.Tuple es k p] x q) ev) := by
  obtain ⟨ow, m, cm, h1, h2, st⟩ := S.st
  rw [exS]
  refine EndsP.expr S (hw A fe outer _ ev ow ρ [] m cm s hs rm st).1 (P' := fun v s₁ Q E => wpAny (model K.prog K.w) A (assign (.Tuple es k p) ev v) (fun _ => Q .next) E s₁) (fun Q E h => Assign_Tuple h ?_ ?_) fun v x h' tk _ kp rv => ?_
  · cases x <;> rfl
  · cases x <;> first | rfl | cases ht
  · have hm : ¬ is.length = 0 := by omega
    unfold spread
    rw [if_neg hm]
    cases v with
    | tup l =>
      dsimp only
      by_cases hl : l.length = is.length
      · rw [if_pos hl]
        obtain ⟨_, t, us, rfl, nb, hT, rs⟩ := rv
        intro Q E hQ
        exact tuple_ok (s := { s with heap := h', toks := tk }) hn hs (S.step0 kp) h1 h2 (st.step0 kp) hl hT rs fun h'' tk' m' cm' S' _ => hQ .next h'' tk' S' rfl
      · rw [if_neg hl]; trivial
    | _ => trivial
end
end Mine
end

section
open PySem PySem.W PySem.Calls PyProof.Rows
namespace Mine
/-- what else is known of the text's top -/
structure Ok2 (K : Cfg) : Prop where
  sysm : ∃ o, K.base.get? sysModules = some o

section
variable {K : Cfg} {A : Around} {fe ev : Env} {outer : List Env} {B₀ : Addr → Prop} {pl : Nat → Bool} {ow₀ : Nat → Option Addr} {hE : Heap} {nm : Nms} {ρ : Env'} {s : Shared} {C : CallT} {n : Nat} {sc : Scope}

theorem sys_ne (O2 : Ok2 K) {h : Heap} (st : K.base.StaysIn h) : (h.objs.size == sysModules) = false := by
  obtain ⟨o, ho⟩ := O2.sysm
  have := Heap.lt_size (st _ _ ho)
  rw [beq_eq_false_iff_ne]
  exact fun q => Nat.lt_irrefl _ (q ▸ this)

theorem ml0_stmt {i : Nat} {nn : Str} {p p' q : Pos} (hp : pl i = false) (hv : nm.vs[i]? = some nn) (hk : sName sc nn) (hs : ev.scope = sc) (S : SSt K A fe outer B₀ pl ow₀ hE nm ev ρ s.heap) :
    EndsS K A fe outer B₀ pl ow₀ hE nm ev (exS C ρ (.ml0 i)) s (exec (.Assign [.Name nn p] (.List [] p') q) ev) := by
  rw [exS]
  intro Q E hQ
  refine wpAny_Assign_Name (wpAny_mono (Q := fun v s₁ => v = .ref s.heap.objs.size ∧ s₁ = { s with heap := s.heap.push { cls := .type "list", dict := none, data := .seq ([] : List Value).toArray } }) (E := E) ?_ (fun v s₁ hh => ?_) fun _ _ e => e) rfl
  · rw [arm_eval_List]
    exact wpAny_bind (wpAny_standAt (wpAny_bind (Calls.spliced_nil (wpAny_newObj_type ⟨rfl, rfl⟩))))
  · obtain ⟨rfl, rfl⟩ := hh
    refine SSt.fresh (s := { s with heap := s.heap.push { cls := .type "list", dict := none, data := .seq ([] : List Value).toArray } }) S hp hv (by unfold Env.kindOf; rw [hs]; exact hk) (Kp.push _ _ _ _) (fresh_size _) ⟨_, Heap.get?_push_size _ rfl⟩ (.inl ⟨rfl, _, Heap.get?_push_size _ rfl⟩) fun h' tk _ S' => hQ .next h' tk S' rfl
theorem md0_stmt (O2 : Ok2 K) {i : Nat} {nn : Str} {p p' q : Pos} (hp : pl i = false) (hv : nm.vs[i]? = some nn) (hk : sName sc nn) (hs : ev.scope = sc) (S : SSt K A fe outer B₀ pl ow₀ hE nm ev ρ s.heap) :
    EndsS K A fe outer B₀ pl ow₀ hE nm ev (exS C ρ (.md0 i)) s (exec (.Assign [.Name nn p] (.Dict [] [] p') q) ev) := by
  rw [exS]
  intro Q E hQ
  obtain ⟨_, _, _, _, _, st⟩ := S.st
  refine wpAny_Assign_Name (wpAny_Dict_empty ?_) rfl
  refine SSt.fresh (s := { s with heap := s.heap.push { cls := .type "dict", data := .dict #[] } }) S hp hv (by unfold Env.kindOf; rw [hs]; exact hk) (Kp.push _ _ _ _) (fresh_size _) ⟨_, Heap.get?_push_size _ rfl⟩ (.inr ⟨rfl, sys_ne O2 st.I.stay, Heap.DictOf.new s.heap⟩) fun h' tk _ S' => hQ .next h' tk S' rfl

/-- a name of what is still being made -/
theorem own_name {i : Nat} {nn : Str} {p : Pos} {lv : LV} {ow : Nat → Option Addr} {m cm : Str → Option Value} {Q : Value → Shared → Prop} {E : Value → Shared → Prop} (S : SSt K A fe outer B₀ pl ow₀ hE nm ev ρ s.heap) (st : St K A fe outer (BO B₀ ow) nm ev ow ρ [] m cm s.heap) (hv : nm.vs[i]? = some nn) (hd1 : (nn == ("__debug__" : Str)) = false) (hd2 : (nn == ("__classdict__" : Str)) = false)
    (hr : ρ[i]? = some (some lv)) (hf : ∀ v, lv ≠ .fv v) (h : ∀ a, ow i = some a → Own K s.heap (BO B₀ ow) a lv → Q (.ref a) s) : wpAny (model K.prog K.w) A (eval (.Name nn p) ev) Q E s := by
  obtain ⟨a, e1, e2, e3, e4⟩ := st.R.own i nn lv hr hf hv
  exact load_lookV st.W st.R.fr (e2 S.ncs) (h a e1 e4) hd1 hd2

theorem getL_some {ρ : Env'} {i : Nat} {l : List FV} (h : getL ρ i = some l) : ρ[i]? = some (some (.ml l)) := by
  unfold getL at h
  split at h
  · cases h; assumption
  · cases h
theorem getD_some {ρ : Env'} {i : Nat} {l : List (Str × FV)} (h : getD' ρ i = some l) : ρ[i]? = some (some (.md l)) := by
  unfold getD' at h
  split at h
  · cases h; assumption
  · cases h

theorem app_stmt {i : Nat} {nn : Str} {p p1 p2 q : Pos} {x : Expr} {a : CE} (hv : nm.vs[i]? = some nn) (hd1 : (nn == ("__debug__" : Str)) = false) (hd2 : (nn == ("__classdict__" : Str)) = false) (hl : (p1.endLine == p2.line) = true) (hp : plainE x = true) (hw : SE K C n nm sc x a)
    (hs : ev.scope = sc) (rm : Room A n) (S : SSt K A fe outer B₀ pl ow₀ hE nm ev ρ s.heap) :
    EndsS K A fe outer B₀ pl ow₀ hE nm ev (exS C ρ (.app i a)) s (exec (.Expr (.Call (.Attribute (.Name nn p) "append" p1) [x] [] p2) q) ev) := by
  obtain ⟨ow, m, cm, h1, h2, st⟩ := S.st
  rw [exS]
  cases hg : getL ρ i with
  | none => trivial
  | some l =>
    dsimp only
    have hr := getL_some hg
    have hint : interactive ev = false := by unfold interactive; rw [st.W.kind]; rfl
    refine EndsP.expr S (hw A fe outer _ ev ow ρ [] m cm s hs rm st).1 (P' := fun v s₁ Q E => ∃ a, ow i = some a ∧ Own K s₁.heap (BO B₀ ow) a (.ml l) ∧ wpAny (model K.prog K.w) A (call (.builtin "list.append") [.ref a, v]) (fun _ s₂ => Q .next s₂) E s₁) (fun Q E h => wpAny_Expr_any ?_ hint rfl) fun v x h' tk _ kp rv => ?_
    · rw [arm_eval_Call, base_plain (o := .Name nn p) rfl]
      refine wpAny_bind (own_name S st hv hd1 hd2 hr (fun v q => nomatch q) fun a ha ho => wpAny_bind (wpAny_standAt ?_))
      unfold methodCall
      have hf : methodCallForm ([x].length + ([] : List Keyword).length) (backTo p2 (starEach [x] ev)) (backToKw p2 (keywordEach [] ev)) = true := by rw [star_plain hp]; rfl
      rw [hf]
      have e1 : methodCallPos true (.Name nn p) ev p1 p2 = pure p2 := by unfold methodCallPos; simp [hl]
      obtain ⟨sz, ys, hla, rs⟩ := id ho
      have hnd : ∃ o, s.heap.get? a = some o ∧ o.dict = none := let ⟨_, e⟩ := hla; ⟨_, e, rfl⟩
      refine wpAny_bind (wpAny_holding (getMethod_builtin hla.isList.typeIs F.plainAttrs_list F.slot_list_append F.type_list_append (fun b hb => by cases hb; exact hnd) ?_))
      refine wpAny_bind (wpAny_of_eq e1 ?_)
      have hplain : ((backTo p2 (starEach [x] ev)).any (·.1) || (backToKw p2 (keywordEach [] ev)).any (·.1.isNone)) = false := by rw [star_plain hp]; rfl
      refine callWith_of (P := fun _ => True) hplain (fun h _ => ⟨.machine, .inr (.inl rfl), Looks.of_pure rfl⟩) ?_
      rw [star_plain hp]
      refine evalArgs_plain (Calls.spliced_cons (wpAny_mono h (fun v s₁ hh => ?_) fun _ _ e => e))
      obtain ⟨a', ha', ho', hh⟩ := hh
      rw [ha] at ha'; cases ha'
      exact Calls.spliced_nil ⟨trivial, hh⟩
    · split
      · rename_i hlen
        obtain ⟨a, e1, e2, e3, e4⟩ := (st.step0 kp).R.own i nn _ hr (fun v q => nomatch q) hv
        intro Q E hQ
        refine ⟨a, e1, e4, ?_⟩
        obtain ⟨sz, ys, hla, rs⟩ := e4
        refine wpAny_list_append_plain hla (fun h'' hl'' hs'' => ?_) ?_
        · refine hQ .next h'' tk (SSt.turn (n := nn) (S.step0 kp) h1 h2 (st.step0 kp) e1 hr (fun v q => nomatch q) hs'' ⟨?_, ys ++ [x], ?_, ?_⟩ fun v q => nomatch q) rfl
          · simp only [List.length_append, List.length_singleton]
            unfold big; omega
          · have : ys.toArray.push x = (ys ++ [x]).toArray := by simp
            rw [← this]; exact hl''
          · have keep : ∀ b o, h'.get? b = some o → ¬ BO B₀ ow b → h''.get? b = some o := fun b o e nb => hs''.extBut b o (fun q => nb (q ▸ .inr ⟨i, e1⟩)) e
            exact RVs.append (rs.keep keep fun _ _ _ q => q) (RVs.one (rv.keep keep fun _ _ _ q => q))
        · have := rs.length
          show ys.toArray.size ≤ 16777216
          rw [List.size_toArray, this]
          omega
      · trivial

def putL (kvs : List (Str × Value)) (k : Str) (v : Value) : List (Str × Value) := match kvs with
  | [] => [(k, v)]
  | p :: r => if p.1 = k then (p.1, v) :: r else p :: putL r k v
theorem stored_put {k : Str} {v : Value} : ∀ {kvs : List (Str × Value)}, (kvs.map (·.1)).Nodup → stored kvs k v = putL kvs k v
  | [], _ => rfl
  | p :: r, hn => by
    rw [List.map_cons, List.nodup_cons] at hn
    by_cases hp : p.1 = k
    · have hr : r.map (fun kv => if kv.1 = k then (kv.1, v) else kv) = r := map_eq_self fun q hq => by
        rw [if_neg]
        intro e
        exact hn.1 (List.mem_map.mpr ⟨q, hq, e.trans hp.symm⟩)
      unfold stored putL
      rw [if_pos (by simp [hp]), if_pos hp, List.map_cons, if_pos hp, hr]
    · have ih := stored_put (k := k) (v := v) hn.2
      unfold stored at ih ⊢
      unfold putL
      rw [if_neg hp, ← ih]
      have e : ((p :: r).any fun kv => decide (kv.1 = k)) = r.any fun kv => decide (kv.1 = k) := by simp [hp]
      rw [e]
      split
      · rw [List.map_cons, if_neg hp]
      · rfl
theorem RVd.put {B : Addr → Prop} {h : Heap} {k : Str} {f : FV} {v : Value} (rv : RV K h B f v) : ∀ {l : List (Str × FV)} {kvs : List (Str × Value)}, RVd K h B l kvs → RVd K h B (dctPut l k f) (putL kvs k v)
  | [], _, r => by subst r; exact ⟨(k, v), [], rfl, ⟨rfl, rv⟩, rfl⟩
  | (k', f') :: l, _, ⟨⟨k'', x⟩, q, e, ⟨r1, r2⟩, r⟩ => by
    subst e
    dsimp only at r1
    subst r1
    unfold dctPut putL
    by_cases hk : k'' = k
    · rw [if_pos (by simpa using hk), if_pos hk]
      exact ⟨(k'', v), q, rfl, ⟨rfl, rv⟩, r⟩
    · rw [if_neg (by simpa using hk), if_neg hk]
      exact ⟨(k'', x), _, rfl, ⟨rfl, r2⟩, RVd.put rv r⟩
theorem dctPutLenS {k : Str} {f : FV} : ∀ l : List (Str × FV), (dctPut l k f).length ≤ l.length + 1
  | [] => by simp [dctPut]
  | p :: l => by
    unfold dctPut
    split
    · simp
    · have := dctPutLenS (k := k) (f := f) l
      simp only [List.length_cons]
      omega

theorem put_stmt {i : Nat} {nn : Str} {p p1 q : Pos} {x y : Expr} {a b : CE} (hv : nm.vs[i]? = some nn) (hd1 : (nn == ("__debug__" : Str)) = false) (hd2 : (nn == ("__classdict__" : Str)) = false) (hc : notComp x = true) (hwb : SE K C n nm sc y b) (hw : SE K C n nm sc x a)
    (hs : ev.scope = sc) (rm : Room A n) (S : SSt K A fe outer B₀ pl ow₀ hE nm ev ρ s.heap) :
    EndsS K A fe outer B₀ pl ow₀ hE nm ev (exS C ρ (.put i b a)) s (exec (.Assign [.Subscript (.Name nn p) y p1] x q) ev) := by
  obtain ⟨ow, m, cm, h1, h2, st⟩ := S.st
  rw [exS]
  cases hg : getD' ρ i with
  | none => trivial
  | some l =>
    dsimp only
    have hr := getD_some hg
    refine EndsP.expr S (hw A fe outer _ ev ow ρ [] m cm s hs rm st).1 (P' := fun v s₁ Q E => wpAny (model K.prog K.w) A (eval (.Name nn p) ev) (fun ov s₂ => wpAny (model K.prog K.w) A (eval y ev) (fun iv s₃ => wpAny (model K.prog K.w) A (setItem ov iv v) (fun _ => Q .next) E s₃) E s₂) E s₁)
      (fun Q E h => wpAny_Assign_Subscript h (swap_none hc)) fun v x h' tk _ kp rv => ?_
    have S1 := S.step0 kp
    have st1 := st.step0 kp
    obtain ⟨d, e1, _⟩ := st1.R.own i nn _ hr (fun v q => nomatch q) hv
    refine EndsP.expr (s := { s with heap := h', toks := tk }) S1 (hwb A fe outer _ ev ow ρ [] m cm { s with heap := h', toks := tk } hs rm st1).1 (P' := fun iv s₁ Q E => wpAny (model K.prog K.w) A (setItem (.ref d) iv x) (fun _ => Q .next) E s₁)
      (fun Q E h => own_name (s := { s with heap := h', toks := tk }) S1 st1 hv hd1 hd2 hr (fun v q => nomatch q) fun d' e1' _ => by rw [e1] at e1'; cases e1'; exact h) fun k iv h'' tk' hkk kp' rk => ?_
    clear hkk
    cases k <;> first | trivial | skip
    rename_i k
    dsimp only
    split
    · rename_i hlen
      have S2 := S1.step0 kp'
      have st2 := st1.step0 kp'
      have rv2 := rv.step0 st1.I kp'
      obtain ⟨szk, t, rfl⟩ := rk
      obtain ⟨d', e1', e2, e3, e4⟩ := st2.R.own i nn _ hr (fun v q => nomatch q) hv
      rw [e1] at e1'; cases e1'
      obtain ⟨sz, kvs, ns, hd, rd⟩ := e4
      intro Q E hQ
      have hkl := rd.length
      refine wpAny_setItem_pairs (knd := strKind K.prog K.w) (strKind_is K.prog K.w k t) hd (fun h3 hd3 hs3 => ?_) ?_
      · have hnd : (kvs.map (·.1)).Nodup := by obtain ⟨_, _, _, _, _, _, _, _, hn⟩ := hd; exact hn
        rw [stored_put hnd] at hd3
        have keep : ∀ b o, h''.get? b = some o → ¬ BO B₀ ow b → h3.get? b = some o := fun b o e nb => hs3.extBut b o (fun q => nb (q ▸ .inr ⟨i, e1⟩)) e
        refine hQ .next h3 _ (SSt.turn (n := nn) S2 h1 h2 st2 e1 hr (fun v q => nomatch q) hs3 ⟨?_, _, ns, hd3, ((rd.put rv2)).keep keep fun _ _ _ q => q⟩ fun v q => nomatch q) rfl
        have := dctPutLenS (k := k) (f := v) l
        unfold big; omega
      · show kvs.length ≤ 16777216
        omega
    · trivial

theorem aug_stmt {f : Prim} {i : Nat} {nn : Str} {p q : Pos} {op : Operator} {x : Expr} {a : CE} (ho : iopOf op = some f) (hv : nm.vs[i]? = some nn) (hk : sName sc nn) (hd2 : (nn == ("__classdict__" : Str)) = false) (hw : SE K C n nm sc x a) (hs : ev.scope = sc) (rm : Room A n) (S : SSt K A fe outer B₀ pl ow₀ hE nm ev ρ s.heap) :
    EndsS K A fe outer B₀ pl ow₀ hE nm ev (exS C ρ (.aug f i a)) s (exec (.AugAssign (.Name nn p) op x q) ev) := by
  obtain ⟨ow, m, cm, h1, h2, st⟩ := S.st
  rw [exS]
  unfold getV
  split
  · rename_i v hi
    have hkind : ev.kindOf nn = some .local ∨ ev.kindOf nn = some .cell := by unfold Env.kindOf; rw [hs]; exact hk
    obtain ⟨y, e1, r1⟩ := st.R.fv i nn v hi hv (by rw [S.ncs]; simp) (by rcases hkind with h | h <;> rw [h] <;> simp) (by rcases hkind with h | h <;> rw [h] <;> simp)
    unfold thenE
    dsimp only
    cases v <;> first | trivial | skip
    rename_i j
    have ld : ∀ {Q : Value → Shared → Prop} {E : Value → Shared → Prop}, Q y s → wpAny (model K.prog K.w) A (loadName ev nn) Q E s := fun {Q E} hq => by
      unfold lookV at e1
      rcases hkind with h | h
      · rw [h] at e1; exact wpAny_loadName_local st.W.kind h st.R.fr.ns e1 hq
      · rw [h] at e1
        dsimp only at e1
        split at e1
        · rename_i z
          obtain ⟨c, hc⟩ := Option.isSome_iff_exists.mp z
          exact wpAny_loadName_cell st.W.kind h hc (e1 ▸ st.R.fr.cell nn c hc) hq
        · cases e1
    refine EndsP.expr (r := evE C ρ [] a) S (hw A fe outer _ ev ow ρ [] m cm s hs rm st).1 (P' := fun v s₁ Q E => wpAny (model K.prog K.w) A (inplaceOp op y v) (fun r s₃ => wpAny (model K.prog K.w) A (storeName ev nn r) (fun _ => Q .next) E s₃) E s₁)
      (fun Q E h => wpAny_AugAssign_Name (ld h)) fun u z h' tk _ kp ru => ?_
    have r1' := r1.step0 st.I kp
    refine EndsP.expr (s := { s with heap := h', toks := tk }) (S.step0 kp) (iop_ok (s := { s with heap := h', toks := tk }) ho r1' ru ⟨j, rfl⟩) (P' := fun v s₁ Q E => wpAny (model K.prog K.w) A (storeName ev nn v) (fun _ => Q .next) E s₁) (fun Q E h => h) fun w xw h'' tk' _ kp' rw => ?_
    intro Q E hQ
    exact SSt.store (s := { s with heap := h'', toks := tk' }) ((S.step0 kp).step0 kp') h1 h2 ((st.step0 kp).step0 kp') hv hkind rw fun h3 tk3 _ S' _ => hQ .next h3 tk3 S' rfl
  · trivial

theorem ret_stmt {x : Expr} {a : CE} {p : Pos} (hw : SE K C n nm sc x a) (hs : ev.scope = sc) (rm : Room A n) (S : SSt K A fe outer B₀ pl ow₀ hE nm ev ρ s.heap) :
    EndsS K A fe outer B₀ pl ow₀ hE nm ev (exS C ρ (.ret a)) s (exec (.Return (some x) p) ev) := by
  obtain ⟨ow, m, cm, h1, h2, st⟩ := S.st
  rw [exS]
  refine EndsP.expr S (hw A fe outer _ ev ow ρ [] m cm s hs rm st).1 (P' := fun v s₁ Q E => Q (.ret v) s₁) (fun Q E h => wpAny_Return_some h) fun v x h' tk _ kp rv => EndsP.done (s := { s with heap := h', toks := tk }) (S.step0 kp) ⟨x, rfl, rv.keep (fun _ _ e _ => e) fun _ _ _ q => .inl q⟩ fun Q E q => q
theorem ret0_stmt {p : Pos} (S : SSt K A fe outer B₀ pl ow₀ hE nm ev ρ s.heap) : EndsS K A fe outer B₀ pl ow₀ hE nm ev (exS C ρ .ret0) s (exec (.Return none p) ev) := by
  rw [exS]
  exact EndsP.done S ⟨.none, rfl, rfl⟩ fun Q E q => wpAny_Return_none q
theorem ite_stmt {t : Expr} {a : CE} {xs ys : List Stmt} {as bs : List CS} {p : Pos} (hw : SE K C n nm sc t a) (ha : SY K C n nm sc pl (.b xs) (.b as)) (hb : SY K C n nm sc pl (.b ys) (.b bs)) (hs : ev.scope = sc) (rm : Room A n) (S : SSt K A fe outer B₀ pl ow₀ hE nm ev ρ s.heap) :
    EndsS K A fe outer B₀ pl ow₀ hE nm ev (exS C ρ (.ite a as bs)) s (exec (.If t xs ys p) ev) := by
  obtain ⟨ow, m, cm, h1, h2, st⟩ := S.st
  rw [exS]
  exact EndsP.test S (hw A fe outer _ ev ow ρ [] m cm s hs rm st).2 (P' := fun b s₁ Q E => if b then wpAny (model K.prog K.w) A (execs xs ev) Q E s₁ else wpAny (model K.prog K.w) A (execs ys ev) Q E s₁) (fun Q E h => wpAny_If h)
    (fun h' tk kp => ha A fe outer B₀ ev ow₀ hE ρ { s with heap := h', toks := tk } hs rm (S.step0 kp)) fun h' tk kp => hb A fe outer B₀ ev ow₀ hE ρ { s with heap := h', toks := tk } hs rm (S.step0 kp)
end
end Mine
end

section
open PySem PySem.W PySem.Calls PyProof.Rows
namespace Mine
section
variable {K : Cfg} {A : Around} {fe ev : Env} {outer : List Env} {B₀ : Addr → Prop} {pl : Nat → Bool} {ow₀ : Nat → Option Addr} {hE : Heap} {nm : Nms} {ρ : Env'} {s : Shared} {C : CallT} {n : Nat} {sc : Scope}

/-- what is owed where a tree of a statement ends -/
def Post (K : Cfg) (A : Around) (fe : Env) (outer : List Env) (B₀ : Addr → Prop) (pl : Nat → Bool) (ow₀ : Nat → Option Addr) (hE : Heap) (nm : Nms) (ev : Env) (r : SR) (s : Shared) (Q : Flow → Shared → Prop) (E : Value → Shared → Prop) : Prop := match r with
  | .no => True
  | .ok f ρ' => ∀ fl h' tk, SSt K A fe outer B₀ pl ow₀ hE nm ev ρ' h' → FlR K h' B₀ f fl → Q fl { s with heap := h', toks := tk }
  | .exc e ρ' => ∀ a h' tk, SSt K A fe outer B₀ pl ow₀ hE nm ev ρ' h' → ExcS K fe e a hE h' → E (.ref a) { s with heap := h', toks := tk }
theorem EndsP.of_post {r : SR} {P : (Flow → Shared → Prop) → (Value → Shared → Prop) → Prop} (h : r ≠ .no → ∀ Q E, Post K A fe outer B₀ pl ow₀ hE nm ev r s Q E → P Q E) : EndsP K A fe outer B₀ pl ow₀ hE nm ev r s P := by
  cases r with
  | no => trivial
  | ok f ρ' => exact fun Q E hQ => h (fun q => nomatch q) Q E hQ
  | exc e ρ' => exact fun Q E hQ => h (fun q => nomatch q) Q E hQ
theorem EndsP.post {r : SR} {P : (Flow → Shared → Prop) → (Value → Shared → Prop) → Prop} (h : EndsP K A fe outer B₀ pl ow₀ hE nm ev r s P) (hn : r ≠ .no) {Q : Flow → Shared → Prop} {E : Value → Shared → Prop} (hp : Post K A fe outer B₀ pl ow₀ hE nm ev r s Q E) : P Q E := by
  cases r with
  | no => exact absurd rfl hn
  | ok f ρ' => exact h Q E hp
  | exc e ρ' => exact h Q E hp

theorem whl_stmt {t : Expr} {a : CE} {xs : List Stmt} {as : List CS} {p : Pos} (hw : SE K C n nm sc t a) (hb : SY K C n nm sc pl (.b xs) (.b as)) (hs : ev.scope = sc) (rm : Room A n) (S : SSt K A fe outer B₀ pl ow₀ hE nm ev ρ s.heap) :
    EndsS K A fe outer B₀ pl ow₀ hE nm ev (exS C ρ (.whl a as)) s (exec (.While t xs [] p) ev) := by
  rw [exS]
  refine EndsP.of_post fun hno Q E hp => wpAny_While ?_
  generalize hr : whlGo (fun ρ => evE C ρ [] a) (fun ρ => exSs C ρ as) whlTurns ρ = r at hno hp
  refine codeAny_whileLoop (fun k s' => ∃ h tk ρ1, s' = { s with heap := h, toks := tk } ∧ SSt K A fe outer B₀ pl ow₀ hE nm ev ρ1 h ∧ whlGo (fun ρ => evE C ρ [] a) (fun ρ => exSs C ρ as) k ρ1 = r) ?_ whlTurns ⟨s.heap, s.toks, ρ, rfl, S, hr⟩
  rintro k s' ⟨h, tk, ρ1, rfl, S1, hk⟩
  obtain ⟨ow, m, cm, h1, h2, st⟩ := S1.st
  cases k with
  | zero => exact absurd hk.symm hno
  | succ k =>
    have hB := (hw A fe outer _ ev ow ρ1 [] m cm { s with heap := h, toks := tk } hs rm st).2
    have back : ∀ {a : Addr} {e : EK} {ρ' : Env'} {h' : Heap} {tk' : Nat}, r = .exc e ρ' → SSt K A fe outer B₀ pl ow₀ hE nm ev ρ' h' → ExcS K fe e a hE h' → notedBy (model K.prog K.w) A ev (cameBackBy (model K.prog K.w) A ev E) (.ref a) { s with heap := h', toks := tk' } := fun {a e ρ' h' tk'} q S' x => by
      subst q
      exact back_ok (s := { s with heap := h', toks := tk' }) S' x fun h'' S'' x'' => hp a h'' tk' S'' x''
    unfold whlGo at hk
    cases ht : evE C ρ1 [] a with
    | no => rw [ht] at hk; exact absurd hk.symm hno
    | exc e =>
      rw [ht] at hk hB
      exact hB _ _ fun b h' tk' kp x => back hk.symm (S1.step0 kp) (x.low S1.kp).toS
    | ok v =>
      rw [ht] at hk hB
      dsimp only at hk
      unfold resT at hB
      simp only [Res.bind_ok] at hB
      cases hv : v.truth with
      | none => rw [hv] at hk; exact absurd hk.symm hno
      | some b =>
        rw [hv] at hk hB
        cases b with
        | false =>
          dsimp only at hk
          refine hB _ _ fun c h' tk' kp rc => ?_
          cases rc
          rw [if_neg Bool.false_ne_true]
          refine wpAny_execs_nil ?_
          subst hk
          exact hp .next h' tk' (S1.step0 kp) rfl
        | true =>
          dsimp only at hk
          refine hB _ _ fun c h' tk' kp rc => ?_
          cases rc
          rw [if_pos rfl]
          have hbd := hb A fe outer B₀ ev ow₀ hE ρ1 { s with heap := h', toks := tk' } hs rm (S1.step0 kp)
          cases hx : exSs C ρ1 as with
          | no => rw [hx] at hk; exact absurd hk.symm hno
          | exc e ρ' =>
            rw [hx] at hk hbd
            exact hbd _ _ fun b h'' tk'' S' x => back hk.symm S' x
          | ok f ρ' =>
            rw [hx] at hk hbd
            cases f with
            | next =>
              dsimp only at hk
              refine hbd _ _ fun fl h'' tk'' S' rf => ?_
              cases rf
              exact ⟨k, Nat.lt_succ_self _, h'', tk'', ρ', rfl, S', hk⟩
            | ret v =>
              dsimp only at hk
              refine hbd _ _ fun fl h'' tk'' S' rf => ?_
              obtain ⟨x, rfl, rx⟩ := rf
              subst hk
              exact hp (.ret x) h'' tk'' S' ⟨x, rfl, rx⟩

/-! ## for -/
theorem St.stepX {B X : Addr → Prop} {ow : Nat → Option Addr} {m cm : Str → Option Value} {h h' : Heap} (st : St K A fe outer B nm ev ow ρ [] m cm h) (kp : Kp (frsOf fe outer) X h h') (hX : ∀ b, X b → B b) (d1 : ¬ X ev.locals) (d2 : ∀ n c, ev.cells.lookup n = some c → ¬ X c) (d3 : ∀ i a, ow i = some a → ¬ X a) (d4 : ∀ b ∈ frsOf fe outer, ¬ X b) :
    St K A fe outer B nm ev ow ρ [] m cm h' := by
  have hX' : ∀ b o, h.get? b = some o → X b → B b := fun b _ _ q => hX b q
  refine ⟨st.I.step kp hX' fun b hb q => absurd q (d4 b hb), st.W, st.O, ⟨ns_slots st.R.fr.ns fun o e => kp.old e d1, fun n c hc => cell_slots (st.R.fr.cell n c hc) fun o e => kp.old e (d2 n c hc)⟩, fun i n v g1 g2 g3 g4 g5 => ?_, fun i n v g1 _ => by simp at g1, fun i n lv g1 g2 g3 => ?_⟩
  · obtain ⟨x, e1, r1⟩ := st.R.fv i n v g1 g2 g3 g4 g5
    exact ⟨x, e1, r1.stepX st.I kp hX'⟩
  · obtain ⟨a, e1, e2, e3, e4⟩ := st.R.own i n lv g1 g2 g3
    exact ⟨a, e1, e2, e3, e4.stepX st.I (st.O.1 i a e1).1 (d3 i a e1) kp hX'⟩

/-- the iterator is out of sight again -/
theorem St.narrow {B W D : Addr → Prop} {ow : Nat → Option Addr} {m cm : Str → Option Value} {h h' : Heap} (st : St K A fe outer B nm ev ow ρ [] m cm h) (hD : ∀ b, D b → B b) (hDW : ∀ b, D b → ¬ W b) (hW : ∀ b, W b → B b) (hk : ∀ b o, ¬ W b → h.get? b = some o → h'.get? b = some o)
    (d1 : D ev.locals) (d2 : ∀ n c, ev.cells.lookup n = some c → D c) (d3 : ∀ i a, ow i = some a → D a) (d4 : ∀ b ∈ frsOf fe outer, D b) : St K A fe outer D nm ev ow ρ [] m cm h' := by
  have keep : ∀ b o, h.get? b = some o → ¬ B b → h'.get? b = some o := fun b o e nb => hk b o (fun q => nb (hW b q)) e
  have hB : ∀ b o, h.get? b = some o → D b → B b := fun b _ _ q => hD b q
  refine ⟨⟨fun b o e => ?_, st.I.frs, ?_, d4, fun b hb => ⟨(st.I.bb b (hD b hb)).1, let ⟨o, e⟩ := (st.I.bb b (hD b hb)).2; ⟨o, hk b o (hDW b hb) e⟩⟩, st.I.hd⟩, ⟨st.W.kind, st.W.gl, st.W.bl, st.W.frame, d1, d2, st.W.hc, st.W.apart⟩, st.O,
    ⟨ns_slots st.R.fr.ns fun o e => ⟨o.slots, hk _ o (hDW _ d1) e⟩, fun n c hc => cell_slots (st.R.fr.cell n c hc) fun o e => ⟨o.slots, hk _ o (hDW _ (d2 n c hc)) e⟩⟩, fun i n v g1 g2 g3 g4 g5 => ?_, fun i n v g1 _ => by simp at g1, fun i n lv g1 g2 g3 => ?_⟩
  · refine hk b o (fun q => ?_) (st.I.stay b o e)
    have := (st.I.bb b (hW b q)).1
    rw [e] at this; cases this
  · exact funFrames_of st.I.ff fun b hb o ho hd => ⟨o, hk b o (hDW b (d4 b hb)) ho, hd⟩
  · obtain ⟨x, e1, r1⟩ := st.R.fv i n v g1 g2 g3 g4 g5
    exact ⟨x, e1, r1.keep keep hB⟩
  · obtain ⟨a, e1, e2, e3, e4⟩ := st.R.own i n lv g1 g2 g3
    refine ⟨a, e1, e2, d3 i a e1, ?_⟩
    have up : ∀ o, h.get? a = some o → h'.get? a = some o := fun o e => hk a o (hDW a (d3 i a e1)) e
    cases lv with
    | fv _ => exact e4
    | ml l => obtain ⟨sz, ys, hl, rs⟩ := e4; exact ⟨sz, ys, hl.at up, rs.keep keep hB⟩
    | md l => obtain ⟨sz, kvs, ns, ⟨o, es, ep, ho, q⟩, rs⟩ := e4; exact ⟨sz, kvs, ns, ⟨o, es, ep, up o ho, q⟩, rs.keep keep hB⟩

/-- a state that a loop's body starts from, and comes back to -/
theorem St.loop {B : Addr → Prop} {ow : Nat → Option Addr} {m cm : Str → Option Value} {h : Heap} (st : St K A fe outer B nm ev ow ρ [] m cm h) (nd : nm.vs.Nodup) (ncs : nm.cs = []) (d3 : ∀ i a, ow i = some a → B a) :
    SSt K A fe outer B (fun _ => true) ow h nm ev ρ h := by
  have e : BO B ow = B := funext fun b => propext ⟨fun q => q.elim id fun ⟨i, q⟩ => d3 i b q, .inl⟩
  exact ⟨st.I.stay, nd, ncs, st.W.bl', st.W.bc, st.I.bfr, fun i a _ q => d3 i a q, .refl .., ow, m, cm, fun _ _ => rfl, fun _ _ q => (nomatch q), by rw [e]; exact st⟩
theorem SSt.unloop {B : Addr → Prop} {ow : Nat → Option Addr} {h₀ h : Heap} (S : SSt K A fe outer B (fun _ => true) ow h₀ nm ev ρ h) (d3 : ∀ i a, ow i = some a → B a) : ∃ m cm, St K A fe outer B nm ev ow ρ [] m cm h := by
  obtain ⟨ow', m, cm, h1, _, st⟩ := S.st
  have e1 : ow' = ow := funext fun i => h1 i rfl
  subst e1
  have e : BO B ow' = B := funext fun b => propext ⟨fun q => q.elim id fun ⟨i, q⟩ => d3 i b q, .inl⟩
  exact ⟨m, cm, e ▸ st⟩

theorem tgtF_ok {tgt : Expr} {is : List Nat} {x : FV} {v : Value} {vs : List FV} {B : Addr → Prop} {ow : Nat → Option Addr} {Q : Unit → Shared → Prop} {E : Value → Shared → Prop} (ht : TgtF nm.vs sc tgt is) (hs : ev.scope = sc) (S : SSt K A fe outer B (fun _ => true) ow hE nm ev ρ s.heap) (d3 : ∀ i a, ow i = some a → B a)
    (hsp : spread (if is.length = 1 then 0 else is.length) x = some vs) (r : SpR K s.heap B (if is.length = 1 then 0 else is.length) x v)
    (hQ : ∀ h' tk, SSt K A fe outer B (fun _ => true) ow hE nm ev (setAll ρ is vs) h' → Q () { s with heap := h', toks := tk }) : wpAny (model K.prog K.w) A (assign tgt ev v) Q E s := by
  obtain ⟨m, cm, st⟩ := S.unloop d3
  have e : BO B ow = B := funext fun b => propext ⟨fun q => q.elim id fun ⟨i, q⟩ => d3 i b q, .inl⟩
  have st' : St K A fe outer (BO B ow) nm ev ow ρ [] m cm s.heap := e.symm ▸ st
  cases ht with
  | one hv hk =>
    rename_i i nn p
    have e2 : vs = [x] := by simpa [spread] using hsp.symm
    subst e2
    have rx : RV K s.heap (BO B ow) x v := by rw [e]; simpa [SpR] using r
    refine PySem.wpAny_assign_Name ?_
    exact SSt.store S (fun _ _ => rfl) (fun _ _ q => nomatch q) st' hv (by unfold Env.kindOf; rw [hs]; exact hk) rx fun h' tk _ S' _ => hQ h' tk S'
  | two hn =>
    rename_i i j es k p
    obtain ⟨l, a, us, rfl, rfl, hT, rs⟩ : ∃ l a us, x = .tup l ∧ v = .ref a ∧ IsTup s.heap a (List.toArray us) ∧ RVs K s.heap B l us := by simpa [SpR] using r
    have hl : l = vs ∧ l.length = 2 := by
      replace hsp : (if l.length = 2 then some l else none) = some vs := hsp
      split at hsp
      · cases hsp; rename_i h; exact ⟨rfl, h⟩
      · cases hsp
    obtain ⟨rfl, hl⟩ := hl
    exact tuple_ok hn hs S (fun _ _ => rfl) (fun _ _ q => nomatch q) st' (by simpa using hl) hT (e.symm ▸ rs) fun h' tk m' cm' S' _ => hQ h' tk S'

set_option maxHeartbeats 1000000 in
theorem for_stmt (O : Ok K) {tgt iter : Expr} {is : List Nat} {sr : Src} {es : List Expr} {as : List CE} {xs : List Stmt} {bs : List CS} {p : Pos} (ht : TgtF nm.vs sc tgt is) (hsr : SrcOf sc iter sr es) (hpo : pairOkF sr is.length = true)
    (hl : SL K C n nm sc es as) (ha : All2 (fun x a => plainE x = true ∧ SE K C n nm sc x a) es as) (hb : SY K C n nm sc (fun _ => true) (.b xs) (.b bs)) (hs : ev.scope = sc) (rm : Room A n) (S : SSt K A fe outer B₀ pl ow₀ hE nm ev ρ s.heap) :
    EndsS K A fe outer B₀ pl ow₀ hE nm ev (exS C ρ (.for is sr as bs)) s (exec (.For tgt iter xs [] p) ev) := by
  obtain ⟨ow, m, cm, h1, h2, st⟩ := S.st
  rw [exS]
  have htg : sr = .items ∨ sr = .enum → (if is.length = 1 then 0 else is.length) = 2 ∧ ∃ elts kk pos, tgt = .Tuple elts kk pos := by
    rintro (rfl | rfl) <;> cases ht <;> first | exact ⟨rfl, _, _, _, rfl⟩ | cases hpo
  have hfs : ∀ x, foldedSetIterable iter ev x = pure x := by
    intro x
    cases hsr <;> first | rfl | skip
    rename_i h
    cases iter <;> first | rfl | cases h
  have hsrc := src_ends (m := if is.length = 1 then 0 else is.length) (tgt := tgt) O htg hsr hs rm (fun x a hx ha' => by subst hx; subst ha'; cases ha with | cons h _ => exact h.2) hl (all2_plain ha) ha.length_eq st
  generalize (evEs C ρ [] as).bind (srcItems sr) = r0 at hsrc
  cases r0 with
  | no => trivial
  | exc e => exact fun Q E hQ => wpAny_For (hsrc _ _ fun a h' tk kp x => hQ a h' tk (S.step0 kp) ((x.low S.kp).toS)) hfs
  | ok items =>
    refine EndsP.of_post fun hno Q E hp => wpAny_For (hsrc _ _ fun x hx1 tk1 kp1 itb => itb { s with heap := hx1, toks := tk1 } rfl _ _ fun it hx2 tk2 kp2 hit => ?_) hfs
    obtain ⟨I, W, St₀, rfl, G, st₀, fresh⟩ := hit
    dsimp only at kp2 hp hno ⊢
    generalize hr : forGo (fun ρ => exSs C ρ bs) is (if is.length = 1 then 0 else is.length) items ρ = r at hno hp
    have kp02 := kp1.trans0 kp2
    have nW : ∀ b, BO B₀ ow b → ¬ W b := fun b hb q => by
      obtain ⟨o, ho⟩ := (st.I.bb b hb).2
      rw [(fresh b q).1] at ho; cases ho
    have nF : ∀ b ∈ frsOf fe outer, ¬ W b := fun b hb => nW b (.inl (S.bfr b hb))
    have d1 : BO B₀ ow ev.locals := .inl S.bl
    have d2 : ∀ n c, ev.cells.lookup n = some c → BO B₀ ow c := fun n c hc => .inl (S.bc n c hc)
    have d3 : ∀ i a, ow i = some a → BO B₀ ow a := fun i a q => .inr ⟨i, q⟩
    have d3' : ∀ i a, ow i = some a → (fun b => BO B₀ ow b ∨ W b) a := fun i a q => .inl (d3 i a q)
    have XB : ∀ b, XO ev (fun _ => true) ow b → BO B₀ ow b := fun b q => by
      rcases q with rfl | ⟨n, q⟩ | ⟨i, _, q⟩
      · exact d1
      · exact d2 n b q
      · exact d3 i b q
    -- the state at the loop's start
    have st2 : St K A fe outer (fun b => BO B₀ ow b ∨ W b) nm ev ow ρ [] m cm hx2 := by
      have IN := st.I.wide kp02 fresh
      refine ⟨IN, ⟨st.W.kind, st.W.gl, st.W.bl, st.W.frame, .inl d1, fun n c hc => .inl (d2 n c hc), st.W.hc, st.W.apart⟩, st.O, (st.R.step0 st.I st.O kp02).fr, fun i n v g1 g2 g3 g4 g5 => ?_, fun i n v g1 _ => by simp at g1, fun i n lv g1 g2 g3 => ?_⟩
      · obtain ⟨x, e1, r1⟩ := st.R.fv i n v g1 g2 g3 g4 g5
        exact ⟨x, e1, r1.wideN st.I kp02 fresh⟩
      · obtain ⟨a, e1, e2, e3, e4⟩ := st.R.own i n lv g1 g2 g3
        exact ⟨a, e1, e2, .inl e3, e4.wideN st.I kp02 fresh (st.O.1 i a e1).1⟩
    -- back to what stood before the loop
    have out : ∀ {ρ' : Env'} {h h' : Heap} {m cm : Str → Option Value}, St K A fe outer (fun b => BO B₀ ow b ∨ W b) nm ev ow ρ' [] m cm h → Kp (frsOf fe outer) (XO ev (fun _ => true) ow) s.heap h → (∀ b o, ¬ W b → h.get? b = some o → h'.get? b = some o) →
        SSt K A fe outer B₀ pl ow₀ hE nm ev ρ' h' := fun {ρ' h h' m cm} st' kp' hk => by
      have st'' : St K A fe outer (BO B₀ ow) nm ev ow ρ' [] m cm h' := St.narrow (D := BO B₀ ow) st' (fun b q => .inl q) nW (fun b q => .inr q) hk d1 d2 d3 fun b hb => .inl (S.bfr b hb)
      refine ⟨S.base, S.nd, S.ncs, S.bl, S.bc, S.bfr, S.bp, S.kp.trans (kp'.then_butX (fun b q => (fresh b q).1) hk) (fun _ q => q) (fun b o e q => ?_), ow, m, cm, h1, h2, st''⟩
      rcases q with rfl | q | ⟨i, _, q⟩
      · exact .inl rfl
      · exact .inr (.inl q)
      · cases hpi : pl i with
        | true => exact .inr (.inr ⟨i, hpi, (h1 i hpi).symm.trans q⟩)
        | false => rw [(h2 i b hpi q).2] at e; cases e
    refine codeAny_forLoop_any (fun k s' => ∃ h tk ρ1 rest m1 cm1, s' = { s with heap := h, toks := tk } ∧ k = rest.length ∧ forGo (fun ρ => exSs C ρ bs) is (if is.length = 1 then 0 else is.length) rest ρ1 = r ∧
      St K A fe outer (fun b => BO B₀ ow b ∨ W b) nm ev ow ρ1 [] m1 cm1 h ∧ St₀ (fun b => BO B₀ ow b ∨ W b) rest h ∧ Kp (frsOf fe outer) (XO ev (fun _ => true) ow) s.heap h) ?_ items.length ⟨hx2, tk2, ρ, items, m, cm, rfl, rfl, hr, st2, st₀, kp02.mono fun _ q => q.elim⟩
    rintro k s' ⟨h, tk, ρ1, rest, m1, cm1, rfl, rfl, hk, st1, stI, kp⟩
    cases rest with
    | nil =>
      refine G.done (fun b => BO B₀ ow b ∨ W b) _ _ _ (fun b q => .inr q) stI fun h' tk' hk' => wpAny_execs_nil ?_
      unfold forGo at hk
      subst hk
      exact hp .next h' tk' (out st1 kp hk') rfl
    | cons x rest =>
      unfold forGo at hk
      cases hsp : spread (if is.length = 1 then 0 else is.length) x with
      | none => rw [hsp] at hk; exact absurd hk.symm hno
      | some vs =>
        rw [hsp] at hk
        dsimp only at hk
        refine G.step' (fun b => BO B₀ ow b ∨ W b) x rest (fun b q => .inr q) stI (by rw [hsp]; exact fun q => nomatch q) fun v h1' tk1' hk1 sp stI1 => ?_
        have kpW : Kp (frsOf fe outer) W h h1' := kp_keep hk1 fun b q => G.live _ _ _ stI1 b q
        have st1' := st1.stepX kpW (fun b q => .inr q) (nW _ d1) (fun n c hc => nW c (d2 n c hc)) (fun i a q => nW a (d3 i a q)) nF
        have kp1' := kp.then_butX (fun b q => (fresh b q).1) hk1
        have S1 := st1'.loop S.nd S.ncs d3'
        refine tgtF_ok (s := { s with heap := h1', toks := tk1' }) ht hs S1 d3' hsp sp fun h2' tk2' S2 => ?_
        have hbd := hb A fe outer (fun b => BO B₀ ow b ∨ W b) ev ow h1' (setAll ρ1 is vs) { s with heap := h2', toks := tk2' } hs rm S2
        cases hx : exSs C (setAll ρ1 is vs) bs with
        | no => rw [hx] at hk; exact absurd hk.symm hno
        | exc e ρ' =>
          rw [hx] at hk hbd
          dsimp only at hk
          subst hk
          refine hbd _ _ fun a h3 tk3 S3 x3 => ?_
          obtain ⟨m3, cm3, st3⟩ := S3.unloop d3'
          have kp3 : Kp (frsOf fe outer) (XO ev (fun _ => true) ow) s.heap h3 := kp1'.trans S3.kp (fun _ q => q) (fun _ _ _ q => q)
          have So := out st3 kp3 fun _ _ _ e => e
          exact back_ok (s := { s with heap := h3, toks := tk3 }) So ((x3.low kp1').low S.kp) fun h'' S'' x'' => hp a h'' tk3 S'' x''
        | ok f ρ' =>
          rw [hx] at hk hbd
          refine hbd _ _ fun fl h3 tk3 S3 rf => ?_
          obtain ⟨m3, cm3, st3⟩ := S3.unloop d3'
          have kp3 : Kp (frsOf fe outer) (XO ev (fun _ => true) ow) s.heap h3 := kp1'.trans S3.kp (fun _ q => q) (fun _ _ _ q => q)
          cases f with
          | next =>
            dsimp only at hk
            cases rf
            refine ⟨rest.length, Nat.lt_succ_self _, h3, tk3, ρ', rest, m3, cm3, rfl, rfl, hk, st3, ?_, kp3⟩
            refine G.frame _ _ _ _ _ (fun b q => .inr q) stI1 (fun b o e q => ?_) fun _ _ _ q => q
            rcases q with q | q
            · exact S3.kp.keep b o e (fun z => q (.inl (XB b z))) fun z => q (.inl (.inl (S.bfr b z)))
            · exact S3.kp.keep b o e (fun z => nW b (XB b z) q) fun z => nF b z q
          | ret u =>
            dsimp only at hk
            obtain ⟨y, rfl, ry⟩ := rf
            subst hk
            exact hp (.ret y) h3 tk3 (out st3 kp3 fun _ _ _ e => e) ⟨y, rfl, ry.keep (fun _ _ e _ => e) fun _ _ _ q => .inl (.inl q)⟩
end
end Mine
end

section
open PySem PySem.W PySem.Calls PyProof.Rows
namespace Mine
section
variable {K : Cfg} {A : Around} {fe ev : Env} {outer : List Env} {B₀ : Addr → Prop} {pl : Nat → Bool} {ow₀ : Nat → Option Addr} {hE h h' : Heap} {nm : Nms} {ρ : Env'} {s : Shared} {C : CallT} {n : Nat} {sc : Scope}

theorem BO_or {B₀ N : Addr → Prop} {ow : Nat → Option Addr} : BO (fun b => B₀ b ∨ N b) ow = fun b => BO B₀ ow b ∨ N b := funext fun b => propext ⟨fun q => by
    rcases q with (q | q) | q
    · exact .inl (.inl q)
    · exact .inr q
    · exact .inl (.inr q), fun q => by
    rcases q with (q | q) | q
    · exact .inl (.inl q)
    · exact .inr q
    · exact .inl (.inr q)⟩
theorem SSt.wideSt {N : Addr → Prop} {ow : Nat → Option Addr} {m cm : Str → Option Value} (S : SSt K A fe outer B₀ pl ow₀ hE nm ev ρ h) (st : St K A fe outer (BO B₀ ow) nm ev ow ρ [] m cm h) (kp : Kp (frsOf fe outer) N0 h h') (hN : ∀ b, N b → h.get? b = none ∧ ∃ o, h'.get? b = some o) :
    St K A fe outer (BO (fun b => B₀ b ∨ N b) ow) nm ev ow ρ [] m cm h' := by
  rw [BO_or]
  have IN := st.I.wide kp hN
  refine ⟨IN, ⟨st.W.kind, st.W.gl, st.W.bl, st.W.frame, .inl (.inl S.bl), fun n c hc => .inl (.inl (S.bc n c hc)), st.W.hc, st.W.apart⟩, st.O, (st.R.step0 st.I st.O kp).fr, fun i n v g1 g2 g3 g4 g5 => ?_, fun i n v g1 _ => by simp at g1, fun i n lv g1 g2 g3 => ?_⟩
  · obtain ⟨x, e1, r1⟩ := st.R.fv i n v g1 g2 g3 g4 g5
    exact ⟨x, e1, r1.wideN st.I kp hN⟩
  · obtain ⟨a, e1, e2, e3, e4⟩ := st.R.own i n lv g1 g2 g3
    exact ⟨a, e1, e2, .inl e3, e4.wideN st.I kp hN (st.O.1 i a e1).1⟩
theorem wide_h2 {N : Addr → Prop} {ow : Nat → Option Addr} {m cm : Str → Option Value} (st : St K A fe outer (BO B₀ ow) nm ev ow ρ [] m cm h) (h2 : ∀ i a, pl i = false → ow i = some a → ¬ B₀ a ∧ hE.get? a = none) (hN : ∀ b, N b → h.get? b = none ∧ ∃ o, h'.get? b = some o) :
    ∀ i a, pl i = false → ow i = some a → ¬ (B₀ a ∨ N a) ∧ hE.get? a = none := fun i a hp q => by
  refine ⟨?_, (h2 i a hp q).2⟩
  rintro (q' | q')
  · exact (h2 i a hp q).1 q'
  · obtain ⟨o, ho⟩ := (st.I.bb a (.inr ⟨i, q⟩)).2
    rw [(hN a q').1] at ho; cases ho
/-- new objects go out of sight -/
theorem SSt.wide {N : Addr → Prop} (S : SSt K A fe outer B₀ pl ow₀ hE nm ev ρ h) (kp : Kp (frsOf fe outer) N0 h h') (hN : ∀ b, N b → h.get? b = none ∧ ∃ o, h'.get? b = some o) : SSt K A fe outer (fun b => B₀ b ∨ N b) pl ow₀ hE nm ev ρ h' := by
  obtain ⟨ow, m, cm, h1, h2, st⟩ := S.st
  exact ⟨S.base, S.nd, S.ncs, .inl S.bl, fun n c hc => .inl (S.bc n c hc), fun b hb => .inl (S.bfr b hb), fun i a hp q => .inl (S.bp i a hp q), S.kp.trans kp (fun _ q => q) (fun _ _ _ q => q.elim), ow, m, cm, h1, wide_h2 st h2 hN, S.wideSt st kp hN⟩
/-- and come back, or are forgotten -/
theorem SSt.thin {N : Addr → Prop} (S : SSt K A fe outer (fun b => B₀ b ∨ N b) pl ow₀ hE nm ev ρ h) (hN : ∀ b, N b → hE.get? b = none) (hNB : ∀ b, B₀ b → ¬ N b) (bl : B₀ ev.locals) (bc : ∀ n c, ev.cells.lookup n = some c → B₀ c) (bfr : ∀ b ∈ frsOf fe outer, B₀ b) (bp : ∀ i a, pl i = true → ow₀ i = some a → B₀ a)
    (hk : ∀ b o, ¬ N b → h.get? b = some o → h'.get? b = some o) : SSt K A fe outer B₀ pl ow₀ hE nm ev ρ h' := by
  obtain ⟨ow, m, cm, h1, h2, st⟩ := S.st
  refine ⟨S.base, S.nd, S.ncs, bl, bc, bfr, bp, S.kp.then_butX hN hk, ow, m, cm, h1, fun i a hp q => ⟨fun z => (h2 i a hp q).1 (.inl z), (h2 i a hp q).2⟩, ?_⟩
  have hD : ∀ i a, ow i = some a → ¬ N a := fun i a q z => by
    cases hp : pl i with
    | true => exact hNB a (bp i a hp ((h1 i hp).symm.trans q)) z
    | false => exact (h2 i a hp q).1 (.inr z)
  refine St.narrow (D := BO B₀ ow) (W := N) st (fun b q => ?_) (fun b q => ?_) (fun b q => .inl (.inr q)) hk (.inl bl) (fun n c hc => .inl (bc n c hc)) (fun i a q => .inr ⟨i, q⟩) fun b hb => .inl (bfr b hb)
  · rcases q with q | q
    · exact .inl (.inl q)
    · exact .inr q
  · rcases q with q | ⟨i, q⟩
    · exact hNB b q
    · exact hD i b q

/-- a new list that stands out of sight is put under a name -/
theorem SSt.claim {M : Model} {E : Value → Shared → Prop} {Q : Unit → Shared → Prop} {i : Nat} {nn : Str} {D : Addr}
    (S : SSt K A fe outer (fun b => B₀ b ∨ b = D) pl ow₀ hE nm ev ρ s.heap) (hp : pl i = false) (hv : nm.vs[i]? = some nn) (hk : ev.kindOf nn = some .local ∨ ev.kindOf nn = some .cell) (hDB : ¬ B₀ D) (hDE : hE.get? D = none) (hl : s.heap.PlainList D #[])
    (bl : B₀ ev.locals) (bc : ∀ n c, ev.cells.lookup n = some c → B₀ c) (bfr : ∀ b ∈ frsOf fe outer, B₀ b) (bp : ∀ i a, pl i = true → ow₀ i = some a → B₀ a)
    (hq : ∀ h' tk, SSt K A fe outer B₀ pl ow₀ hE nm ev (setV ρ i (.ml [])) h' → Q () { s with heap := h', toks := tk }) : wpAny M A (storeName ev nn (.ref D)) Q E s := by
  obtain ⟨ow, m, cm, h1, h2, st⟩ := S.st
  have hk' : ev.kindOf nn = some .local ∨ (ev.kindOf nn = some .cell ∧ (ev.cells.lookup nn).isSome = true) := hk.imp id fun q => ⟨q, st.W.hc nn q⟩
  have old : ∀ j a, ow j = some a → a ≠ D := fun j a q e => by
    subst e
    cases hpj : pl j with
    | true => exact hDB (bp j a hpj ((h1 j hpj).symm.trans q))
    | false => exact (h2 j a hpj q).1 (.inr rfl)
  refine store_seat st.W st.R.fr hk' fun h' tk b seat hs F' hns => ?_
  have hb : B₀ b := by
    rcases seat with ⟨_, rfl⟩ | ⟨_, hc⟩
    · exact bl
    · exact bc nn b hc
  have hbX : XO ev pl ow₀ b := by
    rcases seat with ⟨_, rfl⟩ | ⟨_, hc⟩
    · exact .inl rfl
    · exact .inr (.inl ⟨nn, hc⟩)
  have hbD : b ≠ D := fun q => hDB (q ▸ hb)
  have hthere : ∃ o, h'.get? b = some o := by
    rcases seat with ⟨_, rfl⟩ | ⟨_, hc⟩
    · obtain ⟨o, es, ep, ho, _⟩ := F'.ns; exact ⟨o, ho⟩
    · obtain ⟨o, ho, _⟩ := F'.cell nn b hc; exact ⟨o, ho⟩
  let ow' : Nat → Option Addr := fun j => if j = i then some D else ow j
  have kpb : Kp (frsOf fe outer) (fun c => c = b) s.heap h' := kp_keep (fun c o q e => hs.extBut c o q e) fun c q => q ▸ hthere
  have hX : ∀ c o, s.heap.get? c = some o → c = b → BO (fun b => B₀ b ∨ b = D) ow c := fun c o _ q => .inl (.inl (q ▸ hb))
  have hDl : ∀ c, BO B₀ ow' c → BO (fun b => B₀ b ∨ b = D) ow c := fun c q => by
    rcases q with q | ⟨j, q⟩
    · exact .inl (.inl q)
    · dsimp only [ow'] at q
      split at q
      · cases q; exact .inl (.inr rfl)
      · exact .inr ⟨j, q⟩
  have hBa : ∀ c o, s.heap.get? c = some o → BO B₀ ow' c → BO (fun b => B₀ b ∨ b = D) ow c := fun c o e q => hDl c q
  have keep : ∀ c o, s.heap.get? c = some o → ¬ BO (fun b => B₀ b ∨ b = D) ow c → h'.get? c = some o := fun c o e nb => kpb.keep c o e (fun q => nb (.inl (.inl (q ▸ hb)))) fun q => nb (.inl (.inl (bfr c q)))
  have I' : Inv K A fe outer (BO (fun b => B₀ b ∨ b = D) ow) h' := st.I.step kpb hX fun c _ q => by
    subst q
    rcases seat with ⟨_, rfl⟩ | ⟨_, hc⟩
    · obtain ⟨o, es, ep, ho, hd, _⟩ := F'.ns; exact ⟨o, ho, fun vs q => by rw [hd] at q; cases q⟩
    · obtain ⟨o, ho, hd⟩ := F'.cell nn c hc; exact ⟨o, ho, fun vs q => by rw [hd] at q; cases q⟩
  have I'' : Inv K A fe outer (BO B₀ ow') h' := ⟨I'.stay, I'.frs, I'.ff, fun b hb => .inl (bfr b hb), fun c hc => I'.bb c (hDl c hc), I'.hd⟩
  have hne : ∀ (j : Nat) (n' : Str), j ≠ i → nm.vs[j]? = some n' → n' ≠ nn := fun j n' hj hn' q => by
    subst q
    exact hj ((List.getElem?_inj (by exact (List.getElem?_eq_some_iff.mp hn').1) S.nd).mp (hn'.trans hv.symm))
  refine hq h' tk ⟨S.base, S.nd, S.ncs, bl, bc, bfr, bp, S.kp.trans kpb (fun _ q => q) (fun c o _ q => q ▸ hbX), ow', _, _, fun j hj => ?_, fun j c hj q => ?_, I'', ?_, ⟨fun j c q => ?_, fun j k c q q' => ?_⟩, F', fun j n' v' g1 g2 g3 g4 g5 => ?_, fun j n' v' g1 _ => by simp at g1, fun j n' lw g1 g2 g3 => ?_⟩
  · show (if j = i then some D else ow j) = _
    rw [if_neg (by rintro rfl; rw [hp] at hj; cases hj)]; exact h1 j hj
  · dsimp only [ow'] at q
    split at q
    · cases q
      exact ⟨hDB, hDE⟩
    · exact ⟨fun z => (h2 j c hj q).1 (.inl z), (h2 j c hj q).2⟩
  · exact ⟨st.W.kind, st.W.gl, st.W.bl, st.W.frame, .inl bl, fun n c hc => .inl (bc n c hc), st.W.hc, st.W.apart⟩
  · dsimp only [ow'] at q
    split at q
    · cases q
      exact ⟨fun q => hDB (bfr _ q), fun q => hDB (q ▸ bl), fun n c hc q => hDB (q ▸ bc n c hc)⟩
    · exact st.O.1 j c q
  · dsimp only [ow'] at q q'
    split at q
    · split at q'
      · rename_i hj hk; rw [hj, hk]
      · cases q
        exact absurd rfl (old k _ q')
    · split at q'
      · cases q'
        exact absurd rfl (old j _ q)
      · exact st.O.2 j k c q q'
  · rw [lookV_put hk']
    by_cases hj : j = i
    · subst hj; cases setV_self g1
    · rw [if_neg (hne j n' hj g2)]
      obtain ⟨y, f1, r1⟩ := st.R.fv j n' v' (setV_ne hj g1) g2 g3 g4 g5
      exact ⟨y, f1, r1.keep keep hBa⟩
  · rw [lookV_put hk']
    by_cases hj : j = i
    · subst hj
      cases setV_self g1
      rw [hv] at g3; cases g3
      exact ⟨D, if_pos rfl, fun _ => if_pos rfl, .inr ⟨j, if_pos rfl⟩, Nat.zero_le _, [], hl.at fun o ho => hs.extBut D o (Ne.symm hbD) ho, rfl⟩
    · obtain ⟨a', f1, f2, f3, f4⟩ := st.R.own j n' lw (setV_ne hj g1) g2 g3
      have fa : (fun j => if j = i then some D else ow j) j = some a' := by dsimp only; rw [if_neg hj]; exact f1
      have nab : a' ≠ b := by
        rintro rfl
        rcases seat with ⟨_, q⟩ | ⟨_, hc⟩
        · exact (st.O.1 j _ f1).2.1 q
        · exact (st.O.1 j _ f1).2.2 nn _ hc rfl
      have up : ∀ o, s.heap.get? a' = some o → h'.get? a' = some o := fun o e => kpb.keep a' o e nab (st.O.1 j a' f1).1
      refine ⟨a', fa, fun q => by rw [if_neg (hne j n' hj g3)]; exact f2 q, .inr ⟨j, fa⟩, ?_⟩
      cases lw with
      | fv _ => exact f4
      | ml l => obtain ⟨sz, ys, hl, rs⟩ := f4; exact ⟨sz, ys, hl.at up, rs.keep keep hBa⟩
      | md l => obtain ⟨sz, kvs, ns, ⟨o, es, ep, ho, q⟩, rs⟩ := f4; exact ⟨sz, kvs, ns, ⟨o, es, ep, up o ho, q⟩, rs.keep keep hBa⟩

theorem SSt.fresh0 (S : SSt K A fe outer B₀ pl ow₀ hE nm ev ρ h) {D : Addr} (hD : h.get? D = none) : ¬ B₀ D ∧ hE.get? D = none := by
  obtain ⟨ow, m, cm, h1, h2, st⟩ := S.st
  refine ⟨fun q => ?_, gone S.kp hD⟩
  obtain ⟨o, ho⟩ := (st.I.bb D (.inl q)).2
  rw [hD] at ho; cases ho

theorem ml2_stmt {i j : Nat} {a b : Str} {p p1 p2 p3 p4 p5 q : Pos} {k k' : Nat} (hpi : pl i = false) (hpj : pl j = false) (hij : i ≠ j) (hvi : nm.vs[i]? = some a) (hvj : nm.vs[j]? = some b) (hka : sc.names.lookup a = some .local) (hkb : sc.names.lookup b = some .local) (hln : (p.line == p1.line) = true)
    (hs : ev.scope = sc) (S : SSt K A fe outer B₀ pl ow₀ hE nm ev ρ s.heap) :
    EndsS K A fe outer B₀ pl ow₀ hE nm ev (exS C ρ (.ml2 i j)) s (exec (.Assign [.Tuple [.Name a p, .Name b p1] k p2] (.Tuple [.List [] p3, .List [] p4] k' p5) q) ev) := by
  rw [exS]
  obtain ⟨ow, m, cm, h1, h2, st⟩ := S.st
  have hab : a ≠ b := fun e => by
    subst e
    exact hij ((List.getElem?_inj (by exact (List.getElem?_eq_some_iff.mp hvi).1) S.nd).mp (hvi.trans hvj.symm))
  have hl1 : p1.line = p.line := by simpa using (eq_of_beq hln).symm
  have kA : ev.kindOf a = some .local := by unfold Env.kindOf; rw [hs]; exact hka
  have kB : ev.kindOf b = some .local := by unfold Env.kindOf; rw [hs]; exact hkb
  have hbk : ev.blockKind = .function := by unfold Env.blockKind; rw [st.W.kind]; rfl
  have hsw : swappedStores [.Tuple [.Name a p, .Name b p1] k p2] (.Tuple [.List [] p3, .List [] p4] k' p5) ev = pure (some [a, b]) := by
    unfold swappedStores
    simp [kA, kB, hbk, hl1, hab, Ne.symm hab, foldedForSure, constantsAlone, List.eraseDups_cons, Expr.pos]
  intro Q E hQ
  refine Assign_Tuple_swapped (names := [a, b]) ?_ rfl hsw
  rw [arm_eval_Tuple]
  refine wpAny_bind (wpAny_standAt (wpAny_bind ?_))
  refine Calls.spliced_cons ?_
  rw [arm_eval_List]
  refine wpAny_bind (wpAny_standAt (wpAny_bind (Calls.spliced_nil (wpAny_newObj_type ?_))))
  refine Calls.spliced_cons ?_
  rw [arm_eval_List]
  refine wpAny_bind (wpAny_standAt (wpAny_bind (Calls.spliced_nil (wpAny_newObj_type ?_))))
  refine Calls.spliced_nil ?_
  refine wpAny_newObj_type ?_
  dsimp only
  generalize hL : ({ cls := .type "list", dict := none, data := .seq ([] : List Value).toArray } : Obj) = L
  have hLf : L.isFreed = false := by subst hL; rfl
  have kA1 : Kp (frsOf fe outer) N0 s.heap (s.heap.push L) := Kp.push _ _ _ _
  have eD1 : (s.heap.push L).get? s.heap.objs.size = some L := Heap.get?_push_size _ hLf
  have S1 := S.wide (N := fun b => b = s.heap.objs.size) kA1 fun b q => by subst q; exact ⟨fresh_size _, _, eD1⟩
  obtain ⟨f1, f2⟩ := S.fresh0 (fresh_size s.heap)
  refine unpackItems_tuple (items := #[.ref s.heap.objs.size, .ref (s.heap.push L).objs.size]) st.I.hd ⟨_, Heap.get?_push_size _ rfl, rfl, _, rfl⟩ fun h' he => ?_
  dsimp only at he ⊢
  have up : ∀ b o, ((s.heap.push L).push L).get? b = some o → h'.get? b = some o := fun b o e => by
    have e2 := Heap.get?_push_of_some ({ cls := .type "tuple", dict := none, data := .seq [Value.ref s.heap.objs.size, Value.ref (s.heap.push L).objs.size].toArray } : Obj) e
    exact he b o (Nat.ne_of_lt (Heap.lt_size e2)) e2
  have eD1' : h'.get? s.heap.objs.size = some L := up _ _ (Heap.get?_push_of_some _ eD1)
  have eD2' : h'.get? (s.heap.push L).objs.size = some L := up _ _ (Heap.get?_push_size _ hLf)
  show wpAny _ _ (assignInOrder [bindName ev b, bindName ev a] [.ref (s.heap.push L).objs.size, .ref s.heap.objs.size]) _ _ _
  refine assignInOrder_cons (wpAny_bindName ?_)
  refine SSt.fresh (s := { s with heap := h' }) (i := j) S1 hpj hvj (.inl kB) (Kp.of_keep fun b o e => up b o (Heap.get?_push_of_some _ e)) (fresh_size _) ⟨_, eD2'⟩ (.inl ⟨rfl, _, by rw [hL]; exact eD2'⟩) fun h5 tk5 keep S5 => ?_
  refine assignInOrder_cons (wpAny_bindName ?_)
  have hne1 : s.heap.objs.size ≠ ev.locals := fun q => f1 (q ▸ S.bl)
  have hne2 : ∀ n, ev.cells.lookup n ≠ some s.heap.objs.size := fun n q => f1 (S.bc n _ q)
  refine SSt.claim (s := { s with heap := h5, toks := tk5 }) (i := i) S5 hpi hvi (.inl kA) f1 f2 ⟨_, by rw [hL]; exact keep _ _ eD1' hne1 hne2⟩ S.bl S.bc S.bfr S.bp fun h6 tk6 S6 => assignInOrder_nil (hQ .next h6 tk6 ?_ rfl)
  have ecomm : setV (setV ρ j (.ml [])) i (.ml []) = setV (setV ρ i (.ml [])) j (.ml []) := by
    unfold setV
    exact List.set_comm _ _ (Ne.symm hij)
  rw [← ecomm]
  exact S6
end
end Mine
end

section
open PySem PySem.W PySem.Calls PyProof.Rows
namespace Mine
section
variable {K : Cfg} {A : Around} {fe ev : Env} {outer : List Env} {B₀ : Addr → Prop} {pl : Nat → Bool} {ow₀ : Nat → Option Addr} {hE h h' : Heap} {nm : Nms} {ρ : Env'} {s : Shared} {C : CallT} {n : Nat} {sc : Scope}

theorem setC_stmt (O : Ok K) {i m : Nat} {nn : Str} {p pc q : Pos} {elt tgt iter : Expr} {scope : Scope} {e : CE} {sr : Src} {es : List Expr} {as : List CE} {names : List Str} (hv : nm.vs[i]? = some nn) (hk : sc.names.lookup nn = some .local) (hln : (p.line == pc.line) = true)
    (hsc : (scope.names.any fun (y, k) => y == nn && (k == .local || k == .cell)) = false) (ht : TgtOf tgt names m) (hsr : SrcOf sc iter sr es) (hnm : nm.cs = []) (hok : scopeOk scope sc names = true) (hcv : cvOk nm.vs names scope = true) (hpo : pairOk sr m = true)
    (hl : SL K C n nm sc es as) (ha : All2 (fun x a => plainE x = true ∧ SE K C n nm sc x a) es as) (ihe : SE K C n ⟨nm.vs, names⟩ (relabelS scope sc) elt e) (hs : ev.scope = sc) (rm : Room A n) (S : SSt K A fe outer B₀ pl ow₀ hE nm ev ρ s.heap) :
    EndsS K A fe outer B₀ pl ow₀ hE nm ev (exS C ρ (.set i (.comp e m sr as))) s (exec (.Assign [.Name nn p] (.ListComp elt [⟨tgt, iter, [], 0⟩] scope pc) q) ev) := by
  obtain ⟨ow, mm, cm, h1, h2, st⟩ := S.st
  rw [exS, ev_comp]
  have hko := ScOk.of hok
  have hkl : ev.kindOf nn = some .local := by unfold Env.kindOf; rw [hs]; exact hk
  have htg : sr = .items ∨ sr = .enum → m = 2 ∧ ∃ elts kk pos, tgt = .Tuple elts kk pos := by
    rintro (rfl | rfl) <;> cases ht <;> first | exact ⟨rfl, _, _, _, rfl⟩ | cases hpo
  have ih1 : ∀ x a, es = [x] → as = [a] → SE K C n nm sc x a := fun x a hx ha' => by subst hx; subst ha'; cases ha with | cons h _ => exact h.2
  have hsrc := src_ends O htg hsr hs rm ih1 hl (all2_plain ha) ha.length_eq st
  have core := fun items ys E RR => comp_core (s := s) (p := pc) (items := items) (ys := ys) (E := E) (RR := RR) O ht hsr hpo hnm hok hcv hs rm ih1 hl (all2_plain ha) ha.length_eq ihe st
  have hsw : swapsWith (.ListComp elt [⟨tgt, iter, [], 0⟩] scope pc) (some (.Name nn p)) q.line ev = pure true := by
    have hbk : ev.blockKind = .function := by unfold Env.blockKind; rw [st.W.kind]; rfl
    unfold swapsWith
    simp only [hbk, hkl, beq_self_eq_true, Bool.true_and]
    have e1 : (p.line == (Expr.ListComp elt [⟨tgt, iter, [], 0⟩] scope pc).pos.line) = true := hln
    rw [e1, hsc]
    rfl
  have go : ∀ {Q : Flow → Shared → Prop} {E : Value → Shared → Prop}, wpAny (model K.prog K.w) A (comprehension (.ListComp elt [⟨tgt, iter, [], 0⟩] scope pc) scope ev (firstIterPos [⟨tgt, iter, [], 0⟩] pc) (newList []) false (eval iter ev) (some (assign (.Name nn p) ev))) (fun _ s' => Q .next s') E s →
      wpAny (model K.prog K.w) A (exec (.Assign [.Name nn p] (.ListComp elt [⟨tgt, iter, [], 0⟩] scope pc) q) ev) Q E s := fun {Q E} hw => by
    rw [exec_Assign_Name_used _ _ _ _ hsw]
    refine wpAny_bind (wpAny_standAt (wpAny_bind ?_))
    show wpAny _ A (do let _ ← comprehension (.ListComp elt [⟨tgt, iter, [], 0⟩] scope pc) scope ev _ (newList []) false (eval iter ev) (some (assign (.Name nn p) ev))) _ _ s
    exact wpAny_bind (wpAny_mono hw (fun _ _ hq => wpAny_pure (wpAny_pure hq)) fun _ _ e => e)
  generalize (evEs C ρ [] as).bind (srcItems sr) = r at hsrc core
  cases r with
  | no => trivial
  | exc k => exact fun Q E hQ => go (wpAny_comprehension_free (use := some (assign (.Name nn p) ev)) rfl (comp_fold hsr) (comp_clos st hs hko) hko.kind hko.locs (hsrc _ _ fun a h' tk kp x => hQ a h' tk (S.step0 kp) ((x.low S.kp).toS)))
  | ok items =>
    rw [Res.bind_ok]
    split
    · trivial
    rename_i hbig
    split
    case h_2 => trivial
    rename_i ys hys
    intro Q E hQ
    refine go (wpAny_comprehension_free (use := some (assign (.Name nn p) ev)) rfl (comp_fold hsr) (comp_clos st hs hko) hko.kind hko.locs (core items ys E _ rfl hbig hys fun D CC h' tk m' kp hns hf hC rv => ?_))
    show wpAny _ _ (assign (.Name nn p) ev (.ref D)) _ _ _
    have S1 := S.wide (N := fun b => b = CC) kp fun b q => by subst q; exact ⟨hf, hC⟩
    have hN1 : ∀ b, b = CC → s.heap.get? b = none ∧ ∃ o, h'.get? b = some o := fun b q => by subst q; exact ⟨hf, hC⟩
    have st1 := S.wideSt (N := fun b => b = CC) st kp hN1
    obtain ⟨f1, f2⟩ := S.fresh0 hf
    refine PySem.wpAny_assign_Name ?_
    refine SSt.store (s := { s with heap := h', toks := tk }) S1 h1 (wide_h2 st h2 hN1) st1 hv (.inl hkl) (by rw [BO_or]; exact rv) fun h'' tk' keep S2 _ => ?_
    exact ⟨m', hns.at' fun o e => keep CC o e (fun q => f1 (q ▸ S.bl)) fun n q => f1 (S.bc n CC q), fun h3 hs3 => hQ .next h3 tk' (S2.thin (fun b q => q ▸ f2) (fun b hb q => f1 (q ▸ hb)) S.bl S.bc S.bfr S.bp fun b o nb e => hs3.extBut b o nb e) rfl⟩
end
end Mine
end

section
open PySem PySem.W PySem.Calls PyProof.Rows
namespace Mine

def Suite (K : Cfg) (A : Around) (ev : Env) (a : Addr) (name : Option Str) (body : List Stmt) (pos : Pos) (s : Shared) (Q : Flow → Shared → Prop) (E : Value → Shared → Prop) : Prop :=
  codeAny (model K.prog K.w) (A.mark (some (.ref a))) (.handlers (.ref a) [.ExceptHandler none name body pos] ev) (fun r s₂ => match r with
    | .ok f => (match name with
      | none => Q f s₂
      | some n => wpAny (model K.prog K.w) A (do bindName ev n .none; unbindBehindTheSuite ev n pos) (fun _ s₃ => Q f s₃) E s₂)
    | .error x => cameBackBy (model K.prog K.w) A ev E x s₂) s
def hdAns (ρ' : Env') (e : EK) : Hd → SR
  | .raiseStr i c => if strOk e.cls c && unb ρ' i then (match e.msg with | some x => .exc ⟨c, some x⟩ ρ' | Option.none => .no) else .no
  | .unk i j => if e.cls == .blt "KeyError" then (match getV ρ' i, getV ρ' j with
    | .ok (.int x), .ok (.str y) => if decide (x = 102) && decide (y.length ≤ 1000) then .exc ⟨.own 104, Option.none⟩ ρ' else .no
    | _, _ => .no) else .no
  | .again => .exc e ρ'
  | .ret v => .ok (.ret v) ρ'
  | .other => .no
def hdsAns (ρ' : Env') (e : EK) (hs : List (EC × Hd)) : SR := match pick e.cls hs with
  | some (some h) => hdAns ρ' e h
  | some Option.none => .exc e ρ'
  | Option.none => .no
theorem exS_try {C : CallT} {ρ : Env'} {b : List CS} {hs : List (EC × Hd)} : exS C ρ (.try b hs) = match exSs C ρ b with | .exc e ρ' => hdsAns ρ' e hs | o => o := by
  rw [exS]
  cases exSs C ρ b with
  | exc e ρ' =>
    unfold hdsAns
    dsimp only
    cases pick e.cls hs with
    | none => rfl
    | some h =>
      cases h with
      | none => rfl
      | some h => cases h <;> rfl
  | ok f ρ' => rfl
  | no => rfl

/-- what else is known of the text's exceptions -/
structure Ok3 (K : Cfg) : Prop where
  own104 : ∃ x C bm newId B initId, K.G 104 = .ref C ∧ OwnCls x C bm newId K.mg K.base ∧ ExcBaseFacts B newId initId bm
  match104 : ∀ {A : Around} {s : Shared} {c : EC} {b : Bool} {a : Addr} {o : Obj} {Q : Bool → Shared → Prop} {E : Value → Shared → Prop}, matchT (.own 104) c = some b → s.heap.get? a = some o → o.cls = K.G 104 → K.base.StaysIn s.heap → Q b s → wpAny (model K.prog K.w) A (excMatches (.ref a) (clsV K c)) Q E s
  strH : ∀ {A : Around} {n : Nat} {fe ev : Env} {outer : List Env} {B₀ : Addr → Prop} {pl : Nat → Bool} {ow₀ : Nat → Option Addr} {hE : Heap} {nm : Nms} {ρ : Env'} {s : Shared} {k : EK} {a : Addr} {sc : Scope} {t : Expr} {name : Option Str} {body : List Stmt} {pos : Pos} {i : Nat} {c : EC},
    SSt K A fe outer B₀ pl ow₀ hE nm ev ρ s.heap → Room A n → ev.scope = sc → ExcV K k a hE s.heap (fun v => v = .none) false → HdOf nm.vs sc (.ExceptHandler (some t) name body pos) (.raiseStr i c) → EndsP K A fe outer B₀ pl ow₀ hE nm ev (hdAns ρ k (.raiseStr i c)) s (Suite K A ev a name body pos s)
  unkH : ∀ {A : Around} {n : Nat} {fe ev : Env} {outer : List Env} {B₀ : Addr → Prop} {pl : Nat → Bool} {ow₀ : Nat → Option Addr} {hE : Heap} {nm : Nms} {ρ : Env'} {s : Shared} {k : EK} {a : Addr} {sc : Scope} {t : Expr} {name : Option Str} {body : List Stmt} {pos : Pos} {i j : Nat},
    SSt K A fe outer B₀ pl ow₀ hE nm ev ρ s.heap → Room A n → ev.scope = sc → ExcV K k a hE s.heap (fun v => v = .none) false → HdOf nm.vs sc (.ExceptHandler (some t) name body pos) (.unk i j) → EndsP K A fe outer B₀ pl ow₀ hE nm ev (hdAns ρ k (.unk i j)) s (Suite K A ev a name body pos s)

section
variable {K : Cfg} {A : Around} {fe ev : Env} {outer : List Env} {B₀ : Addr → Prop} {pl : Nat → Bool} {ow₀ : Nat → Option Addr} {hE h h' : Heap} {nm : Nms} {ρ : Env'} {s : Shared} {C : CallT} {n : Nat} {sc : Scope}

/-- the name of a class of exceptions -/
theorem ec_eval (O : Ok K) {B : Addr → Prop} {A' : Around} {t : Expr} {c : EC} {Q : Value → Shared → Prop} {E : Value → Shared → Prop} (hc : EcOf sc t c) (hs : ev.scope = sc) (W : EvOk fe B ev) (hst : K.base.StaysIn s.heap) (hq : Q (clsV K c) s) : wpAny (model K.prog K.w) A' (eval t ev) Q E s := by
  cases hc with
  | own hg hk =>
    rename_i n p i
    obtain ⟨x, e, r⟩ := O.gt n _ hg
    have hd : (n == ("__debug__" : Str)) = false := by
      cases hd : (n == ("__debug__" : Str)) with
      | false => rfl
      | true =>
        rw [eq_of_beq hd] at hg
        have : (gtab ("__debug__" : Str)).isNone = true := by decide
        rw [hg] at this
        cases this
    refine Calls.Name_function_global W.kind (by unfold Env.kindOf; rw [hs]; exact hk) (Calls.loadGlobal_global (mg := K.mg) ?_ e ?_) hd
    · rw [W.gl]; exact O.g.keeps hst
    · cases r; exact hq
  | blt hg hk hd =>
    obtain ⟨e1, e2⟩ := O.bt _ _ hg
    refine Calls.Name_function_global W.kind (by unfold Env.kindOf; rw [hs]; exact hk) (Calls.loadGlobal_builtin (mg := K.mg) (mb := K.mb) ?_ e1 ?_ e2 hq) hd
    · rw [W.gl]; exact O.g.keeps hst
    · rw [W.bl]; exact O.b.keeps hst

theorem match_ok (O3 : Ok3 K) {A' : Around} {k c : EC} {b : Bool} {a : Addr} {o : Obj} {Q : Bool → Shared → Prop} {E : Value → Shared → Prop} (hm : matchT k c = some b) (ho : s.heap.get? a = some o) (hc : o.cls = clsV K k) (hst : K.base.StaysIn s.heap) (hq : Q b s) :
    wpAny (model K.prog K.w) A' (excMatches (.ref a) (clsV K c)) Q E s := by
  unfold matchT at hm
  split at hm
  · exact O3.match104 (by unfold matchT; exact hm) ho hc hst hq
  · exact O3.match104 (by unfold matchT; exact hm) ho hc hst hq
  · exact O3.match104 (by unfold matchT; exact hm) ho hc hst hq
  · cases hm
    exact wpAny_excMatches_type (X := "ValueError") (T := "ValueError") (b := true) ⟨o, ho, hc⟩ (by rw [isSubtype_type]; kernel_rfl) (by kernel_rfl) (by rw [isSubtype_type]; kernel_rfl) hq
  · cases hm
    exact wpAny_excMatches_type (X := "ValueError") (T := "KeyError") (b := false) ⟨o, ho, hc⟩ (by rw [isSubtype_type]; kernel_rfl) (by kernel_rfl) (by rw [isSubtype_type]; kernel_rfl) hq
  · cases hm
    exact wpAny_excMatches_type (X := "KeyError") (T := "KeyError") (b := true) ⟨o, ho, hc⟩ (by rw [isSubtype_type]; kernel_rfl) (by kernel_rfl) (by rw [isSubtype_type]; kernel_rfl) hq
  · cases hm

theorem rs_stmt (O : Ok K) (O3 : Ok3 K) {x t : Expr} {c : EC} {a : CE} {p p1 : Pos} (hc : EcOf sc t c) (hcc : c = .own 104 ∨ c = .blt "ValueError") (hp : plainE x = true) (hw : SE K C n nm sc x a) (hs : ev.scope = sc) (rm : Room A n) (S : SSt K A fe outer B₀ pl ow₀ hE nm ev ρ s.heap) :
    EndsS K A fe outer B₀ pl ow₀ hE nm ev (exS C ρ (.rs c a)) s (exec (.Raise (some (.Call t [x] [] p1)) none p) ev) := by
  obtain ⟨ow, m, cm, h1, h2, st⟩ := S.st
  rw [exS]
  refine EndsP.expr S (hw A fe outer _ ev ow ρ [] m cm s hs rm st).1 (P' := fun v s₁ Q E => K.base.StaysIn s₁.heap ∧ ∀ h' e, Heap.MadeExcOf s₁.heap h' e (clsV K c) [v] → E (.ref e) { s₁ with heap := h' }) (fun Q E hx => ?_) fun v y h' tk hvv kp rv => ?_
  · have hsp : ∀ {Q' : List Value → Shared → Prop}, (∀ v s₁, (K.base.StaysIn s₁.heap ∧ ∀ h' e, Heap.MadeExcOf s₁.heap h' e (clsV K c) [v] → E (.ref e) { s₁ with heap := h' }) → Q' [v] s₁) → wpAny (model K.prog K.w) A (spliced (backTo p1 (starEach [x] ev))) Q' E s := fun {Q'} hq => by
      rw [star_plain hp]
      exact Calls.spliced_cons (wpAny_mono hx (fun v s₁ hh => Calls.spliced_nil (hq v s₁ hh)) fun _ _ e => e)
    rcases hcc with rfl | rfl
    · obtain ⟨x0, C0, bm, newId, B, initId, hG, Ocl, FB⟩ := O3.own104
      obtain ⟨tl, N, nm0, q, bs, hdct, sn, sub, ab, col, dd, k0, k1, k2, k3, k5, mN, hC, hN, hni, T⟩ := Ocl.obj
      have hec := ec_eval (s := s) (A' := A) (E := E) O hc hs st.W st.I.stay (Q := fun f s₁ => f = .ref C0 ∧ s₁ = s) ⟨hG, rfl⟩
      cases hc with
      | own hg hk =>
        rename_i n p
        refine wpAny_Raise_call_subT (C := C0) (nm := nm0) (q := q) (N := N) (bs := bs) (bm := tl) (hdct := hdct) (sn := sn) (sub := sub) (ab := ab) (col := col) (dd := dd) (k0 := k0) (k1 := k1) (k2 := k2) (k3 := k3) (k5 := k5)
          FB (mN := mN) (T.hasType FB.hasBase) st.I.hd (by rw [star_plain hp]; rfl) hni (wpAny_mono hec (fun f s₁ hf => ?_) fun _ _ e => e)
        obtain ⟨rfl, rfl⟩ := hf
        refine ⟨rfl, ?_⟩
        have := hsp (Q' := fun vs s₂ => (∃ v, vs = [v]) ∧ K.base.StaysIn s₂.heap ∧ ∀ h' e, Heap.MadeExcOf s₂.heap h' e (.ref C0) vs → E (.ref e) { s₂ with heap := h' }) fun v s₁ hh => ⟨⟨v, rfl⟩, hh.1, fun h' e hm => hh.2 h' e (by rw [show clsV K (.own 104) = .ref C0 from hG]; exact hm)⟩
        rw [star_plain hp] at this ⊢
        refine Calls.evalArgs_plain (wpAny_mono this (fun vs s₂ hh => ?_) fun _ _ e => e)
        obtain ⟨⟨v, rfl⟩, hst, hh⟩ := hh
        exact ⟨rfl, by show 1 ≤ 16777216; omega, hst _ _ hC, hN.keeps hst, T.keeps hst, hh⟩
    · have hec := ec_eval (s := s) (A' := A) (E := E) O hc hs st.W st.I.stay (Q := fun f s₁ => f = .type "ValueError" ∧ s₁ = s) ⟨rfl, rfl⟩
      cases hc with
      | blt hg hk hd =>
        refine Raise_madeB PySem.F.excCall_ValueError PySem.F.excRaise_ValueError st.I.hd (wpAny_mono hec (fun f s₁ hf => ?_) fun _ _ e => e) (star_plain hp _ _) rfl
        obtain ⟨rfl, rfl⟩ := hf
        exact ⟨rfl, hsp fun v s₁ hh => ⟨by show 1 ≤ 16777216; omega, fun h' e hm => hh.2 h' e hm.of⟩⟩
  · clear hvv
    cases v <;> first | trivial | skip
    intro Q E hQ
    have S1 := S.step0 kp
    obtain ⟨_, _, _, _, _, st1⟩ := S1.st
    refine ⟨st1.I.stay, fun h'' e hm => ?_⟩
    obtain ⟨tt, he, htn, ht⟩ := hm.there
    obtain ⟨_, t, rfl⟩ := rv
    refine hQ e h'' tk (S1.step0 (Kp.of_keep hm.keeps)) ⟨gone S1.kp hm.new, tt, .none, .none, .none, .bool false, .none, _, _, he, .inl rfl, fun _ _ => rfl, fun y hy => ?_⟩
    cases hy
    exact ⟨gone S1.kp htn, t, _, ht, rfl, _, rfl⟩

/-- a record of this very frame stands ahead: nothing to be put -/
theorem note_again {A' : Around} {M : Model} {k : EK} {a : Addr} {Q : Unit → Shared → Prop} {E : Value → Shared → Prop} (hf : ev.frame = fe.frame) (x : ExcV K k a hE s.heap (fun fl => ∃ L, fe.frame = some L ∧ fl = rawInt L) false) (hq : Q () s) : wpAny M A' (noteFrame (.ref a) ev) Q E s := by
  obtain ⟨n1, t, tb, cx, c3, c4, c5, sl, dd, e, q, c, m'⟩ := x
  rcases q with ⟨q, _⟩ | ⟨T, oT, ts, v, rfl, q2, q3, q4, q5, q6, L, hL, rfl⟩
  · cases q
  unfold noteFrame
  simp only [hf.trans hL]
  refine wpAny_bind (wpAny_field e rfl (x := .ref T) rfl ?_)
  rw [if_pos (show (Value.ref T != Value.none) = true from by simp)]
  refine wpAny_bind (wpAny_field q4 q5 q6 ?_)
  rw [if_pos (show (rawInt L == rawInt L) = true from by simp)]
  exact wpAny_pure hq
theorem tb_there {A' : Around} {M : Model} {k : EK} {a : Addr} {V : Value → Prop} {Q : Value → Shared → Prop} {E : Value → Shared → Prop} (x : ExcV K k a hE s.heap V false) (hq : ∀ T, Q (.ref T) s) : wpAny M A' (field (.ref a) 1) Q E s := by
  obtain ⟨n1, t, tb, cx, c3, c4, c5, sl, dd, e, q, c, m'⟩ := x
  rcases q with ⟨q, _⟩ | ⟨T, oT, ts, v, rfl, _⟩
  · cases q
  exact wpAny_field e rfl (x := .ref T) rfl (hq T)
theorem passOn_ok {A' : Around} {α : Type} {w : String} {k : EK} {a : Addr} {V : Value → Prop} {Q : α → Shared → Prop} {E : Value → Shared → Prop} (S : SSt K A fe outer B₀ pl ow₀ hE nm ev ρ s.heap) (x : ExcV K k a hE s.heap V false)
    (hQ : ∀ h', SSt K A fe outer B₀ pl ow₀ hE nm ev ρ h' → ExcV K k a hE h' (fun fl => ∃ L, fe.frame = some L ∧ fl = rawInt L) false → E (.ref a) { s with heap := h' }) : wpAny (model K.prog K.w) A' (PySem.passOn w (.ref a) ev : Sem α) Q E s := by
  obtain ⟨ow, m, cm, h1, h2, st⟩ := S.st
  obtain ⟨_, ⟨L, oL, hf, _, hLo, _⟩, _⟩ := st.I.ff
  unfold PySem.passOn
  refine wpAny_bind (tb_there x fun T => ?_)
  rw [if_neg (show ¬ ((Value.ref T == Value.none) = true) from Bool.false_ne_true)]
  refine wpAny_bind (flight_ok S x fun h' S' x' => wpAny_throw (hQ h' S' ?_))
  obtain ⟨n1, t, tb, cx, c3, c4, c5, sl, dd, e, q, c, m'⟩ := x'
  refine ⟨n1, t, tb, cx, c3, c4, c5, sl, dd, e, q.imp id ?_, c, m'⟩
  rintro ⟨T, oT, ts, v, q1, q2, q3, q4, q5, q6, q7⟩
  exact ⟨T, oT, ts, v, q1, q2, q3, q4, q5, q6, L, hf, by rw [q7, st.W.frame, hf]; rfl⟩
theorem held_S {k : EK} {a : Addr} (x : ExcV K k a hE h (fun fl => ∃ L, fe.frame = some L ∧ fl = rawInt L) false) : ExcS K fe k a hE h := x.toS fun fl q => .inr q
theorem cameBack_ok {k : EK} {a : Addr} {V : Value → Prop} {E : Value → Shared → Prop} (S : SSt K A fe outer B₀ pl ow₀ hE nm ev ρ s.heap) (x : ExcV K k a hE s.heap V false)
    (hE' : ∀ h', SSt K A fe outer B₀ pl ow₀ hE nm ev ρ h' → ExcS K fe k a hE h' → E (.ref a) { s with heap := h' }) : cameBackBy (model K.prog K.w) A ev E (.ref a) s := by
  obtain ⟨ow, m, cm, h1, h2, st⟩ := S.st
  obtain ⟨_, ⟨L, oL, hf, _, hLo, _⟩, _⟩ := st.I.ff
  unfold cameBackBy
  refine wpAny_bind (tb_there x fun T => ?_)
  rw [if_neg (show ¬ ((Value.ref T == Value.none) = true) from Bool.false_ne_true)]
  refine flight_ok S x fun h'' S'' x'' => hE' h'' S'' (x''.toS fun fl hfl => .inr ⟨L, hf, ?_⟩)
  rw [hfl, st.W.frame, hf]; rfl

theorem suite_ok (O3 : Ok3 K) {k : EK} {a : Addr} {t : Expr} {name : Option Str} {body : List Stmt} {pos : Pos} {d : Hd} (hd : HdOf nm.vs sc (.ExceptHandler (some t) name body pos) d) (hs : ev.scope = sc) (rm : Room A n) (S : SSt K A fe outer B₀ pl ow₀ hE nm ev ρ s.heap) (x : ExcV K k a hE s.heap (fun v => v = .none) false) :
    EndsP K A fe outer B₀ pl ow₀ hE nm ev (hdAns ρ k d) s (Suite K A ev a name body pos s) := by
  cases hd with
  | raiseStr h1 h2 h3 h4 h5 => exact O3.strH (t := t) S rm hs x (.raiseStr h1 h2 h3 h4 h5)
  | unk h1 h2 h3 h4 h5 h6 h7 h8 h9 => exact O3.unkH (t := t) S rm hs x (.unk h1 h2 h3 h4 h5 h6 h7 h8 h9)
  | other => trivial
  | ret =>
    rename_i b kk p1 p2
    intro Q E hQ
    refine codeAny_handlers_suite (flight_ok S x fun h' S' x' => wpAny_execs_cons (wpAny_Return_some (wpAny_pure ?_)))
    exact hQ (.ret (.bool b)) h' s.toks S' ⟨.bool b, rfl, rfl⟩
  | again =>
    rename_i p1
    intro Q E hQ
    refine codeAny_handlers_suite (flight_ok S x fun h' S' x' => wpAny_execs_cons ?_)
    rw [arm_exec_Raise]
    refine wpAny_bind (wpAny_standAt ?_)
    show wpAny _ _ (raiseStmt ev none none) _ _ _
    unfold raiseStmt
    refine wpAny_bind (wpAny_handled ?_)
    show wpAny _ _ (rule "raise.bare" >>= _) _ _ _
    refine wpAny_bind (wpAny_rule ?_)
    refine wpAny_bind (tb_there (s := { s with heap := h' }) x' fun T => ?_)
    rw [if_neg (show ¬ ((Value.ref T == Value.none) = true) from Bool.false_ne_true)]
    obtain ⟨ow, m, cm, h1, h2, st⟩ := S'.st
    obtain ⟨_, ⟨L, oL, hf, _, hLo, _⟩, _⟩ := st.I.ff
    refine wpAny_bind (flight_ok (s := { s with heap := h' }) S' x' fun h2 S2 x2 => wpAny_throw ?_)
    have x3 : ExcV K k a hE h2 (fun fl => ∃ L, fe.frame = some L ∧ fl = rawInt L) false := by
      obtain ⟨n1, t, tb, cx, c3, c4, c5, sl, dd, e, q, c, m'⟩ := x2
      refine ⟨n1, t, tb, cx, c3, c4, c5, sl, dd, e, q.imp id ?_, c, m'⟩
      rintro ⟨T, oT, ts, v, q1, q2, q3, q4, q5, q6, q7⟩
      exact ⟨T, oT, ts, v, q1, q2, q3, q4, q5, q6, L, hf, by rw [q7, st.W.frame, hf]; rfl⟩
    unfold notedBy
    refine note_again (s := { s with heap := h2 }) st.W.frame x3 ?_
    exact cameBack_ok (s := { s with heap := h2 }) S2 x3 fun h3 S3 x4 => hQ a h3 s.toks S3 x4

theorem hds_ok (O : Ok K) (O3 : Ok3 K) {k : EK} {a : Addr} : ∀ {hs : List ExceptHandler} {ds : List (EC × Hd)}, HdsOf nm.vs sc hs ds → ∀ {s : Shared}, ev.scope = sc → Room A n → SSt K A fe outer B₀ pl ow₀ hE nm ev ρ s.heap → ExcV K k a hE s.heap (fun v => v = .none) false →
    EndsP K A fe outer B₀ pl ow₀ hE nm ev (hdsAns ρ k ds) s (fun Q E => wpAny (model K.prog K.w) A (handleBy (.ref a) ev hs) Q E s) := by
  intro hs ds hh
  induction hh with
  | nil =>
    intro s hs rm S x Q E hQ
    exact wpAny_handleBy_nil (passOn_ok S x fun h' S' x' => hQ a h' s.toks S' (held_S x'))
  | cons hc hd hb _ ih =>
    intro s hs rm S x
    rename_i t name body pos c d hs' ds' _
    obtain ⟨n1, tt, tb, cx, c3, c4, c5, sl, dd, e, q, cc, m'⟩ := id x
    obtain ⟨ow, m, cm, h1, h2, st⟩ := S.st
    cases hm : matchT k.cls c with
    | none =>
      have : hdsAns ρ k ((c, d) :: ds') = .no := by unfold hdsAns pick; rw [hm]
      rw [this]; trivial
    | some b =>
      cases b with
      | true =>
        have e1 : hdsAns ρ k ((c, d) :: ds') = hdAns ρ k d := by unfold hdsAns pick; rw [hm]
        rw [e1]
        refine EndsP.via (suite_ok O3 hd hs rm S x) fun Q E hw => ?_
        refine wpAny_handleBy_cons (codeAny_handlers_test (ec_eval O hc hs st.W st.I.stay (match_ok O3 hm e rfl st.I.stay ?_))) (by intro q; cases q)
        exact hw
      | false =>
        have e1 : hdsAns ρ k ((c, d) :: ds') = hdsAns ρ k ds' := by
          have e0 : pick k.cls ((c, d) :: ds') = pick k.cls ds' := by rw [pick, hm]
          unfold hdsAns; rw [e0]
        rw [e1]
        refine EndsP.via (ih hs rm S x) fun Q E hw => ?_
        refine wpAny_handleBy_cons (codeAny_handlers_test (ec_eval O hc hs st.W st.I.stay (match_ok O3 hm e rfl st.I.stay ?_))) (by intro q; cases q)
        exact hw

theorem try_stmt (O : Ok K) (O3 : Ok3 K) {xs : List Stmt} {cs : List CS} {h₀ : ExceptHandler} {hs : List ExceptHandler} {ds : List (EC × Hd)} {p : Pos} (hb : SY K C n nm sc pl (.b xs) (.b cs)) (hd : HdsOf nm.vs sc (h₀ :: hs) ds) (hsc : ev.scope = sc) (rm : Room A n) (S : SSt K A fe outer B₀ pl ow₀ hE nm ev ρ s.heap) :
    EndsS K A fe outer B₀ pl ow₀ hE nm ev (exS C ρ (.try cs ds)) s (exec (.Try xs (h₀ :: hs) [] [] p) ev) := by
  rw [exS_try]
  have hbd := hb A fe outer B₀ ev ow₀ hE ρ s hsc rm S
  cases hx : exSs C ρ cs with
  | no => trivial
  | ok f ρ' =>
    rw [hx] at hbd
    intro Q E hQ
    refine wpAny_Try_except (hbd _ _ fun fl h' tk S' rf => ?_)
    cases f with
    | next => cases rf; exact wpAny_execs_nil (hQ .next h' tk S' rfl)
    | ret v => obtain ⟨y, rfl, ry⟩ := rf; exact hQ (.ret y) h' tk S' ⟨y, rfl, ry⟩
  | exc k ρ' =>
    rw [hx] at hbd
    dsimp only
    refine EndsP.of_post fun hno Q E hp => wpAny_Try_except (hbd _ _ fun a h' tk S' x => ?_)
    refine note_ok (s := { s with heap := h', toks := tk }) S' x fun h2 S2 x2 => ?_
    refine flight_ok (s := { s with heap := h2, toks := tk }) S2 x2 fun h3 S3 x3 => ?_
    exact (hds_ok O O3 hd (s := { s with heap := h3, toks := tk }) hsc rm S3 x3).post hno hp
end
end Mine
end

section
open PySem PySem.W PySem.Calls PyProof.Rows
namespace Mine

/-- which arguments of a function may be lists that are still being made -/
def plF (i j : Nat) : Bool := i == 7 && (j == 2 || j == 3)
def ArgR (K : Cfg) (h : Heap) (B : Addr → Prop) : LV → Value → Prop
  | .fv v, x => RV K h B v x
  | .ml l, x => ∃ a, x = .ref a ∧ B a ∧ Own K h B a (.ml l)
  | .md _, _ => False
def owOf (args : List LV) (xs : List Value) (j : Nat) : Option Addr := match args[j]?, xs[j]? with
  | some (.ml _), some (.ref a) => some a
  | _, _ => none
def RefX (args : List LV) (xs : List Value) : Addr → Prop := fun b => ∃ j, owOf args xs j = some b
/-- a call ends as the abstract answer says; lists that were handed over are turned -/
def EndsC (K : Cfg) (A : Around) (fr : List Addr) (B : Addr → Prop) (args : List LV) (xs : List Value) (r : Res (FV × List (Option LV))) (s : Shared) (t : Sem Value) : Prop := match r with
  | .ok (v, outs) => ∀ (Q : Value → Shared → Prop) (E : Value → Shared → Prop), (∀ x h' tk, Kp fr (RefX args xs) s.heap h' → RV K h' B v x → (∀ j a l, owOf args xs j = some a → outs[j]? = some (some (.ml l)) → Own K h' B a (.ml l)) → Q x { s with heap := h', toks := tk }) → wpAny (model K.prog K.w) A t Q E s
  | .exc k => ∀ (Q : Value → Shared → Prop) (E : Value → Shared → Prop), (∀ a h' tk, Kp fr (RefX args xs) s.heap h' → ExcAt K k a s.heap h' → E (.ref a) { s with heap := h', toks := tk }) → wpAny (model K.prog K.w) A t Q E s
  | .no => True
def CallR (K : Cfg) (C : CallT) (n : Nat) : Prop := ∀ {A : Around} {fe : Env} {outer : List Env} {B : Addr → Prop} {s : Shared} {i : Nat} {args : List LV} {xs : List Value}, Inv K A fe outer B s.heap → Room A n → args.length = xs.length →
  (∀ (j : Nat) (lv : LV) (x : Value), args[j]? = some lv → xs[j]? = some x → ArgR K s.heap B lv x) → (∀ (j : Nat) (l : List FV), args[j]? = some (.ml l) → plF i j = true) → (∀ j a, owOf args xs j = some a → a ∉ frsOf fe outer) → (∀ i j a, owOf args xs i = some a → owOf args xs j = some a → i = j) →
  EndsC K A (frsOf fe outer) B args xs (C (.gl i) args) s (call (K.G i) xs)

section
variable {K : Cfg} {A : Around} {fe ev : Env} {outer : List Env} {B₀ : Addr → Prop} {pl : Nat → Bool} {ow₀ : Nat → Option Addr} {hE h h' : Heap} {nm : Nms} {ρ : Env'} {s : Shared} {C : CallT} {n : Nat} {sc : Scope}

theorem rvs_at {B : Addr → Prop} : ∀ {vs : List FV} {xs : List Value}, RVs K h B vs xs → ∀ {j : Nat} {v : FV} {x : Value}, vs[j]? = some v → xs[j]? = some x → RV K h B v x := fun {vs xs} r {j v x} e1 e2 => by
  obtain ⟨y, e, r1⟩ := r.get e1
  rw [e2] at e; cases e; exact r1
theorem owOf_fv {vs : List FV} {xs : List Value} {j : Nat} : owOf (vs.map .fv) xs j = none := by
  unfold owOf
  rw [List.getElem?_map]
  cases vs[j]? <;> rfl
/-- calls without such lists -/
theorem CallR.plain (R : CallR K C n) {A : Around} {fe : Env} {outer : List Env} {B : Addr → Prop} {s : Shared} {i : Nat} {vs : List FV} {xs : List Value} (I : Inv K A fe outer B s.heap) (rm : Room A n) (r : RVs K s.heap B vs xs) :
    Ends K A (frsOf fe outer) B ((C (.gl i) (vs.map .fv)).bind fun r => .ok r.1) s (call (K.G i) xs) := by
  have h := R (i := i) (args := vs.map .fv) (xs := xs) I rm (by rw [List.length_map, r.length]) (fun j lv x e1 e2 => by
      rw [List.getElem?_map] at e1
      cases hv : vs[j]? with
      | none => rw [hv] at e1; cases e1
      | some v => rw [hv] at e1; cases e1; exact rvs_at r hv e2) (fun j l e => by
      rw [List.getElem?_map] at e
      cases hv : vs[j]? <;> rw [hv] at e <;> cases e) (fun j a e => by rw [owOf_fv] at e; cases e) (fun i j a e => by rw [owOf_fv] at e; cases e)
  have hX : ∀ b, RefX (vs.map .fv) xs b → N0 b := fun b ⟨j, e⟩ => by rw [owOf_fv] at e; cases e
  cases hc : C (.gl i) (vs.map .fv) with
  | no => trivial
  | exc e => rw [hc] at h; exact fun Q E hE => h Q E fun a h' tk kp x => hE a h' tk (kp.mono hX) x
  | ok vo =>
    obtain ⟨v, outs⟩ := vo
    rw [hc] at h
    exact fun Q E hQ => h Q E fun x h' tk kp rv _ => hQ x h' tk (kp.mono hX) rv

/-- several lists that are still being made turn at once -/
theorem SSt.turns {ρ' : Env'} {X : Nat → Prop} {ow : Nat → Option Addr} {m cm : Str → Option Value} (S : SSt K A fe outer B₀ pl ow₀ hE nm ev ρ h) (h1 : ∀ i, pl i = true → ow i = ow₀ i) (h2 : ∀ i a, pl i = false → ow i = some a → ¬ B₀ a ∧ hE.get? a = none) (st : St K A fe outer (BO B₀ ow) nm ev ow ρ [] m cm h)
    (kp : Kp (frsOf fe outer) (fun b => ∃ i, X i ∧ ow i = some b) h h') (hsame : ∀ j, ¬ X j → ρ'[j]? = ρ[j]?) (hnf : ∀ j (v : FV), X j → ρ'[j]? ≠ some (some (.fv v))) (hrn : ∀ j, X j → ∃ lv, ρ[j]? = some (some lv) ∧ ∀ v, lv ≠ .fv v)
    (hown : ∀ j a lv, X j → ow j = some a → ρ'[j]? = some (some lv) → Own K h' (BO B₀ ow) a lv) : SSt K A fe outer B₀ pl ow₀ hE nm ev ρ' h' := by
  have hX : ∀ c o, h.get? c = some o → (∃ i, X i ∧ ow i = some c) → BO B₀ ow c := fun c o _ ⟨i, _, q⟩ => .inr ⟨i, q⟩
  have I' : Inv K A fe outer (BO B₀ ow) h' := st.I.step kp hX fun c hc ⟨i, _, q⟩ => absurd hc (st.O.1 i c q).1
  have R' : EnvR K nm ev h' (BO B₀ ow) ow ρ' [] m cm := by
    refine ⟨⟨ns_slots st.R.fr.ns fun o e => kp.old e fun ⟨i, _, q⟩ => (st.O.1 i _ q).2.1 rfl, fun n c hc => cell_slots (st.R.fr.cell n c hc) fun o e => kp.old e fun ⟨i, _, q⟩ => (st.O.1 i _ q).2.2 n c hc rfl⟩, fun j n' v' g1 g2 g3 g4 g5 => ?_, fun j n' v' g1 _ => by simp at g1, fun j n' lw g1 g2 g3 => ?_⟩
    · by_cases hj : X j
      · exact absurd g1 (hnf j v' hj)
      · rw [hsame j hj] at g1
        obtain ⟨y, e1, r1⟩ := st.R.fv j n' v' g1 g2 g3 g4 g5
        exact ⟨y, e1, r1.stepX st.I kp hX⟩
    · by_cases hj : X j
      · obtain ⟨lv, e, hn⟩ := hrn j hj
        obtain ⟨a', e1, e2, e3, e4⟩ := st.R.own j n' lv e hn g3
        exact ⟨a', e1, e2, e3, hown j a' lw hj e1 g1⟩
      · rw [hsame j hj] at g1
        obtain ⟨a', e1, e2, e3, e4⟩ := st.R.own j n' lw g1 g2 g3
        refine ⟨a', e1, e2, e3, e4.stepX st.I (st.O.1 j a' e1).1 ?_ kp hX⟩
        rintro ⟨i, hi, q⟩
        exact hj (st.O.2 j i _ e1 q ▸ hi)
  refine ⟨S.base, S.nd, S.ncs, S.bl, S.bc, S.bfr, S.bp, S.kp.trans kp (fun _ q => q) (fun c o e ⟨i, _, q⟩ => ?_), ow, _, _, h1, h2, I', st.W, st.O, R'⟩
  cases hp : pl i with
  | true => exact .inr (.inr ⟨i, hp, (h1 i hp).symm.trans q⟩)
  | false => rw [(h2 i _ hp q).2] at e; cases e

theorem refsOf2 {r1 r2 : Nat} {ls : List LV} (h : refsOf ρ [r1, r2] = some ls) : ∃ l1 l2, ls = [.ml l1, .ml l2] ∧ ρ[r1]? = some (some (.ml l1)) ∧ ρ[r2]? = some (some (.ml l2)) := by
  unfold refsOf at h
  split at h
  · rename_i l q h1 h2
    unfold refsOf at h2
    split at h2
    · rename_i l2 q2 h3 h4
      unfold refsOf at h4
      cases h4; cases h2; cases h
      exact ⟨l, l2, rfl, h1, h3⟩
    · cases h2
  · cases h
theorem putBack2 {r1 r2 : Nat} {os : List (Option LV)} {ρ' : Env'} (h : putBack ρ [r1, r2] os = some ρ') : ∃ l1 l2, os = [some (.ml l1), some (.ml l2)] ∧ ρ' = setV (setV ρ r1 (.ml l1)) r2 (.ml l2) := by
  match os, h with
  | [], h => cases h
  | [o1], h =>
    cases o1 with
    | none => cases h
    | some lv => cases lv <;> cases h
  | o1 :: o2 :: o3 :: os, h =>
    cases o1 with
    | none => cases h
    | some lv =>
      cases lv <;> first | (cases h; done) | skip
      cases o2 with
      | none => cases h
      | some lw => cases lw <;> cases h
  | [o1, o2], h =>
    cases o1 with
    | none => cases h
    | some lv =>
      cases lv <;> first | (cases h; done) | skip
      cases o2 with
      | none => cases h
      | some lw =>
        cases lw <;> first | (cases h; done) | skip
        cases h
        exact ⟨_, _, rfl, rfl⟩

theorem callR_stmt (O : Ok K) (CR : CallR K C n) (hkp : ∀ vs, C (.gl 7) vs ≠ .no → Keepable K (K.G 7)) {fn n1 n2 : Str} {p0 p1 p3 p4 q : Pos} {x1 x2 : Expr} {a1 a2 : CE} {r1 r2 : Nat} (hg : gtab fn = some (.gl 7)) (hk : sc.names.lookup fn = some .globalImplicit) (hd : (fn == ("__debug__" : Str)) = false)
    (hw1 : SE K C n nm sc x1 a1) (hw2 : SE K C n nm sc x2 a2) (hp1 : plainE x1 = true) (hp2 : plainE x2 = true) (hv1 : nm.vs[r1]? = some n1) (hv2 : nm.vs[r2]? = some n2) (hr : r1 ≠ r2)
    (d1 : (n1 == ("__debug__" : Str)) = false) (d2 : (n1 == ("__classdict__" : Str)) = false) (d3 : (n2 == ("__debug__" : Str)) = false) (d4 : (n2 == ("__classdict__" : Str)) = false) (hs : ev.scope = sc) (rm : Room A n) (S : SSt K A fe outer B₀ pl ow₀ hE nm ev ρ s.heap) :
    EndsS K A fe outer B₀ pl ow₀ hE nm ev (exS C ρ (.callR (.k (.gl 7)) [a1, a2] [r1, r2])) s (exec (.Expr (.Call (.Name fn p0) [x1, x2, .Name n1 p3, .Name n2 p4] [] p1) q) ev) := by
  obtain ⟨ow, m, cm, h1, h2, st⟩ := S.st
  rw [exS]
  have ek : evE C ρ [] (.k (.gl 7)) = .ok (.gl 7) := by rw [evE]
  rw [ek]
  cases hv1e : evE C ρ [] a1 with
  | no => simp only [evEs, hv1e, Res.bind_no]; trivial
  | exc e => simp only [evEs, hv1e, Res.bind_exc]; trivial
  | ok v1 =>
  cases hv2e : evE C ρ [] a2 with
  | no => simp only [evEs, hv1e, hv2e, Res.bind_ok, Res.bind_no]; trivial
  | exc e => simp only [evEs, hv1e, hv2e, Res.bind_ok, Res.bind_exc]; trivial
  | ok v2 =>
  have ee : evEs C ρ [] [a1, a2] = .ok [v1, v2] := by simp only [evEs, hv1e, hv2e, Res.bind_ok]
  rw [ee]
  cases hrf : refsOf ρ [r1, r2] with
  | none => trivial
  | some ls =>
  obtain ⟨l1, l2, rfl, e1, e2⟩ := refsOf2 hrf
  dsimp only
  cases hC : C (.gl 7) ([v1, v2].map LV.fv ++ [.ml l1, .ml l2]) with
  | no => trivial
  | exc e => trivial
  | ok vo =>
  obtain ⟨v, outs⟩ := vo
  dsimp only
  cases hpb : putBack ρ [r1, r2] (outs.drop [v1, v2].length) with
  | none => trivial
  | some ρ' =>
  obtain ⟨l1', l2', eo, rfl⟩ := putBack2 hpb
  intro Q E hQ
  have hint : interactive ev = false := by unfold interactive; rw [st.W.kind]; rfl
  refine wpAny_Expr_any ?_ hint rfl
  show wpAny _ _ (eval (.Name fn p0) ev >>= fun g => callWith p1 g [] (backTo p1 (starEach [x1, x2, .Name n1 p3, .Name n2 p4] ev)) (backToKw p1 (keywordEach [] ev))) _ _ _
  refine wpAny_bind (global_ends (fr := frsOf fe outer) (B := BO B₀ ow) (p := p0) O st.I st.W hg (by unfold Env.kindOf; rw [hs]; exact hk) hd _ _ fun g hg' tkg kpg rg => ?_)
  cases rg
  have Sg := S.step0 kpg
  have stg := st.step0 kpg
  have hplain : ((backTo p1 (starEach [x1, x2, .Name n1 p3, .Name n2 p4] ev)).any (·.1) || (backToKw p1 (keywordEach [] ev)).any (·.1.isNone)) = false := by
    rw [star_plain hp1, star_plain hp2]; rfl
  refine callWith_of (P := fun h => K.base.StaysIn h) hplain (fun h hs => hkp _ (by rw [hC]; exact fun q => nomatch q) _ h hs) ?_
  rw [star_plain hp1]
  refine evalArgs_plain ?_
  refine Calls.spliced_cons ?_
  have w1 := (hw1 A fe outer _ ev ow ρ [] m cm { s with heap := hg', toks := tkg } hs rm stg).1
  rw [hv1e] at w1
  refine w1 _ _ fun y1 ha tka kpa ra => ?_
  rw [star_plain hp2]
  refine Calls.spliced_cons ?_
  have Sa := Sg.step0 kpa
  have sta := stg.step0 kpa
  have w2 := (hw2 A fe outer _ ev ow ρ [] m cm { s with heap := ha, toks := tka } hs rm sta).1
  rw [hv2e] at w2
  refine w2 _ _ fun y2 hb tkb kpb rb => ?_
  have Sb := Sa.step0 kpb
  have stb := sta.step0 kpb
  have ra' := ra.step0 sta.I kpb
  refine Calls.spliced_cons (own_name (s := { s with heap := hb, toks := tkb }) Sb stb hv1 d1 d2 e1 (fun v q => nomatch q) fun b1 hb1 o1 => ?_)
  refine Calls.spliced_cons (own_name (s := { s with heap := hb, toks := tkb }) Sb stb hv2 d3 d4 e2 (fun v q => nomatch q) fun b2 hb2 o2 => ?_)
  refine Calls.spliced_nil ⟨stb.I.stay, ?_⟩
  have hne : b1 ≠ b2 := fun q => hr (stb.O.2 r1 r2 b1 hb1 (q ▸ hb2))
  have hB1 : BO B₀ ow b1 := .inr ⟨r1, hb1⟩
  have hB2 : BO B₀ ow b2 := .inr ⟨r2, hb2⟩
  have how : ∀ j b, owOf ([v1, v2].map LV.fv ++ [.ml l1, .ml l2]) [y1, y2, .ref b1, .ref b2] j = some b → (j = 2 ∧ b = b1) ∨ (j = 3 ∧ b = b2) := fun j b e => by
    match j, e with
    | 0, e => cases e
    | 1, e => cases e
    | 2, e => cases e; exact .inl ⟨rfl, rfl⟩
    | 3, e => cases e; exact .inr ⟨rfl, rfl⟩
    | j + 4, e => cases e
  have key := CR (i := 7) (s := { s with heap := hb, toks := tkb }) (args := [v1, v2].map LV.fv ++ [.ml l1, .ml l2]) (xs := [y1, y2, .ref b1, .ref b2]) stb.I rm rfl (fun j lv x g1 g2 => by
      match j, g1, g2 with
      | 0, g1, g2 => cases g1; cases g2; exact ra'
      | 1, g1, g2 => cases g1; cases g2; exact rb
      | 2, g1, g2 => cases g1; cases g2; exact ⟨b1, rfl, hB1, o1⟩
      | 3, g1, g2 => cases g1; cases g2; exact ⟨b2, rfl, hB2, o2⟩
      | j + 4, g1, g2 => cases g1) (fun j l g => by
      match j, g with
      | 0, g => cases g
      | 1, g => cases g
      | 2, g => rfl
      | 3, g => rfl
      | j + 4, g => cases g) (fun j b e => by
      rcases how j b e with ⟨_, rfl⟩ | ⟨_, rfl⟩
      · exact (stb.O.1 r1 _ hb1).1
      · exact (stb.O.1 r2 _ hb2).1) (fun i j b e e' => by
      rcases how i b e with ⟨rfl, rfl⟩ | ⟨rfl, rfl⟩ <;> rcases how j _ e' with ⟨rfl, h⟩ | ⟨rfl, h⟩ <;> first | rfl | exact absurd h hne | exact absurd h.symm hne)
  rw [hC] at key
  refine key _ _ fun x h' tk kp rv ho => ?_
  have eouts : outs[2]? = some (some (.ml l1')) ∧ outs[3]? = some (some (.ml l2')) := by
    have g0 : (outs.drop 2)[0]? = some (some (.ml l1')) := by rw [show outs.drop 2 = [some (.ml l1'), some (.ml l2')] from eo]; rfl
    have g1 : (outs.drop 2)[1]? = some (some (.ml l2')) := by rw [show outs.drop 2 = [some (.ml l1'), some (.ml l2')] from eo]; rfl
    rw [List.getElem?_drop] at g0 g1
    exact ⟨g0, g1⟩
  have p1' := ho 2 b1 l1' rfl eouts.1
  have p2' := ho 3 b2 l2' rfl eouts.2
  refine hQ .next h' tk (SSt.turns (X := fun j => j = r1 ∨ j = r2) Sb h1 h2 stb (kp.mono fun b ⟨j, e⟩ => ?_) (fun j hj => ?_) (fun j v hj e => ?_) (fun j hj => ?_) fun j b lv hj e g => ?_) rfl
  · rcases how j b e with ⟨_, rfl⟩ | ⟨_, rfl⟩
    · exact ⟨r1, .inl rfl, hb1⟩
    · exact ⟨r2, .inr rfl, hb2⟩
  · unfold setV
    rw [List.getElem?_set_ne (fun q => hj (.inr q.symm)), List.getElem?_set_ne (fun q => hj (.inl q.symm))]
  · by_cases h2' : j = r2
    · subst h2'; cases setV_self e
    · rcases hj with rfl | rfl
      · have := setV_ne h2' e; cases setV_self this
      · exact h2' rfl
  · rcases hj with rfl | rfl
    · exact ⟨_, e1, fun v q => nomatch q⟩
    · exact ⟨_, e2, fun v q => nomatch q⟩
  · by_cases h2' : j = r2
    · subst h2'
      cases setV_self g
      rw [hb2] at e; cases e
      exact p2'
    · rcases hj with rfl | rfl
      · have := setV_ne h2' g
        cases setV_self this
        rw [hb1] at e; cases e
        exact p1'
      · exact absurd rfl h2'

def seqR (r : SR) (f : Env' → SR) : SR := match r with | .ok .next ρ' => f ρ' | o => o
theorem EndsP.seq' {r : SR} {f : Env' → SR} {P : (Flow → Shared → Prop) → (Value → Shared → Prop) → Prop} {P' : (Flow → Shared → Prop) → (Value → Shared → Prop) → Prop} {P'' : Shared → (Flow → Shared → Prop) → (Value → Shared → Prop) → Prop}
    (h : EndsP K A fe outer B₀ pl ow₀ hE nm ev r s P') (w : ∀ Q E, P' (fun fl s₁ => match fl with | .next => P'' s₁ Q E | fl => Q fl s₁) E → P Q E)
    (hn : ∀ ρ' h' tk, r = .ok .next ρ' → SSt K A fe outer B₀ pl ow₀ hE nm ev ρ' h' → EndsP K A fe outer B₀ pl ow₀ hE nm ev (f ρ') { s with heap := h', toks := tk } (P'' { s with heap := h', toks := tk })) :
    EndsP K A fe outer B₀ pl ow₀ hE nm ev (seqR r f) s P := by
  cases r with
  | no => trivial
  | exc e ρ' => exact fun Q E hQ => w Q E (h _ _ hQ)
  | ok fl ρ' =>
    cases fl with
    | ret v =>
      intro Q E hQ
      refine w Q E (h _ _ fun fl h' tk S' r' => ?_)
      obtain ⟨x, rfl, rv⟩ := r'
      exact hQ _ h' tk S' ⟨x, rfl, rv⟩
    | next =>
      show EndsP K A fe outer B₀ pl ow₀ hE nm ev (f ρ') s P
      refine EndsP.of_post fun hno Q E hp => w Q E (h _ _ fun fl h' tk S' r' => ?_)
      cases r'
      exact (hn ρ' h' tk rfl S').post hno hp

/-- statements and blocks -/
theorem snd_s (O : Ok K) (O2 : Ok2 K) (O3 : Ok3 K) (CO : CallOk K C n) (CR : CallR K C n) {nm : Nms} {sc : Scope} : ∀ {pl : Nat → Bool} {X : SM} {Y : SMc}, CY nm sc pl X Y → SY K C n nm sc pl X Y := by
  intro pl X Y h
  have E : ∀ {x : Expr} {a : CE}, CX nm sc (.e x) (.e a) → SE K C n nm sc x a := fun hx => snd O CO hx
  have L : ∀ {xs : List Expr} {as : List CE}, CX nm sc (.l xs) (.l as) → SL K C n nm sc xs as ∧ All2 (fun x a => plainE x = true ∧ SE K C n nm sc x a) xs as := fun hx => snd O CO hx
  induction h with
  | nil =>
    intro A fe outer B₀ ev ow₀ hE ρ s hs rm S
    rw [exSs]
    exact EndsP.done S rfl fun Q E q => wpAny_execs_nil q
  | cons _ _ ih1 ih2 =>
    intro A fe outer B₀ ev ow₀ hE ρ s hs rm S
    rw [exSs]
    exact EndsP.seq' (P'' := fun s₁ Q E => wpAny (model K.prog K.w) A (execs _ ev) Q E s₁) (ih1 A fe outer B₀ ev ow₀ hE ρ s hs rm S) (fun Q E h => wpAny_execs_cons (wpAny_mono h (fun fl s₁ hh => by cases fl <;> exact hh) fun _ _ e => e)) fun ρ' h' tk _ S' => ih2 A fe outer B₀ ev ow₀ hE ρ' { s with heap := h', toks := tk } hs rm S'
  | frz hp hn _ ih =>
    intro A fe outer B₀ ev ow₀ hE ρ s hs rm S
    rw [exSs]
    rename_i pl i xs cs _
    have eno : (∀ l, ρ[i]? ≠ some (some (.ml l))) → (∀ l, ρ[i]? ≠ some (some (.md l))) → exS C ρ (.frz i) = .no := fun g1 g2 => by
      rw [exS]
      split
      · exact absurd ‹_› (g1 _)
      · exact absurd ‹_› (g2 _)
      · rfl
    by_cases g1 : ∃ l, ρ[i]? = some (some (.ml l))
    · obtain ⟨l, g1⟩ := g1
      have e1 : exS C ρ (.frz i) = .ok .next (setV ρ i (.fv (.lst l))) := by rw [exS, g1]
      rw [e1]
      exact ih A fe outer B₀ ev ow₀ hE _ s hs rm (S.frz hp g1 (.inl ⟨_, rfl, rfl⟩) hn)
    · by_cases g2 : ∃ l, ρ[i]? = some (some (.md l))
      · obtain ⟨l, g2⟩ := g2
        have e1 : exS C ρ (.frz i) = .ok .next (setV ρ i (.fv (.dct l))) := by rw [exS, g2]
        rw [e1]
        exact ih A fe outer B₀ ev ow₀ hE _ s hs rm (S.frz hp g2 (.inr ⟨_, rfl, rfl⟩) hn)
      · rw [eno (fun l q => g1 ⟨l, q⟩) (fun l q => g2 ⟨l, q⟩)]
        trivial
  | ex hx hc =>
    intro A fe outer B₀ ev ow₀ hE ρ s hs rm S
    exact expr_stmt (E hx) hc hs rm S
  | set hv hk hx hsw =>
    intro A fe outer B₀ ev ow₀ hE ρ s hs rm S
    exact set_stmt hv hk (E hx) hsw hs rm S
  | ml0 hp hv hk =>
    intro A fe outer B₀ ev ow₀ hE ρ s hs rm S
    exact ml0_stmt hp hv hk hs S
  | md0 hp hv hk =>
    intro A fe outer B₀ ev ow₀ hE ρ s hs rm S
    exact md0_stmt O2 hp hv hk hs S
  | un hn h2 hx ht =>
    intro A fe outer B₀ ev ow₀ hE ρ s hs rm S
    exact un_stmt hn h2 (E hx) ht hs rm S
  | app hv hk d1 d2 hl hx =>
    intro A fe outer B₀ ev ow₀ hE ρ s hs rm S
    exact app_stmt hv d1 d2 hl hx.plain (E hx) hs rm S
  | put hv hk d1 d2 hc hy hx =>
    intro A fe outer B₀ ev ow₀ hE ρ s hs rm S
    exact put_stmt hv d1 d2 hc (E hy) (E hx) hs rm S
  | aug ho hv hk d2 hx =>
    intro A fe outer B₀ ev ow₀ hE ρ s hs rm S
    exact aug_stmt ho hv hk d2 (E hx) hs rm S
  | ite hx _ _ iha ihb =>
    intro A fe outer B₀ ev ow₀ hE ρ s hs rm S
    exact ite_stmt (E hx) iha ihb hs rm S
  | whl hx _ ih =>
    intro A fe outer B₀ ev ow₀ hE ρ s hs rm S
    exact whl_stmt (E hx) ih hs rm S
  | «for» ht hsr hpo hl _ ih =>
    intro A fe outer B₀ ev ow₀ hE ρ s hs rm S
    exact for_stmt O ht hsr hpo (L hl).1 (L hl).2 ih hs rm S
  | ret hx =>
    intro A fe outer B₀ ev ow₀ hE ρ s hs rm S
    exact ret_stmt (E hx) hs rm S
  | ret0 =>
    intro A fe outer B₀ ev ow₀ hE ρ s hs rm S
    exact ret0_stmt S
  | rs hc hcc hx =>
    intro A fe outer B₀ ev ow₀ hE ρ s hs rm S
    exact rs_stmt O O3 hc hcc hx.plain (E hx) hs rm S
  | «try» _ hd ih =>
    intro A fe outer B₀ ev ow₀ hE ρ s hs rm S
    exact try_stmt O O3 ih hd hs rm S
  | bad =>
    intro A fe outer B₀ ev ow₀ hE ρ s hs rm S
    rw [exS]; trivial
  | badB =>
    intro A fe outer B₀ ev ow₀ hE ρ s hs rm S
    rw [exSs, exS]; trivial
  | ml2 h1 h2 h3 h4 h5 h6 h7 h8 =>
    intro A fe outer B₀ ev ow₀ hE ρ s hs rm S
    exact ml2_stmt h1 h2 h3 h4 h5 h6 h7 h8 hs S
  | setC hv hk hln hsc ht hsr hnm hok hcv hpo hl hx =>
    intro A fe outer B₀ ev ow₀ hE ρ s hs rm S
    exact setC_stmt O hv hk hln hsc ht hsr hnm hok hcv hpo (L hl).1 (L hl).2 (snd O CO hx) hs rm S
  | callR hg hk hd hx1 hx2 hv1 hv2 hr d1 d2 d3 d4 =>
    intro A fe outer B₀ ev ow₀ hE ρ s hs rm S
    exact callR_stmt O CR (fun vs h => CO.keep 7 vs h) hg hk hd (E hx1) (E hx2) hx1.plain hx2.plain hv1 hv2 hr d1 d2 d3 d4 hs rm S
end
end Mine
end

section
open PySem PySem.W PySem.Calls PyProof.Rows
namespace Mine

/-- a function of the text's top, held against an abstract one -/
structure FnAt (K : Cfg) (i : Nat) (f : Fn) (fd : FuncData) (body : List Stmt) (nm : Nms) : Prop where
  at_ : ∃ a o, K.G i = .ref a ∧ K.base.get? a = some o ∧ o.data = .func fd
  cd : K.base.CodeRec fd.code fd.qualname
  bodyIs : fd.body = .stmts body
  clo : fd.closure = []
  gl : fd.globals = mainGlobals
  bl : fd.builtins = builtinsNs
  kind : fd.scope.kind = .function
  co : fd.scope.isCoroutine = false
  gen : fd.scope.isGenerator = false
  bind : ∀ (s : Shared) (vals : List Value), K.base.StaysIn s.heap → vals.length ≤ f.np → f.np - vals.length ≤ f.dflt.length →
    ∃ ds : List Value, RVs K K.base N0 (f.dflt.drop (f.dflt.length - (f.np - vals.length))) ds ∧ BindsTo s fd ⟨vals, []⟩ ((nm.vs.take f.np).zip (vals ++ ds))
  nd : nm.vs.Nodup
  ncs : nm.cs = []
  len : nm.vs.length = f.nv
  np : f.np ≤ f.nv
  kinds : ∀ n ∈ nm.vs.take f.np, sName fd.scope n
  cy : CY nm fd.scope (plF i) (.b body) (.b f.body)
  keep : Keepable K (K.G i)

theorem cellsFrom_has : ∀ (names : List (Str × NameKind)) (n : Nat) (acc : List (Str × Addr)) (x : Str), (names.lookup x = some .cell ∨ (acc.lookup x).isSome = true) → ((cellsFrom n names acc).lookup x).isSome = true
  | [], _, acc, x, h => by
    rcases h with h | h
    · cases h
    · exact h
  | (y, k) :: r, n, acc, x, h => by
    unfold cellsFrom
    split
    · rename_i hk
      refine cellsFrom_has r (n + 1) ((y, n) :: acc) x ?_
      rw [List.lookup_cons] at h ⊢
      cases hxy : x == y with
      | true => exact .inr rfl
      | false => rw [hxy] at h; exact h
    · rename_i hk
      refine cellsFrom_has r n acc x ?_
      rw [List.lookup_cons] at h
      cases hxy : x == y with
      | true =>
        rw [hxy] at h
        rcases h with h | h
        · cases h; exact absurd rfl hk
        · exact .inr h
      | false => rw [hxy] at h; exact h

section
variable {kindOf : Str → Option NameKind}
theorem bind_skip {n : Str} : ∀ {bs : List (Str × Value)} {m : Str → Option Value}, (∀ x ∈ bs, x.1 ≠ n) → bindL kindOf bs m n = m n ∧ bindC kindOf bs m n = m n
  | [], m, _ => ⟨rfl, rfl⟩
  | (k, v) :: r, m, h => by
    have hk : ¬ n = k := fun q => h (k, v) (by simp) q.symm
    have hr : ∀ x ∈ r, x.1 ≠ n := fun x hx => h x (List.mem_cons_of_mem _ hx)
    unfold bindL bindC
    constructor
    · rw [(bind_skip hr).1]
      split
      · simp [hk]
      · rfl
    · rw [(bind_skip hr).2]
      split
      · rfl
      · simp [hk]
theorem bind_at {n : Str} {v : Value} : ∀ {bs : List (Str × Value)} {m cm : Str → Option Value}, (bs.map (·.1)).Nodup → (n, v) ∈ bs →
    (kindOf n = some .local → bindL kindOf bs m n = some v) ∧ (¬ kindOf n = some .local → bindC kindOf bs cm n = some v)
  | (k, u) :: r, m, cm, hn, hm => by
    rw [List.map_cons, List.nodup_cons] at hn
    unfold bindL bindC
    rcases List.mem_cons.mp hm with e | hm
    · cases e
      have hr : ∀ x ∈ r, x.1 ≠ n := fun x hx q => hn.1 (List.mem_map.mpr ⟨x, hx, q⟩)
      refine ⟨fun hk => ?_, fun hk => ?_⟩
      · rw [(bind_skip hr).1, if_pos hk]; simp
      · rw [(bind_skip hr).2, if_neg hk]; simp
    · exact bind_at hn.2 hm
end

theorem zip_mem {α β : Type} : ∀ {ns : List α} {vs : List β} {i : Nat} {n : α} {v : β}, ns[i]? = some n → vs[i]? = some v → (n, v) ∈ ns.zip vs
  | [], _, _, _, _, h, _ => by simp at h
  | _ :: _, [], _, _, _, _, h => by simp at h
  | n :: ns, v :: vs, 0, _, _, h, h' => by cases h; cases h'; simp
  | n :: ns, v :: vs, i + 1, _, _, h, h' => by
    rw [List.zip_cons_cons]
    exact List.mem_cons_of_mem _ (zip_mem (by simpa using h) (by simpa using h'))
theorem zip_fst {α β : Type} : ∀ {ns : List α} {vs : List β}, ∃ k, (ns.zip vs).map (·.1) = ns.take k
  | [], _ => ⟨0, by simp⟩
  | _ :: _, [] => ⟨0, by simp⟩
  | n :: ns, v :: vs => by
    obtain ⟨k, hk⟩ := zip_fst (ns := ns) (vs := vs)
    exact ⟨k + 1, by rw [List.zip_cons_cons, List.map_cons, hk]; rfl⟩

section
variable {K : Cfg} {A : Around} {fe : Env} {outer : List Env} {B : Addr → Prop} {s : Shared} {C : CallT} {n : Nat}

theorem fn_run (O : Ok K) (O2 : Ok2 K) (O3 : Ok3 K) (lim : K.base.NoLimit) (CO : CallOk K C n) (CR : CallR K C n) {i : Nat} {f : Fn} {fd : FuncData} {body : List Stmt} {nm : Nms} (F : FnAt K i f fd body nm) {args : List LV} {xs : List Value} (I : Inv K A fe outer B s.heap) (rm : Room A (n + 1)) (hlen : args.length = xs.length)
    (ha : ∀ (j : Nat) (lv : LV) (x : Value), args[j]? = some lv → xs[j]? = some x → ArgR K s.heap B lv x) (hpl : ∀ (j : Nat) (l : List FV), args[j]? = some (.ml l) → plF i j = true) (hfr : ∀ j a, owOf args xs j = some a → a ∉ frsOf fe outer) (hinj : ∀ i j a, owOf args xs i = some a → owOf args xs j = some a → i = j) :
    EndsC K A (frsOf fe outer) B args xs (runFn C f args) s (call (K.G i) xs) := by
  unfold runFn
  cases hfa : fillArgs f args with
  | none => trivial
  | some ρ₀ =>
  dsimp only
  unfold fillArgs at hfa
  replace hfa : (if args.length ≤ f.np ∧ f.np - args.length ≤ f.dflt.length then some ((args.map some ++ (f.dflt.drop (f.dflt.length - (f.np - args.length))).map fun v => some (.fv v)) ++ List.replicate (f.nv - f.np) Option.none) else Option.none) = some ρ₀ := hfa
  split at hfa
  case isFalse => cases hfa
  rename_i hcond
  obtain ⟨hl1, hl2⟩ := hcond
  replace hfa := Option.some.inj hfa
  obtain ⟨ds, hds, hbind⟩ := F.bind s xs I.stay (by rw [← hlen]; exact hl1) (by rw [← hlen]; exact hl2)
  rw [← hlen] at hds
  obtain ⟨a, o, hG, ho, hd⟩ := F.at_
  have hdl : ds.length = f.np - args.length := by rw [hds.length, List.length_drop]; omega
  -- the frame's own scene, behind the entry
  have scene : ∀ (env : Env) (s₁ : Shared), env = newEnv fd.scope s.heap.objs.size fd.globals (cellsFrom (s.heap.objs.size + 1) fd.scope.names []) (fd.qualname ++ ".<locals>.") (some a) fd.code none fd.builtins →
      InCallC s env.locals (bindL env.kindOf ((nm.vs.take f.np).zip (xs ++ ds)) fun _ => none) env.cells (bindC env.kindOf ((nm.vs.take f.np).zip (xs ++ ds)) fun _ => none) s₁ →
      env.scope = fd.scope ∧ env.frame = some s.heap.objs.size ∧ env.locals = s.heap.objs.size ∧ (∃ h₁ tk, s₁ = { s with heap := h₁, toks := tk }) ∧ (∀ b o, s.heap.get? b = some o → s₁.heap.get? b = some o) ∧
      SSt K (A.deeper env) env (fe :: outer) (fun b => B b ∨ (b = env.locals ∨ ∃ n, env.cells.lookup n = some b)) (plF i) (owOf args xs) s.heap nm env ρ₀ s₁.heap := by
    intro env s₁ henv x
    have hs : env.scope = fd.scope := by rw [henv]; rfl
    have hf : env.frame = some s.heap.objs.size := by rw [henv]; rfl
    have hL : env.locals = s.heap.objs.size := by rw [henv]; rfl
    have hgl : env.globals = mainGlobals := by rw [henv]; exact F.gl
    have hbl : env.builtins = builtinsNs := by rw [henv]; exact F.bl
    have hcells : env.cells = cellsFrom (s.heap.objs.size + 1) fd.scope.names [] := by rw [henv]; rfl
    obtain ⟨h₁, tk, hs₁, _⟩ := x.done
    have up : ∀ b o, s.heap.get? b = some o → s₁.heap.get? b = some o := x.toInCall.keep
    have N0f : ∀ b, (b = env.locals ∨ ∃ n, env.cells.lookup n = some b) → s.heap.get? b = none ∧ ∃ o, s₁.heap.get? b = some o := fun b hb => by
      have hge : s.heap.objs.size ≤ b := by
        rcases hb with rfl | ⟨n, hc⟩
        · rw [hL]; exact Nat.le_refl _
        · have := x.above n b (mem_of_lookup_some hc)
          rw [hL] at this
          exact Nat.le_of_lt this
      refine ⟨?_, ?_⟩
      · cases e : s.heap.get? b with
        | none => rfl
        | some o => exact absurd (Heap.lt_size e) (Nat.not_lt.mpr hge)
      · rcases hb with rfl | ⟨n, hc⟩
        · obtain ⟨o, es, ep, ho, _⟩ := x.toInCall.ns; exact ⟨o, ho⟩
        · obtain ⟨o, ho, _⟩ := x.cell n b hc; exact ⟨o, ho⟩
    have hcl : ∀ n c, env.cells.lookup n = some c → c ≠ env.locals := fun n c hc => Nat.ne_of_gt (x.above n c (mem_of_lookup_some hc))
    have hbn : ((((nm.vs.take f.np).zip (xs ++ ds))).map (·.1)).Nodup := by
      obtain ⟨k, hk⟩ := zip_fst (ns := nm.vs.take f.np) (vs := xs ++ ds)
      rw [hk]
      exact ((List.take_sublist _ _).trans (List.take_sublist _ _)).nodup F.nd
    have look : ∀ (j : Nat) (n : Str) (y : Value), nm.vs[j]? = some n → j < f.np → (xs ++ ds)[j]? = some y → lookV env (bindL env.kindOf ((nm.vs.take f.np).zip (xs ++ ds)) fun _ => none) (bindC env.kindOf ((nm.vs.take f.np).zip (xs ++ ds)) fun _ => none) n = some y := fun j n y e1 hj e2 => by
      have hn : (nm.vs.take f.np)[j]? = some n := by rw [List.getElem?_take_of_lt hj]; exact e1
      have hm := zip_mem hn e2
      have hk := F.kinds n (List.mem_of_getElem? hn)
      obtain ⟨b1, b2⟩ := bind_at (kindOf := env.kindOf) (m := fun _ => none) (cm := fun _ => none) hbn hm
      unfold lookV
      rcases hk with hk | hk
      · have hk' : env.kindOf n = some .local := by unfold Env.kindOf; rw [hs]; exact hk
        rw [hk']; exact b1 hk'
      · have hk' : env.kindOf n = some .cell := by unfold Env.kindOf; rw [hs]; exact hk
        rw [hk']
        dsimp only
        rw [if_pos (by rw [hcells]; exact cellsFrom_has _ _ _ _ (.inl hk))]
        exact b2 (by rw [hk']; decide)
    have hB : ∀ b o, s.heap.get? b = some o → (fun b => B b ∨ (b = env.locals ∨ ∃ n, env.cells.lookup n = some b)) b → B b := fun b o e q => q.elim id fun q => by rw [(N0f b q).1] at e; cases e
    have hk0 : ∀ b o, s.heap.get? b = some o → ¬ B b → s₁.heap.get? b = some o := fun b o e _ => up b o e
    have owB : ∀ j c, owOf args xs j = some c → B c ∧ ∃ l, args[j]? = some (.ml l) ∧ xs[j]? = some (.ref c) ∧ Own K s.heap B c (.ml l) := fun j c e => by
      unfold owOf at e
      split at e
      · rename_i l c' e1 e2
        cases e
        obtain ⟨a', ea, hb', hown⟩ := ha j _ _ e1 e2
        cases ea
        exact ⟨hb', l, e1, e2, hown⟩
      · cases e
    have eBO : BO (fun b => B b ∨ (b = env.locals ∨ ∃ n, env.cells.lookup n = some b)) (owOf args xs) = fun b => B b ∨ (b = env.locals ∨ ∃ n, env.cells.lookup n = some b) := funext fun b => propext ⟨fun q => q.elim id fun ⟨j, q⟩ => .inl (owB j b q).1, .inl⟩
    have hρ : ∀ (j : Nat) (lv : LV), ρ₀[j]? = some (some lv) → (j < args.length ∧ args[j]? = some lv) ∨ (args.length ≤ j ∧ j < f.np ∧ ∃ v, lv = .fv v ∧ (f.dflt.drop (f.dflt.length - (f.np - args.length)))[j - args.length]? = some v) := fun j lv e => by
      rw [← hfa] at e
      rw [List.append_assoc] at e
      by_cases hj : j < args.length
      · rw [List.getElem?_append_left (by rw [List.length_map]; exact hj), List.getElem?_map] at e
        refine .inl ⟨hj, ?_⟩
        cases q : args[j]? with
        | none => rw [q] at e; cases e
        | some l => rw [q] at e; cases e; rfl
      · have hj' : args.length ≤ j := Nat.le_of_not_lt hj
        rw [List.getElem?_append_right (by rw [List.length_map]; exact hj'), List.length_map] at e
        by_cases hj2 : j - args.length < (f.dflt.drop (f.dflt.length - (f.np - args.length))).length
        · rw [List.getElem?_append_left (by rw [List.length_map]; exact hj2), List.getElem?_map] at e
          refine .inr ⟨hj', ?_, ?_⟩
          · rw [List.length_drop] at hj2; omega
          · cases q : (f.dflt.drop (f.dflt.length - (f.np - args.length)))[j - args.length]? with
            | none => rw [q] at e; cases e
            | some v => rw [q] at e; cases e; exact ⟨v, rfl, rfl⟩
        · rw [List.getElem?_append_right (by rw [List.length_map]; exact Nat.le_of_not_lt hj2)] at e
          have := List.mem_of_getElem? e
          rw [List.mem_replicate] at this
          cases this.2
    refine ⟨hs, hf, hL, ⟨h₁, tk, hs₁⟩, up, ⟨I.stay, F.nd, F.ncs, .inr (.inl rfl), fun n c hc => .inr (.inr ⟨n, hc⟩), fun b hb => ?_, fun j c _ q => .inl (owB j c q).1, Kp.of_keep up, owOf args xs, bindL env.kindOf ((nm.vs.take f.np).zip (xs ++ ds)) fun _ => none, bindC env.kindOf ((nm.vs.take f.np).zip (xs ++ ds)) fun _ => none, fun _ _ => rfl, fun j c hp q => ?_, ?_⟩⟩
    · unfold frsOf at hb
      rw [List.filterMap_cons, hf] at hb
      rcases List.mem_cons.mp hb with rfl | hb
      · exact .inr (.inl hL.symm)
      · exact .inl (I.bfr b hb)
    · obtain ⟨_, l, e1, _⟩ := owB j c q
      rw [hpl j l e1] at hp; cases hp
    · rw [eBO]
      have hfrs : ∀ b, b ∈ frsOf env (fe :: outer) → b = s.heap.objs.size ∨ b ∈ frsOf fe outer := fun b hb => by
        unfold frsOf at hb ⊢
        rw [List.filterMap_cons, hf] at hb
        exact List.mem_cons.mp hb
      refine ⟨⟨fun b o e => up b o (I.stay b o e), ?_, ?_, fun b hb => ?_, fun b hb => ?_, I.hd⟩, ⟨by rw [hs]; exact F.kind, hgl, hbl, rfl, .inr (.inl rfl), fun n c hc => .inr (.inr ⟨n, hc⟩), fun n hn => ?_, x.apart, hcl⟩,
        ⟨fun j c q => ⟨fun hb => ?_, fun q' => ?_, fun n c' hc q' => ?_⟩, fun j k c q q' => hinj j k c q q'⟩, ⟨x.toInCall.ns, fun n c hc => x.cell n c hc⟩, fun j n v g1 g2 g3 g4 g5 => ?_, fun j n v g1 _ => by simp at g1, fun j n lv g1 g2 g3 => ?_⟩
      · show A.frames.map (env :: ·) = _
        rw [I.frs]; rfl
      · obtain ⟨oL, es, ep, hoL, hdL, _⟩ := x.toInCall.ns
        refine ⟨by rw [hs, F.kind]; decide, ⟨s.heap.objs.size, oL, hf, ?_, hL ▸ hoL, fun vs q => by rw [hdL] at q; cases q⟩, funFrames_of I.ff fun b hb o ho hd => ⟨o, up b o ho, hd⟩⟩
        cases e : K.base.get? s.heap.objs.size with
        | none => rfl
        | some o => exact absurd (Heap.lt_size (I.stay _ o e)) (Nat.lt_irrefl _)
      · rcases hfrs b hb with rfl | hb
        · exact .inr (.inl hL.symm)
        · exact .inl (I.bfr b hb)
      · rcases hb with hb | hb
        · exact ⟨(I.bb b hb).1, let ⟨o, e⟩ := (I.bb b hb).2; ⟨o, up b o e⟩⟩
        · refine ⟨?_, (N0f b hb).2⟩
          cases e : K.base.get? b with
          | none => rfl
          | some o => have := I.stay b o e; rw [(N0f b hb).1] at this; cases this
      · rw [hcells]
        exact cellsFrom_has _ _ _ _ (.inl (by unfold Env.kindOf at hn; rw [hs] at hn; exact hn))
      · rcases hfrs c hb with rfl | hb
        · obtain ⟨o, e⟩ := (I.bb _ (owB j _ q).1).2
          exact absurd (Heap.lt_size e) (Nat.lt_irrefl _)
        · exact hfr j c q hb
      · subst q'
        obtain ⟨o, e⟩ := (I.bb _ (owB j _ q).1).2
        rw [(N0f _ (.inl rfl)).1] at e; cases e
      · subst q'
        obtain ⟨o, e⟩ := (I.bb _ (owB j _ q).1).2
        rw [(N0f _ (.inr ⟨n, hc⟩)).1] at e; cases e
      · rcases hρ j _ g1 with ⟨hj, e1⟩ | ⟨hj, hj2, u, e1, e2⟩
        · have hjx : j < xs.length := by rw [← hlen]; exact hj
          have e2 : xs[j]? = some xs[j] := List.getElem?_eq_getElem hjx
          have hr := ha j _ _ e1 e2
          exact ⟨_, look j n _ g2 (by omega) (by rw [List.getElem?_append_left hjx]; exact e2), RV.keep hk0 hB hr⟩
        · cases e1
          obtain ⟨y, e3, r3⟩ := hds.get e2
          refine ⟨y, look j n y g2 hj2 (by rw [List.getElem?_append_right (by rw [← hlen]; exact hj), ← hlen]; exact e3), ?_⟩
          exact r3.keep (fun b o e _ => up b o (I.stay b o e)) fun b o e hb => by
            have := hB b o (I.stay b o e) hb
            have := (I.bb b this).1
            rw [e] at this; cases this
      · rcases hρ j _ g1 with ⟨hj, e1⟩ | ⟨hj, hj2, u, e1, e2⟩
        · have hjx : j < xs.length := by rw [← hlen]; exact hj
          have e2 : xs[j]? = some xs[j] := List.getElem?_eq_getElem hjx
          have hr := ha j _ _ e1 e2
          cases lv with
          | fv v => exact absurd rfl (g2 v)
          | md l => exact hr.elim
          | ml l =>
            obtain ⟨c, ec, hbc, hown⟩ := hr
            rw [ec] at e2
            have how : owOf args xs j = some c := by unfold owOf; rw [e1, e2]
            refine ⟨c, how, fun _ => look j n _ g3 (by omega) (by rw [List.getElem?_append_left hjx]; exact e2), .inl hbc, ?_⟩
            obtain ⟨sz, ys, hl, rs⟩ := hown
            exact ⟨sz, ys, hl.at fun o e => up c o e, rs.keep hk0 hB⟩
        · exact absurd e1 (g2 u)
  -- the run
  have hroom : A.depth < recursionLimit := by have := rm.depth; show A.depth < 1000; omega
  have hkind : ∀ x ∈ (nm.vs.take f.np).zip (xs ++ ds), fd.scope.names.lookup x.1 = some .local ∨ (fd.scope.names.lookup x.1 = some .cell ∧ ((cellsFrom (s.heap.objs.size + 1) fd.scope.names []).lookup x.1).isSome = true) := fun x hx => by
    have hm : x.1 ∈ nm.vs.take f.np := (List.of_mem_zip hx).1
    rcases F.kinds _ hm with h | h
    · exact .inl h
    · exact .inr ⟨h, cellsFrom_has _ _ _ _ (.inl h)⟩
  have rm' : ∀ env, Room (A.deeper env) n := fun env => ⟨by have := rm.depth; show A.depth + 1 + 2 * n + 30 ≤ 1000; omega, by have := rm.units; show A.units + 3 + 20 * n + 100 ≤ 9900; omega⟩
  have enter : ∀ {R : Result → Shared → Prop}, (∀ (env : Env) (s₁ : Shared), env.scope = fd.scope → env.frame = some s.heap.objs.size → env.locals = s.heap.objs.size → (∃ h₁ tk, s₁ = { s with heap := h₁, toks := tk }) → (∀ b o, s.heap.get? b = some o → s₁.heap.get? b = some o) →
      (∀ n c, env.cells.lookup n = some c → s.heap.get? c = none) →
      SSt K (A.deeper env) env (fe :: outer) (fun b => B b ∨ (b = env.locals ∨ ∃ n, env.cells.lookup n = some b)) (plF i) (owOf args xs) s.heap nm env ρ₀ s₁.heap →
      wpAny (model K.prog K.w) (A.deeper env) (execs body env) (fun f s' => R (.ok (.ret (match f with | .ret v => v | _ => .none))) s')
        (fun e s' => wpAny (model K.prog K.w) (A.deeper env) (leaving env e) (fun _ s'' => R (.error e) s'') (fun e' s'' => R (.error e') s'') s') s₁) → codeAny (model K.prog K.w) A (.call (.ref a) ⟨xs, []⟩) R s := fun {R} hbody => by
    refine codeAny_call_function hroom (I.stay _ _ ho) hd F.co F.gen F.bodyIs (F.cd.keeps I.stay) (hbind _ _ _ _ ?_)
    rw [F.clo]
    refine wpAny_newFunctionEnv_cells F.kind hkind fun env he s₁ x => ?_
    obtain ⟨g1, g2, g3, g4, g5, g6⟩ := scene env s₁ he x
    refine ⟨(lim.keeps I.stay).keeps g5, codeAny_func (hbody env s₁ g1 g2 g3 g4 g5 (fun n c hc => ?_) g6)⟩
    have := x.above n c (mem_of_lookup_some hc)
    rw [g3] at this
    cases e : s.heap.get? c with
    | none => rfl
    | some o => exact absurd (Heap.lt_size e) (Nat.not_lt.mpr (Nat.le_of_lt this))
  -- back in the caller's frame
  have kpBack : ∀ {env : Env} {h' : Heap}, env.frame = some s.heap.objs.size → env.locals = s.heap.objs.size → (∀ n c, env.cells.lookup n = some c → s.heap.get? c = none) → Kp (frsOf env (fe :: outer)) (XO env (plF i) (owOf args xs)) s.heap h' → Kp (frsOf fe outer) (RefX args xs) s.heap h' := fun {env h'} hf hL hcn kp => by
    have hX : ∀ b o, s.heap.get? b = some o → ¬ RefX args xs b → ¬ XO env (plF i) (owOf args xs) b := fun b o e nr q => by
      rcases q with rfl | ⟨n, q⟩ | ⟨j, _, q⟩
      · rw [hL] at e; exact absurd (Heap.lt_size e) (Nat.lt_irrefl _)
      · rw [hcn n b q] at e; cases e
      · exact nr ⟨j, q⟩
    have hF : ∀ b o, s.heap.get? b = some o → b ∈ frsOf env (fe :: outer) → b ∈ frsOf fe outer := fun b o e hb => by
      unfold frsOf at hb ⊢
      rw [List.filterMap_cons, hf] at hb
      rcases List.mem_cons.mp hb with rfl | hb
      · exact absurd (Heap.lt_size e) (Nat.lt_irrefl _)
      · exact hb
    refine ⟨kp.there, fun b o e nr nf => kp.keep b o e (hX b o e nr) fun hb => nf (hF b o e hb), fun b o e nr hf' => kp.slots b o e (hX b o e nr) ?_⟩
    unfold frsOf
    rw [List.filterMap_cons, hf]
    exact List.mem_cons_of_mem _ hf'
  rw [hG]
  cases hx : exSs C ρ₀ f.body with
  | no => trivial
  | exc e ρ' =>
    intro Q E hE
    refine wpAny_call (enter fun env s₁ g1 g2 g3 g4 g5 g6 S => ?_)
    obtain ⟨h₁, tk, rfl⟩ := g4
    have hb := snd_s O O2 O3 CO CR F.cy (A.deeper env) env (fe :: outer) _ env (owOf args xs) s.heap ρ₀ { s with heap := h₁, toks := tk } g1 (rm' env) S
    rw [hx] at hb
    refine hb _ _ fun a' h' tk' S' x' => ?_
    unfold leaving
    refine wpAny_bind (note_ok (s := { s with heap := h', toks := tk' }) S' x' fun h2 S2 x2 => ?_)
    refine flight_ok (s := { s with heap := h2, toks := tk' }) S2 x2 fun h3 S3 x3 => ?_
    exact hE a' h3 tk' (kpBack g2 g3 g6 S3.kp) (x3.toAt fun fl q => q)
  | ok fl ρ' =>
    have fin : ∀ (Q : Value → Shared → Prop) (E : Value → Shared → Prop) (v : FV), (match fl with | .next => FV.none | .ret v => v) = v → (∀ x h' tk, Kp (frsOf fe outer) (RefX args xs) s.heap h' → RV K h' B v x → (∀ j a l, owOf args xs j = some a → (ρ'.take args.length)[j]? = some (some (.ml l)) → Own K h' B a (.ml l)) → Q x { s with heap := h', toks := tk }) →
        wpAny (model K.prog K.w) A (call (.ref a) xs) Q E s := fun Q E v hv hQ => by
      refine wpAny_call (enter fun env s₁ g1 g2 g3 g4 g5 g6 S => ?_)
      obtain ⟨h₁, tk, rfl⟩ := g4
      have hb := snd_s O O2 O3 CO CR F.cy (A.deeper env) env (fe :: outer) _ env (owOf args xs) s.heap ρ₀ { s with heap := h₁, toks := tk } g1 (rm' env) S
      rw [hx] at hb
      refine hb _ _ fun fl' h' tk' S' rf => ?_
      have own' : ∀ j a l, owOf args xs j = some a → (ρ'.take args.length)[j]? = some (some (.ml l)) → Own K h' B a (.ml l) := fun j c l e1 e2 => by
        have e3 : ρ'[j]? = some (some (.ml l)) := by
          rw [List.getElem?_take] at e2
          split at e2
          · exact e2
          · cases e2
        obtain ⟨ow', m1, cm1, k1, k2, st'⟩ := S'.st
        have hjl : ∃ n, nm.vs[j]? = some n := by
          have hjx : j < args.length := by
            unfold owOf at e1
            split at e1
            · rename_i q _; exact (List.getElem?_eq_some_iff.mp q).1
            · cases e1
          have : j < nm.vs.length := by rw [F.len]; have := F.np; omega
          exact ⟨_, List.getElem?_eq_getElem this⟩
        obtain ⟨n, hn⟩ := hjl
        have hpj : plF i j = true := by
          unfold owOf at e1
          split at e1
          · rename_i q _; exact hpl j _ q
          · cases e1
        obtain ⟨c', f1, f2, f3, f4⟩ := st'.R.own j n _ e3 (fun v q => nomatch q) hn
        rw [k1 j hpj, e1] at f1; cases f1
        obtain ⟨sz, ys, hl, rs⟩ := f4
        exact ⟨sz, ys, hl, rs.keep (fun _ _ e _ => e) fun _ _ _ q => .inl (.inl q)⟩
      cases fl with
      | next =>
        cases rf
        cases hv
        exact hQ .none h' tk' (kpBack g2 g3 g6 S'.kp) rfl own'
      | ret u =>
        obtain ⟨y, rfl, ry⟩ := rf
        cases hv
        exact hQ y h' tk' (kpBack g2 g3 g6 S'.kp) (ry.keep (fun _ _ e _ => e) fun _ _ _ q => .inl q) own'
    cases fl with
    | next => exact fun Q E hQ => fin Q E .none rfl hQ
    | ret u => exact fun Q E hQ => fin Q E u rfl hQ
end
end Mine
end

section
open PySem PySem.W PySem.Calls PyProof.Rows
namespace Mine

theorem calls {K : Cfg} {T : Nat → Option Fn} (O : Ok K) (O2 : Ok2 K) (O3 : Ok3 K) (lim : K.base.NoLimit) (FA : ∀ i f, T i = some f → ∃ fd body nm, FnAt K i f fd body nm) : ∀ n, CallOk K (callN T n) n ∧ CallR K (callN T n) n
  | 0 => ⟨⟨fun g vs _ => rfl, fun i vs h => absurd rfl h, fun _ _ _ => trivial⟩, fun _ _ _ _ _ _ _ => trivial⟩
  | n + 1 => by
    obtain ⟨CO, CR⟩ := calls O O2 O3 lim FA n
    have key : CallR K (callN T (n + 1)) (n + 1) := by
      intro A fe outer B s i args xs I rm hl ha hpl hfr hinj
      show EndsC K A (frsOf fe outer) B args xs (match T i with | some f => runFn (callN T n) f args | Option.none => .no) s _
      cases hT : T i with
      | none => trivial
      | some f =>
        obtain ⟨fd, body, nm, F⟩ := FA i f hT
        exact fn_run O O2 O3 lim CO CR F I rm hl ha hpl hfr hinj
    refine ⟨⟨fun g vs hg => ?_, fun i vs h => ?_, fun I rm r => CallR.plain key I rm r⟩, key⟩
    · cases g <;> first | rfl | exact absurd rfl (hg _)
    · have h' : (match T i with | some f => runFn (callN T n) f vs | Option.none => .no) ≠ .no := h
      cases hT : T i with
      | none => rw [hT] at h'; exact absurd rfl h'
      | some f =>
        obtain ⟨fd, body, nm, F⟩ := FA i f hT
        exact F.keep
end Mine
end

section
open PySem PySem.W PySem.Calls PyProof.Rows
set_option maxHeartbeats 4000000
namespace Mine

structure Wit (P : Prop) : Type where
  h : P
abbrev Pf (P : Prop) : Type := Option (Wit P)
def bp {P Q : Prop} (x : Pf P) (f : P → Pf Q) : Pf Q := match x with
  | some w => f w.h
  | none => none
def bq {P : Prop} {α : Type} (x : Pf P) (f : P → Option α) : Option α := match x with
  | some w => f w.h
  | none => none
def bs {α : Type} {P : α → Prop} {Q : Prop} (x : Option ((a : α) × Wit (P a))) (f : (a : α) → P a → Pf Q) : Pf Q := match x with
  | some ⟨a, w⟩ => f a w.h
  | none => none
def need (P : Prop) [Decidable P] : Pf P := if h : P then some ⟨h⟩ else none

mutual
def eqFV : Nat → (v w : FV) → Pf (v = w)
  | 0, _, _ => none
  | _ + 1, .none, .none => some ⟨rfl⟩
  | _ + 1, .bool a, .bool b => bp (need (a = b)) fun h => some ⟨by rw [h]⟩
  | _ + 1, .int a, .int b => bp (need (a = b)) fun h => some ⟨by rw [h]⟩
  | _ + 1, .str a, .str b => bp (need (a = b)) fun h => some ⟨by rw [h]⟩
  | _ + 1, .bytes a, .bytes b => bp (need (a = b)) fun h => some ⟨by rw [h]⟩
  | n + 1, .tup a, .tup b => bp (eqFVs n a b) fun h => some ⟨by rw [h]⟩
  | _ + 1, .gl a, .gl b => bp (need (a = b)) fun h => some ⟨by rw [h]⟩
  | _ + 1, .typ a, .typ b => bp (need (a = b)) fun h => some ⟨by rw [h]⟩
  | _ + 1, _, _ => none
def eqFVs : Nat → (v w : List FV) → Pf (v = w)
  | 0, _, _ => none
  | _ + 1, [], [] => some ⟨rfl⟩
  | n + 1, a :: r, b :: q => bp (eqFV n a b) fun h => bp (eqFVs n r q) fun h' => some ⟨by rw [h, h']⟩
  | _ + 1, _, _ => none
end
def isG (n : Str) (v : FV) : Pf (gtab n = some v) := match h : gtab n with
  | some w => bp (eqFV 10 w v) fun e => some ⟨by rw [e]⟩
  | Option.none => Option.none
def isC (c : Const) (v : FV) : Pf (constOf c = some v) := match h : constOf c with
  | some w => bp (eqFV 10 w v) fun e => some ⟨by rw [e]⟩
  | Option.none => Option.none
def eqPr : (f g : Prim) → Pf (f = g)
  | .add, .add => some ⟨rfl⟩ | .sub, .sub => some ⟨rfl⟩ | .mul, .mul => some ⟨rfl⟩ | .div, .div => some ⟨rfl⟩ | .mod, .mod => some ⟨rfl⟩
  | .lt, .lt => some ⟨rfl⟩ | .le, .le => some ⟨rfl⟩ | .gt, .gt => some ⟨rfl⟩ | .ge, .ge => some ⟨rfl⟩ | .eq, .eq => some ⟨rfl⟩ | .ne, .ne => some ⟨rfl⟩ | .inn, .inn => some ⟨rfl⟩
  | _, _ => none
def isOp (o : Operator) (f : Prim) : Pf (opOf o = some f) := match h : opOf o with
  | some g => bp (eqPr g f) fun e => some ⟨by rw [e]⟩
  | Option.none => Option.none
def isIop (o : Operator) (f : Prim) : Pf (iopOf o = some f) := match h : iopOf o with
  | some g => bp (eqPr g f) fun e => some ⟨by rw [e]⟩
  | Option.none => Option.none
def isCmp (o : CmpOp) (f : Prim) : Pf (cmpOf o = some f) := match h : cmpOf o with
  | some g => bp (eqPr g f) fun e => some ⟨by rw [e]⟩
  | Option.none => Option.none
abbrev gI (sc : Scope) (n : Str) : Pf (sc.names.lookup n = some .globalImplicit) := need _
abbrev nD (n : Str) : Pf ((n == ("__debug__" : Str)) = false) := need _
abbrev nC (n : Str) : Pf ((n == ("__classdict__" : Str)) = false) := need _
def isK (sc : Scope) (n : Str) : Pf (kName sc n) := need (sc.names.lookup n = some .local ∨ sc.names.lookup n = some .cell ∨ sc.names.lookup n = some .free)
def isS (sc : Scope) (n : Str) : Pf (sName sc n) := need (sc.names.lookup n = some .local ∨ sc.names.lookup n = some .cell)
def isB1 (n : Str) : (f : Prim) → Option (Wit (∃ v, Blt1 n v f))
  | .len => bp (need (n = "len")) fun h => some ⟨_, by rw [h]; exact .len⟩
  | .sum => bp (need (n = "sum")) fun h => some ⟨_, by rw [h]; exact .sum⟩
  | .all => bp (need (n = "all")) fun h => some ⟨_, by rw [h]; exact .all⟩
  | .strInt => bp (need (n = "str")) fun h => some ⟨_, by rw [h]; exact .str⟩
  | .tupleOf => bp (need (n = "tuple")) fun h => some ⟨_, by rw [h]; exact .tuple⟩
  | .listOf => bp (need (n = "list")) fun h => some ⟨_, by rw [h]; exact .list⟩
  | .bytesOf => bp (need (n = "bytes")) fun h => some ⟨_, by rw [h]; exact .bytes⟩
  | _ => none
def isB2 (n : Str) : (f : Prim) → Option (Wit (∃ v, Blt2 n v f))
  | .min2 => bp (need (n = "min")) fun h => some ⟨_, by rw [h]; exact .min⟩
  | .max2 => bp (need (n = "max")) fun h => some ⟨_, by rw [h]; exact .max⟩
  | _ => none
def isT (n : Str) (t : String) : Pf (BltT n t) :=
  if h : n = "bool" ∧ t = "bool" then some ⟨by rw [h.1, h.2]; exact .bool⟩ else if h : n = "int" ∧ t = "int" then some ⟨by rw [h.1, h.2]; exact .int⟩ else if h : n = "str" ∧ t = "str" then some ⟨by rw [h.1, h.2]; exact .str⟩
  else if h : n = "bytes" ∧ t = "bytes" then some ⟨by rw [h.1, h.2]; exact .bytes⟩ else if h : n = "list" ∧ t = "list" then some ⟨by rw [h.1, h.2]; exact .list⟩ else if h : n = "tuple" ∧ t = "tuple" then some ⟨by rw [h.1, h.2]; exact .tuple⟩
  else if h : n = "dict" ∧ t = "dict" then some ⟨by rw [h.1, h.2]; exact .dict⟩ else none
def chkCls (sc : Scope) : (x : Expr) → (c : FV) → Pf (ClsOf sc x c)
  | .Name n p, .gl i => bp (isG n (.gl i)) fun h => bp (gI sc n) fun k => some ⟨.own h k⟩
  | .Name n p, .typ t => bp (isT n t) fun h => bp (gI sc n) fun k => some ⟨.blt h k⟩
  | _, _ => none
def chkClss (sc : Scope) : (xs : List Expr) → (cs : List FV) → Pf (ClssOf sc xs cs)
  | [], [] => some ⟨.nil⟩
  | x :: xs, c :: cs => bp (chkCls sc x c) fun h => bp (chkClss sc xs cs) fun k => some ⟨.cons h k⟩
  | _, _ => none
def chkTgt : (x : Expr) → (m : Nat) → Option ((ns : List Str) × Wit (TgtOf x ns m))
  | .Name n p, 0 => some ⟨[n], ⟨.one⟩⟩
  | .Tuple [.Name n p, .Name m p'] k p'', 2 => bq (need (n ≠ m)) fun h => some ⟨[n, m], ⟨.two h⟩⟩
  | _, _ => none
def chkSrc (sc : Scope) : (x : Expr) → (s : Src) → Option ((es : List Expr) × Wit (SrcOf sc x s es))
  | x, .lst => bq (need (plainE x = true)) fun h => bq (need (notSet x = true)) fun k => some ⟨[x], ⟨.lst h k⟩⟩
  | .Call (.Name n p') [x] [] p, .rng1 => bq (need (n = "range")) fun h => bq (gI sc n) fun k => some ⟨[x], ⟨by subst h; exact .rng1 k⟩⟩
  | .Call (.Name n p') [x, y] [] p, .rng2 => bq (need (n = "range")) fun h => bq (gI sc n) fun k => some ⟨[x, y], ⟨by subst h; exact .rng2 k⟩⟩
  | .Call (.Attribute o n p') [] [] p, .items => bq (need (n = "items")) fun h => bq (need (plainBase o = true)) fun k => bq (need ((p'.endLine == p.line) = true)) fun l => some ⟨[o], ⟨by subst h; exact .items k l⟩⟩
  | .Call (.Name n p') [x] [] p, .enum => bq (need (n = "enumerate")) fun h => bq (gI sc n) fun k => some ⟨[x], ⟨by subst h; exact .enum k⟩⟩
  | _, _ => none

/-! does an expression of the text stand for an abstract one? -/
mutual
def chkE : Nat → (nm : Nms) → (sc : Scope) → (x : Expr) → (a : CE) → Pf (CX nm sc (.e x) (.e a))
  | 0, _, _, _, _ => none
  | n + 1, nm, sc, x, .bad => bp (need (plainE x = true)) fun h => some ⟨.bad h⟩
  | n + 1, nm, sc, .Constant c k p, .k v => bp (isC c v) fun h => some ⟨.const h⟩
  | n + 1, nm, sc, .UnaryOp .USub (.Constant (.int i) k p) p', .k (.int j) => bp (need (j = -i)) fun h => some ⟨by subst h; exact .neg⟩
  | n + 1, nm, sc, .Name nn p, .k v => bp (isG nn v) fun h => bp (gI sc nn) fun k => bp (nD nn) fun d => some ⟨.glob h k d⟩
  | n + 1, nm, sc, .Name nn p, .v i => bp (need (nm.vs[i]? = some nn)) fun h => bp (need (nn ∉ nm.cs)) fun c => bp (isK sc nn) fun k => bp (nD nn) fun d => bp (nC nn) fun d' => some ⟨.loc h c k d d'⟩
  | n + 1, nm, sc, .Name nn p, .c i => bp (need (nm.cs[i]? = some nn)) fun h => bp (nD nn) fun d => bp (nC nn) fun d' => some ⟨.cv h d d'⟩
  | n + 1, nm, sc, .Call (.Name f p') [.Name nn p''] [] p, .lenv i => bp (need (f = "len")) fun e => bp (gI sc f) fun k => bp (need (nm.cs = [])) fun c => bp (need (nm.vs[i]? = some nn)) fun h => bp (nD nn) fun d => bp (nC nn) fun d' => some ⟨by subst e; exact .lenv k c h d d'⟩
  | n + 1, nm, sc, .BoolOp .And [x, y] p, .and a b => bp (chkE n nm sc x a) fun h => bp (chkE n nm sc y b) fun k => some ⟨.and2 h k⟩
  | n + 1, nm, sc, .BoolOp .And [x, y, z] p, .and a (.and b c) => bp (chkE n nm sc x a) fun h => bp (chkE n nm sc y b) fun k => bp (chkE n nm sc z c) fun l => some ⟨.and3 h k l⟩
  | n + 1, nm, sc, .BoolOp .Or [x, y] p, .or a b => bp (chkE n nm sc x a) fun h => bp (chkE n nm sc y b) fun k => some ⟨.or2 h k⟩
  | n + 1, nm, sc, .IfExp t x y p, .ife c a b => bp (chkE n nm sc t c) fun h => bp (chkE n nm sc x a) fun k => bp (chkE n nm sc y b) fun l => some ⟨.ife h k l⟩
  | n + 1, nm, sc, .Compare l [op, op'] [m, r] p, .chn a f b f' c => bp (isCmp op f) fun o => bp (isCmp op' f') fun o' => bp (need (behindInMarks op' r = false)) fun q => bp (chkE n nm sc l a) fun h => bp (chkE n nm sc m b) fun k => bp (chkE n nm sc r c) fun l => some ⟨.chn o o' q h k l⟩
  | n + 1, nm, sc, .Call f (x :: xs) [] p, .call a as => bp (need (plainF f = true)) fun q => bp (chkE n nm sc f a) fun h => bp (chkL n nm sc (x :: xs) as) fun k => some ⟨.call q h k⟩
  | n + 1, nm, sc, .ListComp elt [⟨tgt, iter, [], 0⟩] scope p, .comp e m s as => bs (chkTgt tgt m) fun names t => bs (chkSrc sc iter s) fun es q => bp (need (nm.cs = [])) fun c => bp (need (scopeOk scope sc names = true)) fun o => bp (need (cvOk nm.vs names scope = true)) fun v => bp (need (pairOk s m = true)) fun w => bp (chkL n nm sc es as) fun h => bp (chkE n ⟨nm.vs, names⟩ (relabelS scope sc) elt e) fun k => some ⟨.comp t q c o v w h k⟩
  | n + 1, nm, sc, .Compare l [.Is] [.Constant .none k p'] p, .p .isNone [a] => bp (chkE n nm sc l a) fun h => some ⟨.isN h⟩
  | n + 1, nm, sc, .UnaryOp .Not x p, .p .not [a] => bp (chkE n nm sc x a) fun h => some ⟨.notE h⟩
  | n + 1, nm, sc, .Subscript x (.Slice (some l) (some u) Option.none p') p, .p .slAB [a, b, c] => bp (chkE n nm sc x a) fun h => bp (chkE n nm sc l b) fun k => bp (chkE n nm sc u c) fun l => some ⟨.slAB h k l⟩
  | n + 1, nm, sc, .Subscript x (.Slice (some l) Option.none Option.none p') p, .p .slA [a, b] => bp (chkE n nm sc x a) fun h => bp (chkE n nm sc l b) fun k => some ⟨.slA h k⟩
  | n + 1, nm, sc, .Subscript x (.Slice Option.none (some u) Option.none p') p, .p .slB [a, b] => bp (chkE n nm sc x a) fun h => bp (chkE n nm sc u b) fun k => some ⟨.slB h k⟩
  | n + 1, nm, sc, .Subscript x i p, .p .idx [a, b] => bp (need (plainKey i = true)) fun q => bp (chkE n nm sc x a) fun h => bp (chkE n nm sc i b) fun k => some ⟨.sub q h k⟩
  | n + 1, nm, sc, .Tuple xs k p, .p .mkTup as => bp (chkL n nm sc xs as) fun h => some ⟨.tup h⟩
  | n + 1, nm, sc, .List xs p, .p .mkLst as => bp (chkL n nm sc xs as) fun h => some ⟨.lst h⟩
  | n + 1, nm, sc, .Call (.Name nn p') [x, .Tuple ys k p''] [] p, .p (.isi cs) [a] => bp (need (nn = "isinstance")) fun e => bp (gI sc nn) fun q => bp (chkE n nm sc x a) fun h => bp (chkClss sc ys cs) fun l => bp (need (cs.length ≤ 1000)) fun z => some ⟨by subst e; exact .isiT q h l z⟩
  | n + 1, nm, sc, .Call (.Name nn p') [x, y] [] p, .p (.isi [c]) [a] => bp (need (nn = "isinstance")) fun e => bp (gI sc nn) fun q => bp (chkE n nm sc x a) fun h => bp (chkCls sc y c) fun l => some ⟨by subst e; exact .isi1 q h l⟩
  | n + 1, nm, sc, .Call (.Attribute o m p') [.Constant (.str e) k p''] [] p, .p .enc [a] => bp (need (m = "encode")) fun em => bp (need (k = 0)) fun ek => bp (need (plainBase o = true)) fun q => bp (need ((p'.endLine == p.line) = true)) fun l => bp (chkE n nm sc o a) fun h => if h1 : e = Str.ofString "utf-8" then some ⟨by subst em; subst ek; subst h1; exact .enc (.inl rfl) q l h⟩ else if h1 : e = Str.ofString "utf8" then some ⟨by subst em; subst ek; subst h1; exact .enc (.inr rfl) q l h⟩ else Option.none
  | n + 1, nm, sc, .Call (.Attribute o m p') [.Constant (.str e) k p''] [] p, .p .dec [a] => bp (need (m = "decode")) fun em => bp (need (k = 0)) fun ek => bp (need (e = Str.ofString "utf-8")) fun h1 => bp (need (plainBase o = true)) fun q => bp (need ((p'.endLine == p.line) = true)) fun l => bp (chkE n nm sc o a) fun h => some ⟨by subst em; subst ek; subst h1; exact .dec q l h⟩
  | n + 1, nm, sc, .Call (.Attribute (.Constant (.bytes b) k p'') m p') [x] [] p, .p .join [a] => bp (need (m = "join")) fun em => bp (need (b = [])) fun eb => bp (need ((p'.endLine == p.line) = true)) fun l => bp (chkE n nm sc x a) fun h => some ⟨by subst em; subst eb; exact .join l h⟩
  | n + 1, nm, sc, .Call (.Attribute o m p') [.Constant (.int i) k p1, .Constant (.str e) k2 p2] [] p, .p (.toB false) [a] => bp (need (m = "to_bytes")) fun em => bp (need (i = 4)) fun ei => bp (need (k2 = 0)) fun ek => bp (need (e = Str.ofString "little")) fun h1 => bp (need (plainBase o = true)) fun q => bp (need ((p'.endLine == p.line) = true)) fun l => bp (chkE n nm sc o a) fun h => some ⟨by subst em; subst ei; subst ek; subst h1; exact .toBp q l h⟩
  | n + 1, nm, sc, .Call (.Attribute o m p') [.Constant (.int i) k p1, .Constant (.str e) k2 p2] [⟨some kn, .Constant (.bool b) k' p3, p4⟩] p, .p (.toB true) [a] => bp (need (m = "to_bytes")) fun em => bp (need (i = 4)) fun ei => bp (need (k2 = 0)) fun ek => bp (need (e = Str.ofString "little")) fun h1 => bp (need (kn = "signed")) fun h2 => bp (need (b = true)) fun h3 => bp (need (plainBase o = true)) fun q => bp (need ((p'.endLine == p.line) = true)) fun l => bp (chkE n nm sc o a) fun h => some ⟨by subst em; subst ei; subst ek; subst h1; subst h2; subst h3; exact .toBs q l h⟩
  | n + 1, nm, sc, .Call (.Attribute (.Name nn p1) m p') [x, .Constant (.str e) k2 p2] [⟨some kn, y, p3⟩] p, .p .fromB [a, b] => bp (need (m = "from_bytes")) fun em => bp (need (nn = "int")) fun en => bp (need (k2 = 0)) fun ek => bp (need (e = Str.ofString "little")) fun h1 => bp (need (kn = "signed")) fun h2 => bp (gI sc nn) fun g => bp (need ((p'.endLine == p.line) = true)) fun l => bp (chkE n nm sc x a) fun h => bp (chkE n nm sc y b) fun k => some ⟨by subst em; subst en; subst ek; subst h1; subst h2; exact .fromB g l h k⟩
  | n + 1, nm, sc, .Call (.Attribute o m p') [.Constant c k p1] [] p, .p .get [a, .k v] => bp (need (m = "get")) fun em => bp (isC c v) fun q => bp (need (plainBase o = true)) fun w => bp (need ((p'.endLine == p.line) = true)) fun l => bp (chkE n nm sc o a) fun h => some ⟨by subst em; exact .get q w l h⟩
  | n + 1, nm, sc, .Attribute o m p, .p (.attr t) [a] => bp (need (m = Str.ofString t)) fun em => bp (need (plainBase o = true)) fun w => bp (chkE n nm sc o a) fun h => some ⟨by subst em; exact .attr w h⟩
  | n + 1, nm, sc, .Call (.Name nn p') [x] [] p, .p .mkCode [a] => bp (need (nn = "Code")) fun e => bp (gI sc nn) fun q => bp (chkE n nm sc x a) fun h => some ⟨by subst e; exact .mkCode q h⟩
  | n + 1, nm, sc, .Call (.Name nn p') [x] [] p, .p f [a] => bp (isB1 nn f) fun e => bp (gI sc nn) fun q => bp (chkE n nm sc x a) fun h => some ⟨let ⟨v, e⟩ := e; .blt1 e q h⟩
  | n + 1, nm, sc, .Call (.Name nn p') [x, y] [] p, .p f [a, b] => bp (isB2 nn f) fun e => bp (gI sc nn) fun q => bp (chkE n nm sc x a) fun h => bp (chkE n nm sc y b) fun k => some ⟨let ⟨v, e⟩ := e; .blt2 e q h k⟩
  | n + 1, nm, sc, .BinOp l op r p, .p f [a, b] => bp (isOp op f) fun o => bp (chkE n nm sc l a) fun h => bp (chkE n nm sc r b) fun k => some ⟨.bin o h k⟩
  | n + 1, nm, sc, .Compare l [op] [r] p, .p f [a, b] => bp (isCmp op f) fun o => bp (need (behindInMarks op r = false)) fun q => bp (chkE n nm sc l a) fun h => bp (chkE n nm sc r b) fun k => some ⟨.cmp o q h k⟩
  | _ + 1, _, _, _, _ => none
def chkL : Nat → (nm : Nms) → (sc : Scope) → (xs : List Expr) → (as : List CE) → Pf (CX nm sc (.l xs) (.l as))
  | 0, _, _, _, _ => none
  | n + 1, nm, sc, [], [] => some ⟨.enil⟩
  | n + 1, nm, sc, x :: xs, a :: as => bp (chkE n nm sc x a) fun h => bp (chkL n nm sc xs as) fun k => some ⟨.econs h k⟩
  | _ + 1, _, _, _, _ => none
end
end Mine
end

section
open PySem PySem.W PySem.Calls PyProof.Rows
set_option maxHeartbeats 4000000
namespace Mine

def eqEC : (a b : EC) → Pf (a = b)
  | .own i, .own j => bp (need (i = j)) fun h => some ⟨by rw [h]⟩
  | .blt i, .blt j => bp (need (i = j)) fun h => some ⟨by rw [h]⟩
  | _, _ => none
def isBt (n : Str) (t : String) : Pf (btab n = some (.type t)) := match h : btab n with
  | some (.type u) => bp (need (u = t)) fun e => some ⟨by rw [e]⟩
  | _ => Option.none
def chkEc (sc : Scope) : (x : Expr) → (c : EC) → Pf (EcOf sc x c)
  | .Name n p, .own i => bp (isG n (.gl i)) fun h => bp (gI sc n) fun k => some ⟨.own h k⟩
  | .Name n p, .blt t => bp (isBt n t) fun h => bp (gI sc n) fun k => bp (nD n) fun d => some ⟨.blt h k d⟩
  | _, _ => none
def chkNm (vs : List Str) (sc : Scope) : (es : List Expr) → (is : List Nat) → Pf (NmL vs sc es is)
  | [], [] => some ⟨.nil⟩
  | .Name n p :: es, i :: is => bp (need (vs[i]? = some n)) fun h => bp (isS sc n) fun k => bp (chkNm vs sc es is) fun l => some ⟨.cons h k l⟩
  | _, _ => none
def chkTgF (vs : List Str) (sc : Scope) : (e : Expr) → (is : List Nat) → Pf (TgtF vs sc e is)
  | .Name n p, [i] => bp (need (vs[i]? = some n)) fun h => bp (isS sc n) fun k => some ⟨.one h k⟩
  | .Tuple es k p, [i, j] => bp (chkNm vs sc es [i, j]) fun h => some ⟨.two h⟩
  | _, _ => none
def chkHd (vs : List Str) (sc : Scope) : (h : ExceptHandler) → (d : Hd) → Pf (HdOf vs sc h d)
  | h, .other => some ⟨.other⟩
  | .ExceptHandler (some t) (some n) [.Raise (some (.Call b [.Call (.Name st p1) [.Name n' p2] [] p3] [] p4)) (some (.Constant .none k p5)) p6] p, .raiseStr i c =>
      bp (need (st = "str")) fun e1 => bp (need (n' = n)) fun e2 => bp (need (vs[i]? = some n)) fun hi => bp (need (sc.names.lookup n = some .local)) fun hk => bp (chkEc sc b c) fun hc => bp (gI sc st) fun hg => bp (nD n) fun d1 =>
        some ⟨by subst e1; subst e2; exact .raiseStr hi hk hc hg d1⟩
  | .ExceptHandler (some t) Option.none [.Expr (.Call (.Name f p1) [.Name n p2, .Name m p3] [] p4) p5] p, .unk i j =>
      bp (need (f = "_raise_unknown_type")) fun e => bp (need (vs[i]? = some n)) fun h1 => bp (need (vs[j]? = some m)) fun h2 => bp (isK sc n) fun k1 => bp (isK sc m) fun k2 => bp (nD n) fun d1 => bp (nC n) fun d2 => bp (nD m) fun d3 => bp (nC m) fun d4 => bp (gI sc f) fun g =>
        some ⟨by subst e; exact .unk h1 h2 k1 k2 d1 d2 d3 d4 g⟩
  | .ExceptHandler (some t) Option.none [.Raise Option.none Option.none p1] p, .again => some ⟨.again⟩
  | .ExceptHandler (some t) Option.none [.Return (some (.Constant (.bool b) k p1)) p2] p, .ret (.bool b') => bp (need (b' = b)) fun e => some ⟨by subst e; exact .ret⟩
  | _, _ => none
def chkHds (vs : List Str) (sc : Scope) : (hs : List ExceptHandler) → (ds : List (EC × Hd)) → Pf (HdsOf vs sc hs ds)
  | [], [] => some ⟨.nil⟩
  | .ExceptHandler (some t) n (b :: r) p :: hs, (c, d) :: ds => bp (chkEc sc t c) fun h => bp (chkHd vs sc (.ExceptHandler (some t) n (b :: r) p) d) fun k => bp (chkHds vs sc hs ds) fun l => some ⟨.cons h k ⟨b, r, rfl⟩ l⟩
  | _, _ => none

mutual
def chkS : Nat → (nm : Nms) → (sc : Scope) → (pl : Nat → Bool) → (x : Stmt) → (c : CS) → Pf (CY nm sc pl (.s x) (.s c))
  | 0, _, _, _, _, _ => none
  | n + 1, nm, sc, pl, x, .bad => some ⟨.bad⟩
  | n + 1, nm, sc, pl, .Expr x p, .ex a => bp (chkE 100 nm sc x a) fun h => bp (need (notComp x = true)) fun k => some ⟨.ex h k⟩
  | n + 1, nm, sc, pl, .Assign [.Name nn p] (.ListComp elt [⟨tgt, iter, [], 0⟩] scope pc) q, .set i (.comp e m s as) =>
      if sc.names.lookup nn = some .local then
        bp (need (nm.vs[i]? = some nn)) fun h1 => bp (need (sc.names.lookup nn = some .local)) fun h2 => bp (need ((p.line == pc.line) = true)) fun h3 => bp (need ((scope.names.any fun (y, k) => y == nn && (k == .local || k == .cell)) = false)) fun h4 =>
        bs (chkTgt tgt m) fun names t => bs (chkSrc sc iter s) fun es q => bp (need (nm.cs = [])) fun c => bp (need (scopeOk scope sc names = true)) fun o => bp (need (cvOk nm.vs names scope = true)) fun v => bp (need (pairOk s m = true)) fun w =>
        bp (chkL 100 nm sc es as) fun h => bp (chkE 100 ⟨nm.vs, names⟩ (relabelS scope sc) elt e) fun k => some ⟨.setC h1 h2 h3 h4 t q c o v w h k⟩
      else bp (need (nm.vs[i]? = some nn)) fun h => bp (isS sc nn) fun k => bp (chkE 100 nm sc (.ListComp elt [⟨tgt, iter, [], 0⟩] scope pc) (.comp e m s as)) fun l => bp (need (swOk sc (.ListComp elt [⟨tgt, iter, [], 0⟩] scope pc) nn = true)) fun w => some ⟨.set h k l w⟩
  | n + 1, nm, sc, pl, .Assign [.Name nn p] x q, .set i a => bp (need (nm.vs[i]? = some nn)) fun h => bp (isS sc nn) fun k => bp (chkE 100 nm sc x a) fun l => bp (need (swOk sc x nn = true)) fun w => some ⟨.set h k l w⟩
  | n + 1, nm, sc, pl, .Assign [.Name nn p] (.List [] p') q, .ml0 i => bp (need (pl i = false)) fun z => bp (need (nm.vs[i]? = some nn)) fun h => bp (isS sc nn) fun k => some ⟨.ml0 z h k⟩
  | n + 1, nm, sc, pl, .Assign [.Name nn p] (.Dict [] [] p') q, .md0 i => bp (need (pl i = false)) fun z => bp (need (nm.vs[i]? = some nn)) fun h => bp (isS sc nn) fun k => some ⟨.md0 z h k⟩
  | n + 1, nm, sc, pl, .Assign [.Tuple [.Name a p, .Name b p1] k p2] (.Tuple [.List [] p3, .List [] p4] k' p5) q, .ml2 i j =>
      bp (need (pl i = false)) fun h1 => bp (need (pl j = false)) fun h2 => bp (need (i ≠ j)) fun h3 => bp (need (nm.vs[i]? = some a)) fun h4 => bp (need (nm.vs[j]? = some b)) fun h5 => bp (need (sc.names.lookup a = some .local)) fun h6 => bp (need (sc.names.lookup b = some .local)) fun h7 => bp (need ((p.line == p1.line) = true)) fun h8 =>
        some ⟨.ml2 h1 h2 h3 h4 h5 h6 h7 h8⟩
  | n + 1, nm, sc, pl, .Assign [.Tuple es k p] x q, .un is a => bp (chkNm nm.vs sc es is) fun h => bp (need (2 ≤ is.length)) fun l => bp (chkE 100 nm sc x a) fun w => bp (need (notTup x = true)) fun t => some ⟨.un h l w t⟩
  | n + 1, nm, sc, pl, .Expr (.Call (.Attribute (.Name nn p) m p1) [x] [] p2) q, .app i a =>
      bp (need (m = "append")) fun e => bp (need (nm.vs[i]? = some nn)) fun h => bp (isK sc nn) fun k => bp (nD nn) fun d => bp (nC nn) fun d' => bp (need ((p1.endLine == p2.line) = true)) fun l => bp (chkE 100 nm sc x a) fun w => some ⟨by subst e; exact .app h k d d' l w⟩
  | n + 1, nm, sc, pl, .Assign [.Subscript (.Name nn p) y p1] x q, .put i b a => bp (need (nm.vs[i]? = some nn)) fun h => bp (isK sc nn) fun k => bp (nD nn) fun d => bp (nC nn) fun d' => bp (need (notComp x = true)) fun l => bp (chkE 100 nm sc y b) fun w => bp (chkE 100 nm sc x a) fun w' => some ⟨.put h k d d' l w w'⟩
  | n + 1, nm, sc, pl, .AugAssign (.Name nn p) op x q, .aug f i a => bp (isIop op f) fun o => bp (need (nm.vs[i]? = some nn)) fun h => bp (isS sc nn) fun k => bp (nC nn) fun d => bp (chkE 100 nm sc x a) fun w => some ⟨.aug o h k d w⟩
  | n + 1, nm, sc, pl, .If t xs ys p, .ite a as bs => bp (chkE 100 nm sc t a) fun h => bp (chkB n nm sc pl xs as) fun k => bp (chkB n nm sc pl ys bs) fun l => some ⟨.ite h k l⟩
  | n + 1, nm, sc, pl, .While t xs [] p, .whl a as => bp (chkE 100 nm sc t a) fun h => bp (chkB n nm sc pl xs as) fun k => some ⟨.whl h k⟩
  | n + 1, nm, sc, pl, .For tgt iter xs [] p, .for is s as bs' => bp (chkTgF nm.vs sc tgt is) fun t => bs (chkSrc sc iter s) fun es q => bp (need (pairOkF s is.length = true)) fun w => bp (chkL 100 nm sc es as) fun h => bp (chkB n nm sc (fun _ => true) xs bs') fun k => some ⟨.for t q w h k⟩
  | n + 1, nm, sc, pl, .Return (some x) p, .ret a => bp (chkE 100 nm sc x a) fun h => some ⟨.ret h⟩
  | n + 1, nm, sc, pl, .Return Option.none p, .ret0 => some ⟨.ret0⟩
  | n + 1, nm, sc, pl, .Raise (some (.Call t [x] [] p1)) Option.none p, .rs c a => bp (chkEc sc t c) fun h => bp (need (c = .own 104 ∨ c = .blt "ValueError")) fun k => bp (chkE 100 nm sc x a) fun l => some ⟨.rs h k l⟩
  | n + 1, nm, sc, pl, .Try xs (h :: hs) [] [] p, .try cs ds => bp (chkB n nm sc pl xs cs) fun k => bp (chkHds nm.vs sc (h :: hs) ds) fun l => some ⟨.try k l⟩
  | n + 1, nm, sc, pl, .Expr (.Call (.Name fn p0) [x1, x2, .Name n1 p3, .Name n2 p4] [] p1) q, .callR (.k (.gl g)) [a1, a2] [r1, r2] =>
      bp (need (g = 7)) fun e => bp (isG fn (.gl 7)) fun h1 => bp (gI sc fn) fun h2 => bp (nD fn) fun h3 => bp (chkE 100 nm sc x1 a1) fun w1 => bp (chkE 100 nm sc x2 a2) fun w2 => bp (need (nm.vs[r1]? = some n1)) fun v1 => bp (need (nm.vs[r2]? = some n2)) fun v2 => bp (need (r1 ≠ r2)) fun r =>
      bp (nD n1) fun d1 => bp (nC n1) fun d2 => bp (nD n2) fun d3 => bp (nC n2) fun d4 => some ⟨by subst e; exact .callR h1 h2 h3 w1 w2 v1 v2 r d1 d2 d3 d4⟩
  | _ + 1, _, _, _, _, _ => none
def chkB : Nat → (nm : Nms) → (sc : Scope) → (pl : Nat → Bool) → (xs : List Stmt) → (cs : List CS) → Pf (CY nm sc pl (.b xs) (.b cs))
  | 0, _, _, _, _, _ => none
  | n + 1, nm, sc, pl, [], [] => some ⟨.nil⟩
  | n + 1, nm, sc, pl, xs, .bad :: cs => some ⟨.badB⟩
  | n + 1, nm, sc, pl, xs, .frz i :: cs => bp (need (pl i = false)) fun z => bp (need (i < nm.vs.length)) fun h => bp (chkB n nm sc pl xs cs) fun k => some ⟨.frz z ⟨_, List.getElem?_eq_getElem h⟩ k⟩
  | n + 1, nm, sc, pl, x :: xs, c :: cs => bp (chkS n nm sc pl x c) fun h => bp (chkB n nm sc pl xs cs) fun k => some ⟨.cons h k⟩
  | _ + 1, _, _, _, _, _ => none
end
end Mine
end

section
open PySem PySem.W PySem.Calls PyProof.Rows
namespace Mine
/-- the names of each function: its parameters, then its own -/
def namesT : Nat → List String
  | 0 => ["k"] | 1 => ["number"] | 2 => ["kind", "unit", "count"] | 3 => ["kind", "pairs"] | 4 => ["nodes"] | 5 => ["pick", "m", "budget", "node", "k"]
  | 6 => ["node", "kind", "held", "size", "items", "document", "name", "one"] | 7 => ["node", "at", "out", "places", "kind", "held", "size", "told", "name", "one"]
  | 8 => ["got", "node", "kind", "held", "size", "names", "text"] | 9 => ["script", "budget", "pairs", "n", "node", "whole", "out", "places", "octets", "seed", "at", "told", "other"]
  | 10 => ["document", "check_keys", "codec_options"] | 11 => ["doc", "check_keys", "opts", "top_level", "elements", "key", "value", "encoded", "err"] | 12 => ["key", "value", "check_keys", "opts", "name"] | 13 => ["string"] | 14 => ["string"]
  | 15 => ["name", "value", "check_keys", "opts", "in_fallback_call", "was_integer_overflow", "fallback_encoder"] | 16 => ["name", "value", "dummy0", "dummy1"] | 17 => ["name", "value", "dummy0", "dummy1", "bvalue"] | 18 => ["name", "value", "dummy0", "dummy1"]
  | 19 => ["name", "value", "check_keys", "opts", "data"] | 20 => ["name", "value", "check_keys", "opts", "data"] | 21 => ["name", "value", "dummy", "opts", "cstring", "cstrlen", "scope", "full_length"] | 22 => ["string"] | 23 => ["value"]
  | 24 => ["data", "codec_options", "opts"] | 25 => ["data", "opts", "view", "_", "end"] | 26 => ["data"] | 27 => ["data", "position", "obj_end", "obj_size", "end", "exc"] | 28 => ["data", "position"] | 29 => ["data", "position", "size", "signed"]
  | 30 => ["data", "view", "position", "obj_end", "opts", "result", "end", "key", "value"] | 31 => ["data", "view", "position", "obj_end", "opts", "element_type", "element_name", "value"] | 32 => ["data", "view", "position", "opts", "end"] | 33 => ["data", "position", "k"] | 34 => ["octets", "errors", "final"]
  | 35 => ["data", "view", "position", "obj_end", "opts", "dummy", "length", "end"] | 36 => ["data", "view", "position", "obj_end", "opts", "dummy", "obj_size", "end", "obj"] | 37 => ["data", "view", "position", "obj_end", "opts", "element_name", "size", "end", "result", "getter", "element_type", "value"]
  | 38 => ["data", "_view", "position", "obj_end", "opts", "dummy1", "length", "subtype", "length2", "end", "uuid_rep", "binary_value", "value"] | 39 => ["data", "position"] | 40 => ["data", "view", "position", "obj_end", "opts", "element_name", "code"] | 41 => ["data", "_view", "position", "dummy0", "dummy1", "dummy2"] | 43 => ["bson"]
  | _ => []
def nmT (i : Nat) : Nms := ⟨(namesT i).map Str.ofString, []⟩
end Mine
end

section
open PySem PySem.W PySem.Calls PyProof.Rows
namespace Mine
def keep0 : List Nat := [46, 47, 95, 96, 97, 100, 101, 102, 103, 104, 105, 106, 107, 108, 109, 110, 111, 115, 123, 124, 125, 126, 131, 132, 133, 134, 136, 137, 145, 146, 153, 157, 162, 163, 164, 165, 166, 167, 168, 169, 170, 171]
/-- the part of the text that is looked at -/
def q0 : Program := view PySem.Challenge.pw_fw0046_01 keep0
/-- the names that stand free -/
def loose0 : List Str := [Str.ofString "_wall", Str.ofString "UUID", Str.ofString "_turned", Str.ofString "BINARY_SUBTYPE", Str.ofString "OLD_UUID_SUBTYPE", Str.ofString "UUID_SUBTYPE", Str.ofString "UuidRepresentation", Str.ofString "STANDARD", Str.ofString "ALL_UUID_SUBTYPES", Str.ofString "ALL_UUID_REPRESENTATIONS", Str.ofString "UUID_REPRESENTATION_NAMES", Str.ofString "Binary", Str.ofString "Code", Str.ofString "TypeRegistry", Str.ofString "CodecOptions", Str.ofString "DEFAULT_CODEC_OPTIONS", Str.ofString "DatetimeMS", Str.ofString "DBRef", Str.ofString "Decimal", Str.ofString "_PACK_64", Str.ofString "_UNPACK_64", Str.ofString "_EXPONENT_MASK", Str.ofString "_EXPONENT_BIAS", Str.ofString "_MAX_DIGITS", Str.ofString "_INF", Str.ofString "_NAN", Str.ofString "_SNAN", Str.ofString "_SIGN", Str.ofString "_NINF", Str.ofString "_PINF", Str.ofString "_NNAN", Str.ofString "_PNAN", Str.ofString "_NSNAN", Str.ofString "_PSNAN", Str.ofString "_check_fits", Str.ofString "_decimal_to_128", Str.ofString "Decimal128", Str.ofString "InvalidStringData", Str.ofString "InvalidDocument", Str.ofString "InvalidId", Str.ofString "Int64", Str.ofString "MaxKey", Str.ofString "MinKey", Str.ofString "_HEX_DIGITS", Str.ofString "_from_hex", Str.ofString "_raise_invalid_id", Str.ofString "ObjectId", Str.ofString "_IGNORECASE", Str.ofString "_LOCALE", Str.ofString "_MULTILINE", Str.ofString "_DOTALL", Str.ofString "_UNICODE", Str.ofString "_VERBOSE", Str.ofString "str_flags_to_int", Str.ofString "Regex", Str.ofString "UPPERBOUND", Str.ofString "Timestamp", Str.ofString "BSONSTR", Str.ofString "BSONOBJ", Str.ofString "BSONARR", Str.ofString "BSONBIN", Str.ofString "BSONUND", Str.ofString "BSONOID", Str.ofString "BSONBOO", Str.ofString "BSONDAT", Str.ofString "BSONNUL", Str.ofString "BSONRGX", Str.ofString "BSONREF", Str.ofString "BSONCOD", Str.ofString "BSONSYM", Str.ofString "BSONCWS", Str.ofString "BSONINT", Str.ofString "BSONTIM", Str.ofString "BSONLON", Str.ofString "BSONDEC", Str.ofString "BSONMIN", Str.ofString "BSONMAX", Str.ofString "_UNPACK_LONG_FROM", Str.ofString "_UNPACK_TIMESTAMP_FROM", Str.ofString "_get_oid", Str.ofString "_get_boolean", Str.ofString "_get_date", Str.ofString "_get_code_w_scope", Str.ofString "_get_regex", Str.ofString "_get_ref", Str.ofString "_get_timestamp", Str.ofString "_get_int64", Str.ofString "_get_decimal128", Str.ofString "_ELEMENT_GETTER", Str.ofString "_PACK_LENGTH_SUBTYPE", Str.ofString "_PACK_LONG", Str.ofString "_PACK_TIMESTAMP", Str.ofString "_make_c_string_check", Str.ofString "_encode_dbref", Str.ofString "_encode_binary", Str.ofString "_encode_uuid", Str.ofString "_encode_objectid", Str.ofString "_encode_bool", Str.ofString "_encode_datetime_ms", Str.ofString "_encode_none", Str.ofString "_encode_regex", Str.ofString "_encode_timestamp", Str.ofString "_encode_long", Str.ofString "_encode_decimal128", Str.ofString "_encode_minkey", Str.ofString "_encode_maxkey", Str.ofString "_name_value_to_bson", Str.ofString "_dict_to_bson", Str.ofString "encode", Str.ofString "decode", Str.ofString "_LAW_UNITS", Str.ofString "_LAW_RAW", Str.ofString "_LAW_COUNTS"]
abbrev row0 : OpenRow := OpenLaw.row PySem.Challenge.rw_fw0046_01

theorem law_has : (defOf q0 row0.name).isSome = true := by decide +kernel
def dLaw : DefRec × List (Str × Expr) := (defOf q0 row0.name).get law_has
theorem hdef0 : defOf q0 row0.name = some (dLaw.1, dLaw.2) := (Option.some_get law_has).symm
theorem hp0 : row0.prog.theDef row0.name = some (dLaw.1.params, dLaw.1.body, dLaw.1.scope) := by kernel_rfl
theorem hk0 : kwWritten? dLaw.1.params.kwonlyargs dLaw.1.params.kw_defaults = some dLaw.2 := by kernel_rfl
theorem hok0 : (chainsOk q0 && opensWell row0.prog && (frees row0.toRowW && row0.within.isEmpty)) = true := by decide +kernel
/-- the head of the kit, held to the smaller part of the text -/
theorem PySem.W.holds_open {q : Program} {loose : List Str} {Xt : Shared → Bool} {XP : (Str → Option Value) → Heap → Prop} {α : Type} {Yf : Shared → α} {Ya : World → α} {YP : World → Heap → Prop} {N : Nat}
    (left : LeftO row0.prog q0 loose0 (fun s => recOk (RowW.records row0.toRowW) s) Yf Ya N) (hY : ∀ w s, Yf s = Ya w → YP w s.heap) (hYk : ∀ w h h', YP w h → (∀ b o, h.get? b = some o → h'.get? b = some o) → YP w h')
    (_ : ∀ s, Xt s = true → XP (s.heap.nsMap mainGlobals) s.heap) (_ : ∀ mg h h', XP mg h → (∀ b o, h.get? b = some o → h'.get? b = some o) → XP mg h')
    (_ : 0 = 0) (_ : 0 = 0) (_ : 0 = 0) (_ : ∀ s, Xt s = true → RecFacts (RowW.records row0.toRowW) s.heap) (_ : 0 = 0)
    (k1 : row0.wellSaid = true) (_ : 0 = 0) (hb : row0.prog.bare) (hw : row0.toRowW.promised)
    (call : WalkO q0 loose0 (fun _ _ => True) YP row0.toRowW dLaw.1 dLaw.2 fun f vs => PySem.call f vs) : row0.Holds :=
  _root_.PySem.W.holds_open (q := q0) (loose := loose0) (Xt := fun s => recOk (RowW.records row0.toRowW) s) (XP := fun _ _ => True) left hY hYk (fun _ _ => trivial) (fun _ _ _ _ _ => trivial) hdef0 hp0 hk0 (fun s e => recFacts_of e) rfl k1 hok0 hb hw call
end Mine
end

section
open PySem PySem.W PySem.Calls PyProof.Rows
namespace Mine
def sg (l : List Nat) : Str := ⟨⟨l⟩⟩
def ent (P : Params) (k : Str) (t : Tok) (v : Value) : DictEntry := ⟨PyData.keyHash P k, .str k t, v⟩
def clsOf (name : Str) (bases mro : List Value) (ns : Addr) (q : Str) (subs : List Value) : ClassData := { name := name, bases := bases, mro := mro, ns := ns, qualname := q, subclasses := subs }
/-- a def's own parts, out of the given text -/
def partsF : Stmt → Option (Arguments × List Stmt × Scope)
  | .FunctionDef _ a b _ _ _ sc _ _ _ => some (a, b, sc)
  | _ => none
def prT (i : Nat) : Option (Arguments × List Stmt × Scope) := PySem.Challenge.pw_fw0046_01.main.body[i]?.bind partsF
def prM (i j : Nat) : Option (Arguments × List Stmt × Scope) := match PySem.Challenge.pw_fw0046_01.main.body[i]? with
  | some (.ClassDef _ _ _ b _ _ _ _ _ _ _) => b[j]?.bind partsF
  | _ => none
def pr171 : Arguments × List Stmt × Scope := (prM 15 1).get (by decide +kernel)
def pr178 : Arguments × List Stmt × Scope := (prM 15 2).get (by decide +kernel)
def pr186 : Arguments × List Stmt × Scope := (prM 15 3).get (by decide +kernel)
def pr1450 : Arguments × List Stmt × Scope := (prT 152).get (by decide +kernel)
def pr1465 : Arguments × List Stmt × Scope := (prT 154).get (by decide +kernel)
def pr1473 : Arguments × List Stmt × Scope := (prT 155).get (by decide +kernel)
def pr1481 : Arguments × List Stmt × Scope := (prT 156).get (by decide +kernel)
def ob1 (P : Params) : Obj := ⟨.type "dict", none, .dict ⟨[ent P (sg [98, 117, 105, 108, 116, 105, 110, 115]) 162 (.ref 4), ent P (sg [95, 95, 109, 97, 105, 110, 95, 95]) 163 (.ref 5)]⟩ 2, ⟨[]⟩⟩
def ob2 (P : Params) : Obj := ⟨.none, none, .dict ⟨[ent P (sg [116, 121, 112, 101, 46, 95, 95, 115, 117, 98, 99, 108, 97, 115, 115, 101, 115, 95, 95, 46, 69, 120, 99, 101, 112, 116, 105, 111, 110, 46, 48]) 1008 (.int 563 0), ent P (sg [116, 121, 112, 101, 46, 95, 95, 115, 117, 98, 99, 108, 97, 115, 115, 101, 115, 95, 95, 46, 69, 120, 99, 101, 112, 116, 105, 111, 110, 46, 110]) 1009 (.int 1 0)]⟩ 2, ⟨[]⟩⟩
def ob3 (P : Params) : Obj := ⟨.type "dict", none, .dict ⟨[ent P (sg [95, 95, 110, 97, 109, 101, 95, 95]) 165 (.str (sg [108, 97, 119, 95, 102, 119, 48, 48, 52, 54, 95, 48, 49]) 2418), ent P (sg [95, 95, 100, 111, 99, 95, 95]) 166 (.none), ent P (sg [95, 95, 112, 97, 99, 107, 97, 103, 101, 95, 95]) 167 (.none), ent P (sg [95, 95, 108, 111, 97, 100, 101, 114, 95, 95]) 168 (.builtin "__main__.__loader__#opaque"), ent P (sg [95, 95, 115, 112, 101, 99, 95, 95]) 169 (.none), ent P (sg [95, 95, 97, 110, 110, 111, 116, 97, 116, 105, 111, 110, 115, 95, 95]) 170 (.ref 6), ent P (sg [95, 95, 98, 117, 105, 108, 116, 105, 110, 115, 95, 95]) 171 (.ref 4), ent P (sg [95, 95, 102, 105, 108, 101, 95, 95]) 173 (.str (sg [47, 99, 108, 97, 105, 109, 47, 99, 117, 116, 46, 112, 121]) 172), ent P (sg [95, 95, 99, 97, 99, 104, 101, 100, 95, 95]) 174 (.none), ent P (sg [95, 119, 97, 108, 108]) 193 (.ref 21), ent P (sg [85, 85, 73, 68]) 236 (.ref 46), ent P (sg [95, 116, 117, 114, 110, 101, 100]) 243 (.ref 57), ent P (sg [66, 73, 78, 65, 82, 89, 95, 83, 85, 66, 84, 89, 80, 69]) 247 (.int 0 246), ent P (sg [79, 76, 68, 95, 85, 85, 73, 68, 95, 83, 85, 66, 84, 89, 80, 69]) 249 (.int 3 248), ent P (sg [85, 85, 73, 68, 95, 83, 85, 66, 84, 89, 80, 69]) 251 (.int 4 250), ent P (sg [85, 117, 105, 100, 82, 101, 112, 114, 101, 115, 101, 110, 116, 97, 116, 105, 111, 110]) 284 (.ref 67), ent P (sg [83, 84, 65, 78, 68, 65, 82, 68]) 286 (.int 4 250), ent P (sg [65, 76, 76, 95, 85, 85, 73, 68, 95, 83, 85, 66, 84, 89, 80, 69, 83]) 287 (.ref 72), ent P (sg [65, 76, 76, 95, 85, 85, 73, 68, 95, 82, 69, 80, 82, 69, 83, 69, 78, 84, 65, 84, 73, 79, 78, 83]) 293 (.ref 73), ent P (sg [85, 85, 73, 68, 95, 82, 69, 80, 82, 69, 83, 69, 78, 84, 65, 84, 73, 79, 78, 95, 78, 65, 77, 69, 83]) 309 (.ref 74), ent P (sg [66, 105, 110, 97, 114, 121]) 431 (.ref 152), ent P (sg [67, 111, 100, 101]) 492 (.ref 196), ent P (sg [84, 121, 112, 101, 82, 101, 103, 105, 115, 116, 114, 121]) 541 (.ref 234), ent P (sg [67, 111, 100, 101, 99, 79, 112, 116, 105, 111, 110, 115]) 576 (.ref 256), ent P (sg [68, 69, 70, 65, 85, 76, 84, 95, 67, 79, 68, 69, 67, 95, 79, 80, 84, 73, 79, 78, 83]) 596 (.ref 262), ent P (sg [68, 97, 116, 101, 116, 105, 109, 101, 77, 83]) 685 (.ref 334), ent P (sg [68, 66, 82, 101, 102]) 768 (.ref 394), ent P (sg [68, 101, 99, 105, 109, 97, 108]) 845 (.ref 457), ent P (sg [95, 80, 65, 67, 75, 95, 54, 52]) 854 (.ref 468), ent P (sg [95, 85, 78, 80, 65, 67, 75, 95, 54, 52]) 861 (.ref 475), ent P (sg [95, 69, 88, 80, 79, 78, 69, 78, 84, 95, 77, 65, 83, 75]) 865 (.int 6917529027641081856 864), ent P (sg [95, 69, 88, 80, 79, 78, 69, 78, 84, 95, 66, 73, 65, 83]) 867 (.int 6176 866), ent P (sg [95, 77, 65, 88, 95, 68, 73, 71, 73, 84, 83]) 869 (.int 34 868), ent P (sg [95, 73, 78, 70]) 871 (.int 8646911284551352320 870), ent P (sg [95, 78, 65, 78]) 873 (.int 8935141660703064064 872), ent P (sg [95, 83, 78, 65, 78]) 875 (.int 9079256848778919936 874), ent P (sg [95, 83, 73, 71, 78]) 877 (.int 9223372036854775808 876), ent P (sg [95, 78, 73, 78, 70]) 880 (.ref 476), ent P (sg [95, 80, 73, 78, 70]) 882 (.ref 477), ent P (sg [95, 78, 78, 65, 78]) 885 (.ref 478), ent P (sg [95, 80, 78, 65, 78]) 887 (.ref 479), ent P (sg [95, 78, 83, 78, 65, 78]) 890 (.ref 480), ent P (sg [95, 80, 83, 78, 65, 78]) 892 (.ref 481), ent P (sg [95, 99, 104, 101, 99, 107, 95, 102, 105, 116, 115]) 899 (.ref 488), ent P (sg [95, 100, 101, 99, 105, 109, 97, 108, 95, 116, 111, 95, 49, 50, 56]) 905 (.ref 493), ent P (sg [68, 101, 99, 105, 109, 97, 108, 49, 50, 56]) 989 (.ref 549), ent P (sg [66, 83, 79, 78, 69, 114, 114, 111, 114]) 1011 (.ref 563), ent P (sg [73, 110, 118, 97, 108, 105, 100, 66, 83, 79, 78]) 1027 (.ref 576), ent P (sg [73, 110, 118, 97, 108, 105, 100, 83, 116, 114, 105, 110, 103, 68, 97, 116, 97]) 1043 (.ref 588), ent P (sg [73, 110, 118, 97, 108, 105, 100, 68, 111, 99, 117, 109, 101, 110, 116]) 1079 (.ref 618), ent P (sg [73, 110, 118, 97, 108, 105, 100, 73, 100]) 1095 (.ref 630), ent P (sg [73, 110, 116, 54, 52]) 1137 (.ref 656), ent P (sg [77, 97, 120, 75, 101, 121]) 1217 (.ref 719), ent P (sg [77, 105, 110, 75, 101, 121]) 1297 (.ref 782), ent P (sg [95, 72, 69, 88, 95, 68, 73, 71, 73, 84, 83]) 1301 (.str (sg [48, 49, 50, 51, 52, 53, 54, 55, 56, 57, 97, 98, 99, 100, 101, 102, 65, 66, 67, 68, 69, 70]) 1300), ent P (sg [95, 102, 114, 111, 109, 95, 104, 101, 120]) 1307 (.ref 791), ent P (sg [95, 114, 97, 105, 115, 101, 95, 105, 110, 118, 97, 108, 105, 100, 95, 105, 100]) 1314 (.ref 798), ent P (sg [79, 98, 106, 101, 99, 116, 73, 100]) 1444 (.ref 898), ent P (sg [95, 73, 71, 78, 79, 82, 69, 67, 65, 83, 69]) 1448 (.int 2 1447), ent P (sg [95, 76, 79, 67, 65, 76, 69]) 1450 (.int 4 1449), ent P (sg [95, 77, 85, 76, 84, 73, 76, 73, 78, 69]) 1452 (.int 8 1451), ent P (sg [95, 68, 79, 84, 65, 76, 76]) 1454 (.int 16 1453), ent P (sg [95, 85, 78, 73, 67, 79, 68, 69]) 1456 (.int 32 1455), ent P (sg [95, 86, 69, 82, 66, 79, 83, 69]) 1458 (.int 64 1457), ent P (sg [115, 116, 114, 95, 102, 108, 97, 103, 115, 95, 116, 111, 95, 105, 110, 116]) 1466 (.ref 909), ent P (sg [82, 101, 103, 101, 120]) 1517 (.ref 941), ent P (sg [85, 80, 80, 69, 82, 66, 79, 85, 78, 68]) 1521 (.int 4294967296 1520), ent P (sg [84, 105, 109, 101, 115, 116, 97, 109, 112]) 1619 (.ref 1020), ent P (sg [66, 83, 79, 78, 83, 84, 82]) 1623 (.bytes ⟨[2]⟩ 1622), ent P (sg [66, 83, 79, 78, 79, 66, 74]) 1625 (.bytes ⟨[3]⟩ 1624), ent P (sg [66, 83, 79, 78, 65, 82, 82]) 1627 (.bytes ⟨[4]⟩ 1626), ent P (sg [66, 83, 79, 78, 66, 73, 78]) 1629 (.bytes ⟨[5]⟩ 1628), ent P (sg [66, 83, 79, 78, 85, 78, 68]) 1631 (.bytes ⟨[6]⟩ 1630), ent P (sg [66, 83, 79, 78, 79, 73, 68]) 1633 (.bytes ⟨[7]⟩ 1632), ent P (sg [66, 83, 79, 78, 66, 79, 79]) 1635 (.bytes ⟨[8]⟩ 1634), ent P (sg [66, 83, 79, 78, 68, 65, 84]) 1637 (.bytes ⟨[9]⟩ 1636), ent P (sg [66, 83, 79, 78, 78, 85, 76]) 1639 (.bytes ⟨[10]⟩ 1638), ent P (sg [66, 83, 79, 78, 82, 71, 88]) 1641 (.bytes ⟨[11]⟩ 1640), ent P (sg [66, 83, 79, 78, 82, 69, 70]) 1643 (.bytes ⟨[12]⟩ 1642), ent P (sg [66, 83, 79, 78, 67, 79, 68]) 1645 (.bytes ⟨[13]⟩ 1644), ent P (sg [66, 83, 79, 78, 83, 89, 77]) 1647 (.bytes ⟨[14]⟩ 1646), ent P (sg [66, 83, 79, 78, 67, 87, 83]) 1649 (.bytes ⟨[15]⟩ 1648), ent P (sg [66, 83, 79, 78, 73, 78, 84]) 1651 (.bytes ⟨[16]⟩ 1650), ent P (sg [66, 83, 79, 78, 84, 73, 77]) 1653 (.bytes ⟨[17]⟩ 1652), ent P (sg [66, 83, 79, 78, 76, 79, 78]) 1655 (.bytes ⟨[18]⟩ 1654), ent P (sg [66, 83, 79, 78, 68, 69, 67]) 1657 (.bytes ⟨[19]⟩ 1656), ent P (sg [66, 83, 79, 78, 77, 73, 78]) 1659 (.bytes ⟨[255]⟩ 1658), ent P (sg [66, 83, 79, 78, 77, 65, 88]) 1661 (.bytes ⟨[127]⟩ 1660), ent P (sg [95, 117, 110, 112, 97, 99, 107]) 1671 (.ref 1031), ent P (sg [95, 85, 78, 80, 65, 67, 75, 95, 73, 78, 84, 95, 70, 82, 79, 77]) 1679 (.ref 1038), ent P (sg [95, 85, 78, 80, 65, 67, 75, 95, 76, 69, 78, 71, 84, 72, 95, 83, 85, 66, 84, 89, 80, 69, 95, 70, 82, 79, 77]) 1687 (.ref 1045), ent P (sg [95, 85, 78, 80, 65, 67, 75, 95, 76, 79, 78, 71, 95, 70, 82, 79, 77]) 1695 (.ref 1052), ent P (sg [95, 85, 78, 80, 65, 67, 75, 95, 84, 73, 77, 69, 83, 84, 65, 77, 80, 95, 70, 82, 79, 77]) 1703 (.ref 1059), ent P (sg [95, 117, 116, 102, 95, 56, 95, 100, 101, 99, 111, 100, 101]) 1712 (.ref 1066), ent P (sg [95, 117, 116, 102, 95, 56, 95, 101, 110, 99, 111, 100, 101]) 1719 (.ref 1073), ent P (sg [95, 105, 110, 100, 101, 120, 95, 110, 117, 108]) 1728 (.ref 1080), ent P (sg [103, 101, 116, 95, 100, 97, 116, 97, 95, 97, 110, 100, 95, 118, 105, 101, 119]) 1735 (.ref 1087), ent P (sg [95, 114, 97, 105, 115, 101, 95, 117, 110, 107, 110, 111, 119, 110, 95, 116, 121, 112, 101]) 1743 (.ref 1094), ent P (sg [95, 103, 101, 116, 95, 105, 110, 116]) 1755 (.ref 1101), ent P (sg [95, 103, 101, 116, 95, 99, 95, 115, 116, 114, 105, 110, 103]) 1766 (.ref 1108), ent P (sg [95, 103, 101, 116, 95, 115, 116, 114, 105, 110, 103]) 1780 (.ref 1115), ent P (sg [95, 103, 101, 116, 95, 111, 98, 106, 101, 99, 116, 95, 115, 105, 122, 101]) 1792 (.ref 1122), ent P (sg [95, 103, 101, 116, 95, 111, 98, 106, 101, 99, 116]) 1807 (.ref 1129), ent P (sg [95, 103, 101, 116, 95, 97, 114, 114, 97, 121]) 1825 (.ref 1136), ent P (sg [95, 103, 101, 116, 95, 98, 105, 110, 97, 114, 121]) 1844 (.ref 1143), ent P (sg [95, 103, 101, 116, 95, 111, 105, 100]) 1857 (.ref 1150), ent P (sg [95, 103, 101, 116, 95, 98, 111, 111, 108, 101, 97, 110]) 1871 (.ref 1157), ent P (sg [95, 103, 101, 116, 95, 100, 97, 116, 101]) 1883 (.ref 1164), ent P (sg [95, 103, 101, 116, 95, 99, 111, 100, 101]) 1896 (.ref 1171), ent P (sg [95, 103, 101, 116, 95, 99, 111, 100, 101, 95, 119, 95, 115, 99, 111, 112, 101]) 1911 (.ref 1178), ent P (sg [95, 103, 101, 116, 95, 114, 101, 103, 101, 120]) 1926 (.ref 1185), ent P (sg [95, 103, 101, 116, 95, 114, 101, 102]) 1940 (.ref 1192), ent P (sg [95, 103, 101, 116, 95, 116, 105, 109, 101, 115, 116, 97, 109, 112]) 1954 (.ref 1199), ent P (sg [95, 103, 101, 116, 95, 105, 110, 116, 54, 52]) 1966 (.ref 1206), ent P (sg [95, 103, 101, 116, 95, 100, 101, 99, 105, 109, 97, 108, 49, 50, 56]) 1979 (.ref 1213), ent P (sg [95, 69, 76, 69, 77, 69, 78, 84, 95, 71, 69, 84, 84, 69, 82]) 2064 (.ref 1214), ent P (sg [95, 101, 108, 101, 109, 101, 110, 116, 95, 116, 111, 95, 100, 105, 99, 116]) 2078 (.ref 1250), ent P (sg [95, 101, 108, 101, 109, 101, 110, 116, 115, 95, 116, 111, 95, 100, 105, 99, 116]) 2093 (.ref 1257), ent P (sg [95, 98, 115, 111, 110, 95, 116, 111, 95, 100, 105, 99, 116]) 2105 (.ref 1264), ent P (sg [95, 80, 65, 67, 75, 95, 73, 78, 84]) 2112 (.ref 1271), ent P (sg [95, 80, 65, 67, 75, 95, 76, 69, 78, 71, 84, 72, 95, 83, 85, 66, 84, 89, 80, 69]) 2120 (.ref 1278), ent P (sg [95, 80, 65, 67, 75, 95, 76, 79, 78, 71]) 2127 (.ref 1285), ent P (sg [95, 80, 65, 67, 75, 95, 84, 73, 77, 69, 83, 84, 65, 77, 80]) 2135 (.ref 1292), ent P (sg [95, 109, 97, 107, 101, 95, 99, 95, 115, 116, 114, 105, 110, 103, 95, 99, 104, 101, 99, 107]) 2142 (.ref 1299), ent P (sg [95, 109, 97, 107, 101, 95, 99, 95, 115, 116, 114, 105, 110, 103]) 2149 (.ref 1306), ent P (sg [95, 109, 97, 107, 101, 95, 110, 97, 109, 101]) 2156 (.ref 1313), ent P (sg [95, 101, 110, 99, 111, 100, 101, 95, 98, 121, 116, 101, 115]) 2166 (.ref 1320), ent P (sg [95, 101, 110, 99, 111, 100, 101, 95, 109, 97, 112, 112, 105, 110, 103]) 2172 (.ref 1325), ent P (sg [95, 101, 110, 99, 111, 100, 101, 95, 100, 98, 114, 101, 102]) 2186 (.ref 1332), ent P (sg [95, 101, 110, 99, 111, 100, 101, 95, 108, 105, 115, 116]) 2192 (.ref 1337), ent P (sg [95, 101, 110, 99, 111, 100, 101, 95, 116, 101, 120, 116]) 2203 (.ref 1344), ent P (sg [95, 101, 110, 99, 111, 100, 101, 95, 98, 105, 110, 97, 114, 121]) 2214 (.ref 1351), ent P (sg [95, 101, 110, 99, 111, 100, 101, 95, 117, 117, 105, 100]) 2226 (.ref 1358), ent P (sg [95, 101, 110, 99, 111, 100, 101, 95, 111, 98, 106, 101, 99, 116, 105, 100]) 2236 (.ref 1365), ent P (sg [95, 101, 110, 99, 111, 100, 101, 95, 98, 111, 111, 108]) 2246 (.ref 1372), ent P (sg [95, 101, 110, 99, 111, 100, 101, 95, 100, 97, 116, 101, 116, 105, 109, 101, 95, 109, 115]) 2257 (.ref 1379), ent P (sg [95, 101, 110, 99, 111, 100, 101, 95, 110, 111, 110, 101]) 2267 (.ref 1386), ent P (sg [95, 101, 110, 99, 111, 100, 101, 95, 114, 101, 103, 101, 120]) 2279 (.ref 1393), ent P (sg [95, 101, 110, 99, 111, 100, 101, 95, 99, 111, 100, 101]) 2293 (.ref 1400), ent P (sg [95, 101, 110, 99, 111, 100, 101, 95, 105, 110, 116]) 2303 (.ref 1407), ent P (sg [95, 101, 110, 99, 111, 100, 101, 95, 116, 105, 109, 101, 115, 116, 97, 109, 112]) 2313 (.ref 1414), ent P (sg [95, 101, 110, 99, 111, 100, 101, 95, 108, 111, 110, 103]) 2323 (.ref 1421), ent P (sg [95, 101, 110, 99, 111, 100, 101, 95, 100, 101, 99, 105, 109, 97, 108, 49, 50, 56]) 2333 (.ref 1428), ent P (sg [95, 101, 110, 99, 111, 100, 101, 95, 109, 105, 110, 107, 101, 121]) 2343 (.ref 1435), ent P (sg [95, 101, 110, 99, 111, 100, 101, 95, 109, 97, 120, 107, 101, 121]) 2353 (.ref 1442), ent P (sg [95, 110, 97, 109, 101, 95, 118, 97, 108, 117, 101, 95, 116, 111, 95, 98, 115, 111, 110]) 2366 (.ref 1450), ent P (sg [95, 101, 108, 101, 109, 101, 110, 116, 95, 116, 111, 95, 98, 115, 111, 110]) 2377 (.ref 1457), ent P (sg [95, 100, 105, 99, 116, 95, 116, 111, 95, 98, 115, 111, 110]) 2392 (.ref 1465), ent P (sg [101, 110, 99, 111, 100, 101]) 2401 (.ref 1473), ent P (sg [100, 101, 99, 111, 100, 101]) 2410 (.ref 1481), ent P (sg [105, 115, 95, 118, 97, 108, 105, 100]) 2417 (.ref 1488), ent P (sg [95, 76, 65, 87, 95, 85, 78, 73, 84, 83]) 2424 (.ref 1489), ent P (sg [95, 76, 65, 87, 95, 82, 65, 87]) 2429 (.ref 1490), ent P (sg [95, 76, 65, 87, 95, 67, 79, 85, 78, 84, 83]) 2437 (.ref 1491), ent P (sg [95, 108, 97, 119, 95, 100, 105, 103, 105, 116, 115]) 2444 (.ref 1498), ent P (sg [95, 108, 97, 119, 95, 102, 111, 117, 114]) 2451 (.ref 1505), ent P (sg [95, 108, 97, 119, 95, 116, 101, 120, 116]) 2460 (.ref 1512), ent P (sg [95, 108, 97, 119, 95, 98, 111, 120]) 2466 (.ref 1517), ent P (sg [95, 108, 97, 119, 95, 108, 105, 115, 116]) 2472 (.ref 1522), ent P (sg [95, 108, 97, 119, 95, 109, 97, 107, 101]) 2478 (.ref 1527), ent P (sg [95, 108, 97, 119, 95, 118, 97, 108, 117, 101]) 2484 (.ref 1532), ent P (sg [95, 108, 97, 119, 95, 108, 97, 121]) 2500 (.ref 1539), ent P (sg [95, 108, 97, 119, 95, 108, 105, 107, 101]) 2506 (.ref 1544), ent P (sg [108, 97, 119]) 2512 (.ref 1549)]⟩ 164, ⟨[]⟩⟩
def ob46 : Obj := ⟨.type "type", none, .cls (clsOf (sg [85, 85, 73, 68]) [.type "object"] [.ref 46, .type "object"] 45 (sg [85, 85, 73, 68]) []), ⟨[none, none, some (.str (sg [85, 85, 73, 68]) 196), some (.str (sg [85, 85, 73, 68]) 204), some (.builtin "object.__new__"), some (.bool true)]⟩⟩
def ob72 : Obj := ⟨.type "tuple", none, .seq ⟨[.int 3 248, .int 4 250]⟩ 0, ⟨[]⟩⟩
def ob152 : Obj := ⟨.type "type", none, .cls (clsOf (sg [66, 105, 110, 97, 114, 121]) [.type "object"] [.ref 152, .type "object"] 151 (sg [66, 105, 110, 97, 114, 121]) []), ⟨[none, none, some (.str (sg [66, 105, 110, 97, 114, 121]) 310), some (.str (sg [66, 105, 110, 97, 114, 121]) 318), some (.builtin "object.__new__"), some (.bool true)]⟩⟩
def ob164 : Obj := ⟨.type "tuple", none, .seq ⟨[.none]⟩ 0, ⟨[]⟩⟩
def ob170 : Obj := ⟨.type "code", none, .fields ⟨[.str (sg [95, 95, 105, 110, 105, 116, 95, 95]) 448, .str (sg [67, 111, 100, 101, 46, 95, 95, 105, 110, 105, 116, 95, 95]) 449, .str (sg [47, 99, 108, 97, 105, 109, 47, 99, 117, 116, 46, 112, 121]) 450, .int 112 0, .int 3 0, .int 0 0, .int 0 0, .int 11 0, .ref 165, .bool true, .int 181 0, .ref 166, .none, .ref 167, .ref 168, .ref 169, .int 455 0, .int 112 0, .str (sg [47, 99, 108, 97, 105, 109, 47, 99, 117, 116, 46, 112, 121]) 456]⟩, ⟨[]⟩⟩
def ob171 : Obj := ⟨.type "function", none, .func (fnOf (sg [95, 95, 105, 110, 105, 116, 95, 95]) (sg [67, 111, 100, 101, 46, 95, 95, 105, 110, 105, 116, 95, 95]) (pr171).1 (pr171).2.1 (pr171).2.2 (.ref 164) (.none) (.none) (.str (sg [98, 115, 111, 110, 46, 99, 111, 100, 101]) 432) none (.ref 170) (.none)), ⟨[]⟩⟩
def ob177 : Obj := ⟨.type "code", none, .fields ⟨[.str (sg [115, 99, 111, 112, 101]) 458, .str (sg [67, 111, 100, 101, 46, 115, 99, 111, 112, 101]) 459, .str (sg [47, 99, 108, 97, 105, 109, 47, 99, 117, 116, 46, 112, 121]) 460, .int 133 0, .int 1 0, .int 0 0, .int 0 0, .int 3 0, .ref 172, .bool true, .int 181 0, .ref 173, .none, .ref 174, .ref 175, .ref 176, .int 462 0, .int 133 0, .str (sg [47, 99, 108, 97, 105, 109, 47, 99, 117, 116, 46, 112, 121]) 463]⟩, ⟨[]⟩⟩
def ob178 : Obj := ⟨.type "function", none, .func (fnOf (sg [115, 99, 111, 112, 101]) (sg [67, 111, 100, 101, 46, 115, 99, 111, 112, 101]) (pr178).1 (pr178).2.1 (pr178).2.2 (.none) (.none) (.none) (.str (sg [98, 115, 111, 110, 46, 99, 111, 100, 101]) 432) none (.ref 177) (.none)), ⟨[]⟩⟩
def ob179 : Obj := ⟨.type "property", none, .fields ⟨[.ref 178, .none, .none, .none, .str (sg [115, 99, 111, 112, 101]) 465, .bool false]⟩, ⟨[]⟩⟩
def ob185 : Obj := ⟨.type "code", none, .fields ⟨[.str (sg [95, 95, 101, 113, 95, 95]) 466, .str (sg [67, 111, 100, 101, 46, 95, 95, 101, 113, 95, 95]) 467, .str (sg [47, 99, 108, 97, 105, 109, 47, 99, 117, 116, 46, 112, 121]) 468, .int 137 0, .int 2 0, .int 0 0, .int 0 0, .int 3 0, .ref 180, .bool true, .int 181 0, .ref 181, .none, .ref 182, .ref 183, .ref 184, .int 471 0, .int 137 0, .str (sg [47, 99, 108, 97, 105, 109, 47, 99, 117, 116, 46, 112, 121]) 472]⟩, ⟨[]⟩⟩
def ob186 : Obj := ⟨.type "function", none, .func (fnOf (sg [95, 95, 101, 113, 95, 95]) (sg [67, 111, 100, 101, 46, 95, 95, 101, 113, 95, 95]) (pr186).1 (pr186).2.1 (pr186).2.2 (.none) (.none) (.none) (.str (sg [98, 115, 111, 110, 46, 99, 111, 100, 101]) 432) none (.ref 185) (.none)), ⟨[]⟩⟩
def ob195 (P : Params) : Obj := ⟨.type "dict", none, .dict ⟨[ent P (sg [95, 95, 109, 111, 100, 117, 108, 101, 95, 95]) 441 (.str (sg [98, 115, 111, 110, 46, 99, 111, 100, 101]) 432), ent P (sg [95, 95, 102, 105, 114, 115, 116, 108, 105, 110, 101, 110, 111, 95, 95]) 445 (.int 109 444), ent P (sg [95, 116, 121, 112, 101, 95, 109, 97, 114, 107, 101, 114]) 447 (.int 13 446), ent P (sg [95, 95, 105, 110, 105, 116, 95, 95]) 457 (.ref 171), ent P (sg [115, 99, 111, 112, 101]) 465 (.ref 179), ent P (sg [95, 95, 101, 113, 95, 95]) 473 (.ref 186), ent P (sg [95, 95, 110, 101, 95, 95]) 481 (.ref 193), ent P (sg [95, 95, 115, 116, 97, 116, 105, 99, 95, 97, 116, 116, 114, 105, 98, 117, 116, 101, 115, 95, 95]) 484 (.ref 194), ent P (sg [95, 95, 100, 105, 99, 116, 95, 95]) 486 (.ref 197), ent P (sg [95, 95, 119, 101, 97, 107, 114, 101, 102, 95, 95]) 488 (.ref 198), ent P (sg [95, 95, 100, 111, 99, 95, 95]) 489 (.none), ent P (sg [95, 95, 104, 97, 115, 104, 95, 95]) 490 (.none)]⟩ 5, ⟨[]⟩⟩
def ob196 : Obj := ⟨.type "type", none, .cls (clsOf (sg [67, 111, 100, 101]) [.type "object"] [.ref 196, .type "object"] 195 (sg [67, 111, 100, 101]) []), ⟨[none, none, some (.str (sg [67, 111, 100, 101]) 434), some (.str (sg [67, 111, 100, 101]) 442), some (.builtin "object.__new__"), some (.bool true)]⟩⟩
def ob255 (P : Params) : Obj := ⟨.type "dict", none, .dict ⟨[ent P (sg [95, 95, 109, 111, 100, 117, 108, 101, 95, 95]) 549 (.str (sg [98, 115, 111, 110, 46, 99, 111, 100, 101, 99, 95, 111, 112, 116, 105, 111, 110, 115]) 493), ent P (sg [95, 95, 102, 105, 114, 115, 116, 108, 105, 110, 101, 110, 111, 95, 95]) 553 (.int 161 552), ent P (sg [95, 95, 105, 110, 105, 116, 95, 95]) 565 (.ref 253), ent P (sg [95, 95, 115, 116, 97, 116, 105, 99, 95, 97, 116, 116, 114, 105, 98, 117, 116, 101, 115, 95, 95]) 569 (.ref 254), ent P (sg [95, 95, 100, 105, 99, 116, 95, 95]) 571 (.ref 257), ent P (sg [95, 95, 119, 101, 97, 107, 114, 101, 102, 95, 95]) 573 (.ref 258), ent P (sg [95, 95, 100, 111, 99, 95, 95]) 574 (.none)]⟩ 4, ⟨[]⟩⟩
def ob256 : Obj := ⟨.type "type", none, .cls (clsOf (sg [67, 111, 100, 101, 99, 79, 112, 116, 105, 111, 110, 115]) [.type "object"] [.ref 256, .type "object"] 255 (sg [67, 111, 100, 101, 99, 79, 112, 116, 105, 111, 110, 115]) []), ⟨[none, none, some (.str (sg [67, 111, 100, 101, 99, 79, 112, 116, 105, 111, 110, 115]) 542), some (.str (sg [67, 111, 100, 101, 99, 79, 112, 116, 105, 111, 110, 115]) 550), some (.builtin "object.__new__"), some (.bool true)]⟩⟩
def ob261 (P : Params) : Obj := ⟨.type "dict", none, .dict ⟨[ent P (sg [117, 117, 105, 100, 95, 114, 101, 112, 114, 101, 115, 101, 110, 116, 97, 116, 105, 111, 110]) 591 (.int 0 264), ent P (sg [117, 110, 105, 99, 111, 100, 101, 95, 100, 101, 99, 111, 100, 101, 95, 101, 114, 114, 111, 114, 95, 104, 97, 110, 100, 108, 101, 114]) 593 (.str (sg [115, 116, 114, 105, 99, 116]) 555), ent P (sg [116, 121, 112, 101, 95, 114, 101, 103, 105, 115, 116, 114, 121]) 595 (.ref 265)]⟩ 3, ⟨[]⟩⟩
def ob262 : Obj := ⟨.ref 256, some 261, .plain, ⟨[]⟩⟩
def ob334 : Obj := ⟨.type "type", none, .cls (clsOf (sg [68, 97, 116, 101, 116, 105, 109, 101, 77, 83]) [.type "object"] [.ref 334, .type "object"] 333 (sg [68, 97, 116, 101, 116, 105, 109, 101, 77, 83]) []), ⟨[none, none, some (.str (sg [68, 97, 116, 101, 116, 105, 109, 101, 77, 83]) 599), some (.str (sg [68, 97, 116, 101, 116, 105, 109, 101, 77, 83]) 607), some (.builtin "object.__new__"), some (.bool true)]⟩⟩
def ob562 (P : Params) : Obj := ⟨.type "dict", none, .dict ⟨[ent P (sg [95, 95, 109, 111, 100, 117, 108, 101, 95, 95]) 999 (.str (sg [98, 115, 111, 110, 46, 101, 114, 114, 111, 114, 115]) 990), ent P (sg [95, 95, 102, 105, 114, 115, 116, 108, 105, 110, 101, 110, 111, 95, 95]) 1003 (.int 361 1002), ent P (sg [95, 95, 115, 116, 97, 116, 105, 99, 95, 97, 116, 116, 114, 105, 98, 117, 116, 101, 115, 95, 95]) 1004 (.ref 561), ent P (sg [95, 95, 119, 101, 97, 107, 114, 101, 102, 95, 95]) 1006 (.ref 564), ent P (sg [95, 95, 100, 111, 99, 95, 95]) 1007 (.none)]⟩ 3, ⟨[]⟩⟩
def ob563 : Obj := ⟨.type "type", none, .cls (clsOf (sg [66, 83, 79, 78, 69, 114, 114, 111, 114]) [.type "Exception"] [.ref 563, .type "Exception", .type "BaseException", .type "object"] 562 (sg [66, 83, 79, 78, 69, 114, 114, 111, 114]) [.ref 576, .ref 588, .ref 618, .ref 630]), ⟨[some (.ref 554), none, some (.str (sg [66, 83, 79, 78, 69, 114, 114, 111, 114]) 992), some (.str (sg [66, 83, 79, 78, 69, 114, 114, 111, 114]) 1000), some (.builtin "Exception.__new__"), some (.bool true)]⟩⟩
def ob575 (P : Params) : Obj := ⟨.type "dict", none, .dict ⟨[ent P (sg [95, 95, 109, 111, 100, 117, 108, 101, 95, 95]) 1019 (.str (sg [98, 115, 111, 110, 46, 101, 114, 114, 111, 114, 115]) 990), ent P (sg [95, 95, 102, 105, 114, 115, 116, 108, 105, 110, 101, 110, 111, 95, 95]) 1023 (.int 363 1022), ent P (sg [95, 95, 115, 116, 97, 116, 105, 99, 95, 97, 116, 116, 114, 105, 98, 117, 116, 101, 115, 95, 95]) 1024 (.ref 574), ent P (sg [95, 95, 100, 111, 99, 95, 95]) 1025 (.none)]⟩ 2, ⟨[]⟩⟩
def ob576 : Obj := ⟨.type "type", none, .cls (clsOf (sg [73, 110, 118, 97, 108, 105, 100, 66, 83, 79, 78]) [.ref 563] [.ref 576, .ref 563, .type "Exception", .type "BaseException", .type "object"] 575 (sg [73, 110, 118, 97, 108, 105, 100, 66, 83, 79, 78]) []), ⟨[some (.ref 567), none, some (.str (sg [73, 110, 118, 97, 108, 105, 100, 66, 83, 79, 78]) 1012), some (.str (sg [73, 110, 118, 97, 108, 105, 100, 66, 83, 79, 78]) 1020), some (.builtin "Exception.__new__"), some (.bool true)]⟩⟩
def ob656 : Obj := ⟨.type "type", none, .cls (clsOf (sg [73, 110, 116, 54, 52]) [.type "object"] [.ref 656, .type "object"] 655 (sg [73, 110, 116, 54, 52]) []), ⟨[none, none, some (.str (sg [73, 110, 116, 54, 52]) 1098), some (.str (sg [73, 110, 116, 54, 52]) 1106), some (.builtin "object.__new__"), some (.bool true)]⟩⟩
def ob1214 (P : Params) : Obj := ⟨.type "dict", none, .dict ⟨[⟨2, .int 2 1980, .ref 1115⟩, ⟨3, .int 3 1982, .ref 1129⟩, ⟨4, .int 4 1984, .ref 1136⟩, ⟨5, .int 5 1986, .ref 1143⟩, ⟨6, .int 6 1988, .ref 1221⟩, ⟨7, .int 7 2001, .ref 1150⟩, ⟨8, .int 8 2003, .ref 1157⟩, ⟨9, .int 9 2005, .ref 1164⟩, ⟨10, .int 10 2007, .ref 1228⟩, ⟨11, .int 11 2020, .ref 1185⟩, ⟨12, .int 12 2022, .ref 1192⟩, ⟨13, .int 13 2024, .ref 1171⟩, ⟨14, .int 14 2026, .ref 1115⟩, ⟨15, .int 15 2028, .ref 1178⟩, ⟨16, .int 16 2030, .ref 1101⟩, ⟨17, .int 17 2032, .ref 1199⟩, ⟨18, .int 18 2034, .ref 1206⟩, ⟨19, .int 19 2036, .ref 1213⟩, ⟨255, .int 255 2037, .ref 1236⟩, ⟨127, .int 127 2049, .ref 1243⟩]⟩ 20, ⟨[]⟩⟩
def ob1443 : Obj := ⟨.type "tuple", none, .seq ⟨[.bool false]⟩ 0, ⟨[]⟩⟩
def ob1449 : Obj := ⟨.type "code", none, .fields ⟨[.str (sg [95, 110, 97, 109, 101, 95, 118, 97, 108, 117, 101, 95, 116, 111, 95, 98, 115, 111, 110]) 2354, .str (sg [95, 110, 97, 109, 101, 95, 118, 97, 108, 117, 101, 95, 116, 111, 95, 98, 115, 111, 110]) 2355, .str (sg [47, 99, 108, 97, 105, 109, 47, 99, 117, 116, 46, 112, 121]) 2356, .int 935 0, .int 5 0, .int 0 0, .int 0 0, .int 3 0, .ref 1444, .bool true, .int 181 0, .ref 1445, .none, .ref 1446, .ref 1447, .ref 1448, .int 2364 0, .int 935 0, .str (sg [47, 99, 108, 97, 105, 109, 47, 99, 117, 116, 46, 112, 121]) 2365]⟩, ⟨[]⟩⟩
def ob1450 : Obj := ⟨.type "function", none, .func (fnOf (sg [95, 110, 97, 109, 101, 95, 118, 97, 108, 117, 101, 95, 116, 111, 95, 98, 115, 111, 110]) (sg [95, 110, 97, 109, 101, 95, 118, 97, 108, 117, 101, 95, 116, 111, 95, 98, 115, 111, 110]) (pr1450).1 (pr1450).2.1 (pr1450).2.2 (.ref 1443) (.none) (.none) (.str (sg [98, 115, 111, 110]) 1620) none (.ref 1449) (.none)), ⟨[]⟩⟩
def ob1458 : Obj := ⟨.type "tuple", none, .seq ⟨[.bool true]⟩ 0, ⟨[]⟩⟩
def ob1464 : Obj := ⟨.type "code", none, .fields ⟨[.str (sg [95, 100, 105, 99, 116, 95, 116, 111, 95, 98, 115, 111, 110]) 2378, .str (sg [95, 100, 105, 99, 116, 95, 116, 111, 95, 98, 115, 111, 110]) 2379, .str (sg [47, 99, 108, 97, 105, 109, 47, 99, 117, 116, 46, 112, 121]) 2380, .int 994 0, .int 4 0, .int 0 0, .int 0 0, .int 3 0, .ref 1459, .bool true, .int 181 0, .ref 1460, .none, .ref 1461, .ref 1462, .ref 1463, .int 2390 0, .int 994 0, .str (sg [47, 99, 108, 97, 105, 109, 47, 99, 117, 116, 46, 112, 121]) 2391]⟩, ⟨[]⟩⟩
def ob1465 : Obj := ⟨.type "function", none, .func (fnOf (sg [95, 100, 105, 99, 116, 95, 116, 111, 95, 98, 115, 111, 110]) (sg [95, 100, 105, 99, 116, 95, 116, 111, 95, 98, 115, 111, 110]) (pr1465).1 (pr1465).2.1 (pr1465).2.2 (.ref 1458) (.none) (.none) (.str (sg [98, 115, 111, 110]) 1620) none (.ref 1464) (.none)), ⟨[]⟩⟩
def ob1466 : Obj := ⟨.type "tuple", none, .seq ⟨[.bool false, .ref 262]⟩ 0, ⟨[]⟩⟩
def ob1472 : Obj := ⟨.type "code", none, .fields ⟨[.str (sg [101, 110, 99, 111, 100, 101]) 2393, .str (sg [101, 110, 99, 111, 100, 101]) 2394, .str (sg [47, 99, 108, 97, 105, 109, 47, 99, 117, 116, 46, 112, 121]) 2395, .int 1008 0, .int 3 0, .int 0 0, .int 0 0, .int 3 0, .ref 1467, .bool true, .int 181 0, .ref 1468, .none, .ref 1469, .ref 1470, .ref 1471, .int 2399 0, .int 1008 0, .str (sg [47, 99, 108, 97, 105, 109, 47, 99, 117, 116, 46, 112, 121]) 2400]⟩, ⟨[]⟩⟩
def ob1473 : Obj := ⟨.type "function", none, .func (fnOf (sg [101, 110, 99, 111, 100, 101]) (sg [101, 110, 99, 111, 100, 101]) (pr1473).1 (pr1473).2.1 (pr1473).2.2 (.ref 1466) (.none) (.none) (.str (sg [98, 115, 111, 110]) 1620) none (.ref 1472) (.none)), ⟨[]⟩⟩
def ob1474 : Obj := ⟨.type "tuple", none, .seq ⟨[.none]⟩ 0, ⟨[]⟩⟩
def ob1480 : Obj := ⟨.type "code", none, .fields ⟨[.str (sg [100, 101, 99, 111, 100, 101]) 2402, .str (sg [100, 101, 99, 111, 100, 101]) 2403, .str (sg [47, 99, 108, 97, 105, 109, 47, 99, 117, 116, 46, 112, 121]) 2404, .int 1012 0, .int 2 0, .int 0 0, .int 0 0, .int 3 0, .ref 1475, .bool true, .int 181 0, .ref 1476, .none, .ref 1477, .ref 1478, .ref 1479, .int 2408 0, .int 1012 0, .str (sg [47, 99, 108, 97, 105, 109, 47, 99, 117, 116, 46, 112, 121]) 2409]⟩, ⟨[]⟩⟩
def ob1481 : Obj := ⟨.type "function", none, .func (fnOf (sg [100, 101, 99, 111, 100, 101]) (sg [100, 101, 99, 111, 100, 101]) (pr1481).1 (pr1481).2.1 (pr1481).2.2 (.ref 1474) (.none) (.none) (.str (sg [98, 115, 111, 110]) 1620) none (.ref 1480) (.none)), ⟨[]⟩⟩
def ob1489 : Obj := ⟨.type "tuple", none, .seq ⟨[.str (sg [97]) 2420, .str (sg [233]) 2421, .str (sg [8364]) 2422, .str (sg [128512]) 2423]⟩ 0, ⟨[]⟩⟩
def ob1490 : Obj := ⟨.type "tuple", none, .seq ⟨[.bytes ⟨[97]⟩ 2425, .bytes ⟨[195, 169]⟩ 2426, .bytes ⟨[226, 130, 172]⟩ 2427, .bytes ⟨[240, 159, 152, 128]⟩ 2428]⟩ 0, ⟨[]⟩⟩
def ob1491 : Obj := ⟨.type "tuple", none, .seq ⟨[.int 3 2430, .int 12 2431, .int 104 2432, .int 11 2433, .int 1 2434, .int 0 2435, .int 27 2436]⟩ 0, ⟨[]⟩⟩
def kF (P : Params) : Frag := [(1, ob1 P), (2, ob2 P), (3, ob3 P), (46, ob46), (72, ob72), (152, ob152), (164, ob164), (170, ob170), (171, ob171), (177, ob177), (178, ob178), (179, ob179), (185, ob185), (186, ob186), (195, ob195 P), (196, ob196), (255, ob255 P), (256, ob256), (261, ob261 P), (262, ob262), (334, ob334), (562, ob562 P), (563, ob563), (575, ob575 P), (576, ob576), (656, ob656), (1214, ob1214 P), (1443, ob1443), (1449, ob1449), (1450, ob1450), (1458, ob1458), (1464, ob1464), (1465, ob1465), (1466, ob1466), (1472, ob1472), (1473, ob1473), (1474, ob1474), (1480, ob1480), (1481, ob1481), (1489, ob1489), (1490, ob1490), (1491, ob1491)]
def kA : List Addr := [1, 2, 3, 46, 72, 152, 164, 170, 171, 177, 178, 179, 185, 186, 195, 196, 255, 256, 261, 262, 334, 562, 563, 575, 576, 656, 1214, 1443, 1449, 1450, 1458, 1464, 1465, 1466, 1472, 1473, 1474, 1480, 1481, 1489, 1490, 1491]
theorem kA_ok (P : Params) : kA = (kF P).map (·.1) := by kernel_rfl
def hkF : Hook := kHook kF kA kA_ok
end Mine
end

section
open PySem PySem.W PySem.Calls PyProof.Rows
namespace Mine
/-- where the text's own names stand -/
def gAt : List (Nat × Addr) := [(0, 1498), (1, 1505), (2, 1512), (3, 1517), (4, 1522), (5, 1527), (6, 1532), (7, 1539), (8, 1544), (9, 1549), (10, 1473), (11, 1465), (12, 1457), (13, 1313), (14, 1073), (15, 1450), (16, 1407), (17, 1344), (18, 1320), (19, 1325), (20, 1337), (21, 1400), (22, 1306), (23, 1271), (24, 1481), (25, 1264), (26, 1087), (27, 1122), (28, 1038), (29, 1031), (30, 1257), (31, 1250), (32, 1108), (33, 1080), (34, 1066), (35, 1115), (36, 1129), (37, 1136), (38, 1143), (39, 1045), (40, 1171), (41, 1101), (43, 1488), (100, 196), (101, 1214), (102, 262), (103, 256), (104, 576), (105, 334), (106, 46), (107, 152), (108, 656), (110, 618)]
def gA (i : Nat) : Value := match gAt.lookup i with | some a => .ref a | none => .builtin "len"

/-- what the head gives -/
structure Base (K : Cfg) : Prop where
  prog : K.prog = PySem.Challenge.pw_fw0046_01
  inn : (kF K.w.params).In K.base
  g : K.base.Ns mainGlobals K.mg
  b : K.base.Ns builtinsNs K.mb
  bt : ∀ x : Str, x ≠ "__name__" → K.mb x = bootBuiltins x
  lim : K.base.NoLimit
  G : K.G = gA
  cc : K.cc = 196
  fns : ∀ name d kwd, defOf q0 name = some (d, kwd) → ∃ a o pm cd doc dV kV, K.mg name = some (.ref a) ∧ K.base.get? a = some o ∧ o.data = .func { docDef d.name d.params d.body d.scope pm cd doc with defaults := dV, kwdefaults := kV } ∧ K.base.CodeRec cd d.name ∧ Dflts K.mg K.base d.params kwd dV kV
  own : ∃ C, OwnClsQ (Str.ofString "InvalidBSON") C [.type "Exception", .type "BaseException", .type "object"] "Exception.__new__" K.mg K.base

section
variable {P : Params}
def typs : List String := ["bool", "int", "str", "bytes", "list", "tuple", "dict"]
def clss : List (Nat × Addr) := [(100, 196), (103, 256), (105, 334), (106, 46), (107, 152), (108, 656)]
theorem typB_mem {n : String} (h : typB n = true) : n ∈ typs := List.contains_iff_mem.mp h
theorem clsB_mem {c : Nat} (h : clsB c = true) : ∃ a, (c, a) ∈ clss ∧ gA c = .ref a := by
  unfold clsB at h
  simp only [Bool.or_eq_true, beq_iff_eq] at h
  rcases h with ((((rfl | rfl) | rfl) | rfl) | rfl) | rfl
  · exact ⟨196, by decide, rfl⟩
  · exact ⟨256, by decide, rfl⟩
  · exact ⟨334, by decide, rfl⟩
  · exact ⟨46, by decide, rfl⟩
  · exact ⟨152, by decide, rfl⟩
  · exact ⟨656, by decide, rfl⟩
def tyN : List String := ["NoneType", "bool", "int", "str", "bytes", "tuple", "list", "dict"]
def tAns (t n : String) : Bool := t == n || (t == "bool" && n == "int")
theorem kit_tt : (tyN.all fun t => typs.all fun n => kitOne (kF P) (.type t) (.type n) == some (tAns t n)) = true := by kernel_rfl
theorem kit_tc : (tyN.all fun t => clss.all fun c => kitOne (kF P) (.type t) (.ref c.2) == some false) = true := by kernel_rfl
theorem kit_ct : (typs.all fun n => kitOne (kF P) (.ref 196) (.type n) == some false) = true := by kernel_rfl
theorem kit_cc : (clss.all fun c => kitOne (kF P) (.ref 196) (.ref c.2) == some (c.1 == 100)) = true := by kernel_rfl
theorem kit_oo : kitOne (kF P) (.ref 256) (.ref 256) = some true := by kernel_rfl
end
end Mine
end

section
open PySem PySem.W PySem.Calls PyProof.Rows
namespace Mine
section
variable {P : Params}
theorem tt_ok {t n : String} (ht : t ∈ tyN) (hn : typB n = true) : kitOne (kF P) (.type t) (.type n) = some (tAns t n) := by
  have h := kit_tt (P := P)
  rw [List.all_eq_true] at h
  have := h t ht
  rw [List.all_eq_true] at this
  exact beq_iff_eq.mp (this n (typB_mem hn))
theorem tc_ok {t : String} {c : Nat} (ht : t ∈ tyN) (hc : clsB c = true) : kitOne (kF P) (.type t) (gA c) = some false := by
  obtain ⟨a, hm, e⟩ := clsB_mem hc
  have h := kit_tc (P := P)
  rw [List.all_eq_true] at h
  have := h t ht
  rw [List.all_eq_true] at this
  rw [e]
  exact beq_iff_eq.mp (this _ hm)
theorem ct_ok {n : String} (hn : typB n = true) : kitOne (kF P) (.ref 196) (.type n) = some false := by
  have h := kit_ct (P := P)
  rw [List.all_eq_true] at h
  exact beq_iff_eq.mp (h n (typB_mem hn))
theorem cc_ok {c : Nat} (hc : clsB c = true) : kitOne (kF P) (.ref 196) (gA c) = some (c == 100) := by
  obtain ⟨a, hm, e⟩ := clsB_mem hc
  have h := kit_cc (P := P)
  rw [List.all_eq_true] at h
  rw [e]
  exact beq_iff_eq.mp (h _ hm)

theorem c_pg : plainGet (kF P) 196 "__class__" = true := by kernel_rfl
theorem c_hd : hasDictIn (kF P) 196 = true := by kernel_rfl
theorem c_fc : findIn (kF P) (.ref 196) "__class__" = some (some (.builtin "object.__class__")) := by kernel_rfl
theorem c_sp : specialIn (kF P) (.builtin "object.__class__") "__get__" = some (some (.builtin "getset_descriptor.__get__")) := by kernel_rfl
theorem c_tk : takesIn (kF P) (.builtin "object.__class__") = some true := by kernel_rfl
theorem c_mo : mroIn (kF P) 196 (.type "object") = some true := by kernel_rfl
theorem o_pg : plainGet (kF P) 256 "__class__" = true := by kernel_rfl
theorem o_hd : hasDictIn (kF P) 256 = true := by kernel_rfl
theorem o_fc : findIn (kF P) (.ref 256) "__class__" = some (some (.builtin "object.__class__")) := by kernel_rfl
theorem o_mo : mroIn (kF P) 256 (.type "object") = some true := by kernel_rfl
theorem l262 : (kF P).lookup 262 = some ob262 := by kernel_rfl
theorem l261 : (kF P).lookup 261 = some (ob261 P) := by kernel_rfl
end
def tyV : FV → Value
  | .none => .type "NoneType"
  | .bool _ => .type "bool"
  | .int _ => .type "int"
  | .str _ => .type "str"
  | .bytes _ => .type "bytes"
  | .tup _ => .type "tuple"
  | .lst _ => .type "list"
  | .dct _ => .type "dict"
  | .code _ => .ref 196
  | .gl _ => .ref 256
  | .typ _ => .none

section
variable {K : Cfg} {A : Around} {fe : Env} {outer : List Env} {B : Addr → Prop} {s : Shared} {h : Heap}
theorem one_ok (Bs : Base K) {v c : FV} {y : Value} {b : Bool} (hc : RV K h B c y) (e : isiOne v c = some b) : kitOne (kF K.w.params) (tyV v) y = some b := by
  have key : ∀ (t : String) (f : String → Bool), t ∈ tyN → (typs.all fun n => tAns t n == f n) = true → (∀ n, c = .typ n → (if typB n then some (f n) else Option.none) = some b) → (∀ i, c = .gl i → (if clsB i then some false else Option.none) = some b) →
      ((∃ n, c = .typ n) ∨ ∃ i, c = .gl i) → kitOne (kF K.w.params) (.type t) y = some b := by
    intro t f ht hf h1 h2 h3
    rcases h3 with ⟨n, rfl⟩ | ⟨i, rfl⟩
    · have q := h1 n rfl
      split at q
      · rename_i hn
        rw [show y = .type n from hc, tt_ok ht hn, beq_iff_eq.mp (List.all_eq_true.mp hf n (typB_mem hn)), q]
      · cases q
    · have q := h2 i rfl
      split at q
      · rename_i hn
        rw [show y = gA i from Bs.G ▸ hc, tc_ok ht hn, q]
      · cases q
  have two : (∃ n, c = .typ n) ∨ ∃ i, c = .gl i := by
    cases c with
    | typ n => exact .inl ⟨n, rfl⟩
    | gl i => exact .inr ⟨i, rfl⟩
    | _ => cases v <;> cases e
  cases v with
  | none => exact key "NoneType" (fun _ => false) (by decide) (by decide) (fun n q => by subst q; exact e) (fun n q => by subst q; exact e) two
  | bool x => exact key "bool" (fun n => n == "bool" || n == "int") (by decide) (by decide) (fun n q => by subst q; exact e) (fun n q => by subst q; exact e) two
  | int x => exact key "int" (fun n => n == "int") (by decide) (by decide) (fun n q => by subst q; exact e) (fun n q => by subst q; exact e) two
  | str x => exact key "str" (fun n => n == "str") (by decide) (by decide) (fun n q => by subst q; exact e) (fun n q => by subst q; exact e) two
  | bytes x => exact key "bytes" (fun n => n == "bytes") (by decide) (by decide) (fun n q => by subst q; exact e) (fun n q => by subst q; exact e) two
  | tup x => exact key "tuple" (fun n => n == "tuple") (by decide) (by decide) (fun n q => by subst q; exact e) (fun n q => by subst q; exact e) two
  | lst x => exact key "list" (fun n => n == "list") (by decide) (by decide) (fun n q => by subst q; exact e) (fun n q => by subst q; exact e) two
  | dct x => exact key "dict" (fun n => n == "dict") (by decide) (by decide) (fun n q => by subst q; exact e) (fun n q => by subst q; exact e) two
  | code x =>
    rcases two with ⟨n, rfl⟩ | ⟨i, rfl⟩
    · have q : (if typB n then some false else Option.none) = some b := e
      split at q
      · rename_i hn
        rw [show y = .type n from hc]
        exact (ct_ok hn).trans q
      · cases q
    · have q : (if clsB i then some (i == 100) else Option.none) = some b := e
      split at q
      · rename_i hn
        rw [show y = gA i from Bs.G ▸ hc]
        exact (cc_ok hn).trans q
      · cases q
  | gl j =>
    rcases two with ⟨n, rfl⟩ | ⟨i, rfl⟩
    · cases e
    · have q : (if j == 102 && i == 103 then some true else Option.none) = some b := e
      split at q
      · rename_i hn
        rw [Bool.and_eq_true] at hn
        rw [show y = gA i from Bs.G ▸ hc, eq_of_beq hn.2]
        exact kit_oo.trans q
      · cases q
  | typ n => rcases two with ⟨n, rfl⟩ | ⟨i, rfl⟩ <;> cases e

/-- every value that may be asked after -/
theorem kitx_v (Bs : Base K) {v : FV} {x : Value} (st : K.base.StaysIn h) (r : RV K h B v x) (hv : refV v = false ∨ v = .gl 102) : ∃ H : Heap → Prop, KitX (kF K.w.params) x (tyV v) H ∧ H h ∧ x ≠ .builtin "__main__.__loader__#opaque" := by
  cases v with
  | none => cases r; exact ⟨_, kitx_none, trivial, by intro q; cases q⟩
  | bool b => cases r; exact ⟨_, kitx_bool, trivial, by intro q; cases q⟩
  | int i => obtain ⟨t, rfl⟩ := r; exact ⟨_, kitx_int, trivial, by intro q; cases q⟩
  | str y => obtain ⟨_, t, rfl⟩ := r; exact ⟨_, kitx_str, trivial, by intro q; cases q⟩
  | bytes y => obtain ⟨_, t, rfl⟩ := r; exact ⟨_, kitx_bytes, trivial, by intro q; cases q⟩
  | tup l => obtain ⟨_, a, vs, rfl, nb, ⟨o, ho, hc, _⟩, rs⟩ := r; exact ⟨_, kitx_tuple, ⟨o, ho, hc⟩, by intro q; cases q⟩
  | lst l => obtain ⟨_, a, vs, rfl, nb, ⟨o, ho, hc, _⟩, rs⟩ := r; exact ⟨_, kitx_list, ⟨o, ho, hc⟩, by intro q; cases q⟩
  | dct l => obtain ⟨_, a, kvs, rfl, nb, ns, ⟨o, es, ep, ho, hx, _⟩, rs⟩ := r; exact ⟨_, kitx_dict, ⟨o, ho, hx.1⟩, by intro q; cases q⟩
  | code y =>
    obtain ⟨_, a, rfl, nb, d, es, n, nd, ha, hd, _⟩ := r
    exact ⟨_, kitx_own c_pg c_hd c_fc c_sp c_tk c_mo, ⟨ha, Bs.cc ▸ rfl, rfl, hd⟩, by intro q; cases q⟩
  | gl i =>
    rcases hv with hv | hv
    · cases hv
    · cases hv
      have e : x = .ref 262 := (show x = K.G 102 from r).trans (Bs.G ▸ rfl)
      subst e
      have X := Bs.inn.keeps st
      exact ⟨_, kitx_own (ox := ob262) (od := ob261 K.w.params) o_pg o_hd o_fc c_sp c_tk o_mo, ⟨X _ _ l262, rfl, rfl, X _ _ l261⟩, by intro q; cases q⟩
  | typ n => rcases hv with hv | hv <;> cases hv

theorem one_ref {v c : FV} {b : Bool} (e : isiOne v c = some b) : refV v = false ∨ v = .gl 102 := by
  cases v <;> first | exact .inl rfl | (cases c <;> first | cases e | skip)
  rename_i j i
  have q : (if j == 102 && i == 103 then some true else Option.none) = some b := e
  split at q
  · rename_i hn
    rw [Bool.and_eq_true] at hn
    exact .inr (by rw [eq_of_beq hn.1])
  · cases q
theorem isi_ok (Bs : Base K) {v c : FV} {x y : Value} {b : Bool} (I : Inv K A fe outer B s.heap) (r : RV K s.heap B v x) (rc : RV K s.heap B c y) (e : isiOne v c = some b) :
    Ends K A (frsOf fe outer) B (.ok (.bool b)) s (call (.builtin "isinstance") [x, y]) := by
  obtain ⟨H, Z, p, hx⟩ := kitx_v Bs I.stay r (one_ref e)
  exact .here fun Q E k => kia_one Z (Bs.inn.keeps I.stay) p (one_ok Bs rc e) hx fun tk => k _ _ rfl
theorem any_ok (Bs : Base K) {v : FV} : ∀ {cs : List FV} {ys : List Value} {b : Bool}, RVs K h B cs ys → isiAny v cs = some b → kitAny (kF K.w.params) (tyV v) ys = some b
  | [], ys, b, rs, e => by
    cases rs
    have e' : (if refV v then Option.none else some false) = some b := e
    split at e'
    · cases e'
    · cases e'; rfl
  | c :: cs, ys, b, rs, e => by
    obtain ⟨y, r', rfl, r1, r2⟩ := rs
    have e' : (match isiOne v c with | some true => some true | some false => isiAny v cs | Option.none => Option.none) = some b := e
    unfold kitAny
    cases q : isiOne v c with
    | none => rw [q] at e'; cases e'
    | some t =>
      rw [q] at e'
      rw [one_ok Bs r1 q]
      cases t with
      | true => cases e'; rfl
      | false => exact any_ok Bs r2 e'
theorem any_ref {v : FV} : ∀ {cs : List FV} {b : Bool}, isiAny v cs = some b → refV v = false ∨ v = .gl 102
  | [], b, e => by
    have e' : (if refV v then Option.none else some false) = some b := e
    split at e'
    · cases e'
    · rename_i q; exact .inl (by cases q' : refV v <;> simp_all)
  | c :: cs, b, e => by
    have e' : (match isiOne v c with | some true => some true | some false => isiAny v cs | Option.none => Option.none) = some b := e
    cases q : isiOne v c with
    | none => rw [q] at e'; cases e'
    | some t => exact one_ref q
theorem isiT_ok (Bs : Base K) {v : FV} {cs : List FV} {x : Value} {l : Addr} {ys : List Value} {b : Bool} (I : Inv K A fe outer B s.heap) (r : RV K s.heap B v x) (ht : IsTup s.heap l (List.toArray ys)) (rs : RVs K s.heap B cs ys)
    (e : isiAny v cs = some b) :
    Ends K A (frsOf fe outer) B (.ok (.bool b)) s (call (.builtin "isinstance") [x, .ref l]) := by
  obtain ⟨H, Z, p, hx⟩ := kitx_v Bs I.stay r (any_ref e)
  obtain ⟨o, ho, hc, n, hd⟩ := ht
  obtain ⟨oc, od, oda, osl⟩ := o
  dsimp only at hc hd
  subst hc hd
  exact .here fun Q E k => kia_tup Z (Bs.inn.keeps I.stay) p ho (any_ok Bs rs e) hx fun tk => k _ _ rfl
end
end Mine
end

section
open PySem PySem.W PySem.Calls PyProof.Rows
namespace Mine
section
variable {P : Params}
def gVal (p : String × FV) : Option Value := match p.2 with
  | .gl i => some (gA i)
  | .tup _ => (match p.1 with | "_LAW_UNITS" => some (.ref 1489) | "_LAW_RAW" => some (.ref 1490) | "_LAW_COUNTS" => some (.ref 1491) | _ => some (.ref 72))
  | _ => none
theorem g_all : (gnames.all fun p => match gVal p with | some v => nsIn (kF P) mainGlobals (Str.ofString p.1) == some (some v) | none => false) = true := by kernel_rfl
theorem b_all : (bnames.all fun p => nsIn (kF P) mainGlobals (Str.ofString p.1) == some none && (!(Str.ofString p.1 == Str.ofString "__name__") && bootBuiltins (Str.ofString p.1) == some p.2)) = true := by kernel_rfl
theorem l72 : (kF P).lookup 72 = some ob72 := by kernel_rfl
theorem l1489 : (kF P).lookup 1489 = some ob1489 := by kernel_rfl
theorem l1490 : (kF P).lookup 1490 = some ob1490 := by kernel_rfl
theorem l1491 : (kF P).lookup 1491 = some ob1491 := by kernel_rfl
theorem l1214 : (kF P).lookup 1214 = some (ob1214 P) := by kernel_rfl
end
section
variable {K : Cfg} {A : Around} {fe : Env} {outer : List Env} {B : Addr → Prop} {s : Shared} {h : Heap}
theorem gt_ok (Bs : Base K) (n : Str) (v : FV) (e : gtab n = some v) : ∃ x, K.mg n = some x ∧ RV K K.base N0 v x := by
  unfold gtab at e
  obtain ⟨p, hp, rfl⟩ := Option.map_eq_some_iff.mp e
  have hm := List.mem_of_find?_eq_some hp
  have hn : Str.ofString p.1 = n := eq_of_beq (List.find?_some (p := fun p : String × FV => Str.ofString p.1 == n) hp)
  subst hn
  have hg := List.all_eq_true.mp (g_all (P := K.w.params)) p hm
  have ht : ∀ (l : List FV) (a : Addr) (vs : List Value) (o : Obj), p.2 = .tup l → gVal p = some (.ref a) → (kF K.w.params).lookup a = some o → o.cls = .type "tuple" → (∃ m, o.data = .seq vs.toArray m) → l.length ≤ big → RVs K K.base N0 l vs → ∃ x, K.mg (Str.ofString p.1) = some x ∧ RV K K.base N0 p.2 x := by
    intro l a vs o h1 h2 h3 h4 h5 h6 h7
    rw [h2] at hg
    refine ⟨.ref a, mg_of Bs.inn Bs.g (eq_of_beq hg), ?_⟩
    rw [h1]
    exact ⟨h6, a, vs, rfl, fun q => q, ⟨o, Bs.inn _ _ h3, h4, h5⟩, h7⟩
  obtain ⟨nm, v⟩ := p
  cases v with
  | gl i => exact ⟨gA i, mg_of Bs.inn Bs.g (eq_of_beq hg), Bs.G ▸ rfl⟩
  | tup l =>
    simp only [gnames, List.mem_cons, Prod.mk.injEq, reduceCtorEq, and_false, false_or, List.mem_nil_iff, or_false] at hm
    rcases hm with ⟨rfl, h⟩ | ⟨rfl, h⟩ | ⟨rfl, h⟩ | ⟨rfl, h⟩
    · cases h
      exact ht _ 1489 _ ob1489 rfl rfl l1489 rfl ⟨0, rfl⟩ (by decide) ⟨_, _, rfl, ⟨by decide, _, rfl⟩, _, _, rfl, ⟨by decide, _, rfl⟩, _, _, rfl, ⟨by decide, _, rfl⟩, _, _, rfl, ⟨by decide, _, rfl⟩, rfl⟩
    · cases h
      exact ht _ 1490 _ ob1490 rfl rfl l1490 rfl ⟨0, rfl⟩ (by decide) ⟨_, _, rfl, ⟨by decide, _, rfl⟩, _, _, rfl, ⟨by decide, _, rfl⟩, _, _, rfl, ⟨by decide, _, rfl⟩, _, _, rfl, ⟨by decide, _, rfl⟩, rfl⟩
    · cases h
      exact ht _ 1491 _ ob1491 rfl rfl l1491 rfl ⟨0, rfl⟩ (by decide) ⟨_, _, rfl, ⟨_, rfl⟩, _, _, rfl, ⟨_, rfl⟩, _, _, rfl, ⟨_, rfl⟩, _, _, rfl, ⟨_, rfl⟩, _, _, rfl, ⟨_, rfl⟩, _, _, rfl, ⟨_, rfl⟩, _, _, rfl, ⟨_, rfl⟩, rfl⟩
    · cases h
      exact ht _ 72 _ ob72 rfl rfl l72 rfl ⟨0, rfl⟩ (by decide) ⟨_, _, rfl, ⟨_, rfl⟩, _, _, rfl, ⟨_, rfl⟩, rfl⟩
  | _ => cases hg
theorem bt_ok (Bs : Base K) (n : Str) (v : Value) (e : btab n = some v) : K.mg n = none ∧ K.mb n = some v := by
  unfold btab at e
  obtain ⟨p, hp, rfl⟩ := Option.map_eq_some_iff.mp e
  have hm := List.mem_of_find?_eq_some hp
  have hn : Str.ofString p.1 = n := eq_of_beq (List.find?_some (p := fun p : String × Value => Str.ofString p.1 == n) hp)
  subst hn
  have hg := List.all_eq_true.mp (b_all (P := K.w.params)) p hm
  rw [Bool.and_eq_true, Bool.and_eq_true] at hg
  obtain ⟨g1, g2, g3⟩ := hg
  refine ⟨mg_none_of Bs.inn Bs.g (eq_of_beq g1), (Bs.bt _ fun q => ?_).trans (eq_of_beq g3)⟩
  rw [q] at g2
  exact absurd g2 (by decide)
theorem gNone_ok (Bs : Base K) (i : Nat) : K.G i ≠ .none := by
  rw [Bs.G]
  unfold gA
  split <;> intro q <;> cases q

theorem raise_mk {α : Type} {M : Model} {A : Around} {E : Value → Shared → Prop} {cls : String} {args : List Value} {Q : α → Shared → Prop} (hp : PlainExc cls) (hh : A.handled = none)
    (h : ∀ h' e, Heap.MadeExcOf s.heap h' e (.type cls) args → E (.ref e) { s with heap := h' }) (hsz : args.length ≤ sizeLine := by size_fits) : wpAny M A (do raiseNew (← newExc (.type cls) args) : Sem α) Q E s := by
  refine wpAny_bind ?_
  unfold newExc newTuple
  refine wpAny_bind (wpAny_newObj_type ?_ (show args.toArray.size ≤ sizeLine by simpa using hsz))
  refine wpAny_bind (m := firstArgMember _ _) (wpAny_of_eq (a := Value.none) (by simp only [firstArgMember, hp.first]; rfl) ?_)
  rw [hp.own]
  refine wpAny_newObj_type ?_ (by size_fits)
  unfold raiseNew
  refine wpAny_bind (wpAny_handled ?_)
  rw [hh]
  first
    | refine wpAny_throw ?_
    | refine wpAny_bind (wpAny_pure (wpAny_throw ?_))
  exact h _ _ ⟨fun b o hb => Heap.get?_push_of_some _ (Heap.get?_push_of_some _ hb), Heap.get?_none_of_le (by simp), s.heap.objs.size, Heap.get?_push_size _ rfl, Heap.get?_none_of_le (Nat.le_refl _), Heap.get?_push_of_some _ (Heap.get?_push_size _ rfl)⟩
open Builtin.Dict in
theorem get_miss {prog : Program} {w : World} {KT : Type} [DecidableEq KT] {knd : KeyKind prog w KT} {A : Around} {E : Value → Shared → Prop} {d : Addr} {k : KT} {key : Value} {f : KT → Option Value} {Q : Value → Shared → Prop} (hkey : knd.is k key = true) (hd : (d == sysModules) = false) (hh : A.handled = none)
    (hm : s.heap.MapOf knd d f) (hv : f k = none) (h : ∀ h' e, Heap.MadeExcOf s.heap h' e (.type "KeyError") [key] → E (.ref e) { s with heap := h', toks := s.toks + 1 }) : wpAny (model prog w) A (getItem (.ref d) key) Q E s := by
  unfold getItem
  try with_reducible refine wpAny_holding ?_
  refine wpAny_bind (wpAny_sequenceKey hm.typeIs (by decide) ?_)
  refine wpAny_bind (wpAny_callSpecial?_slot (name := Str.ofString "__getitem__") hm.typeIs F.slot_dict_getitem
    (wpAny_call_entry F.slot_dict_getitem hm.typeIs F.entry_dict_getitem ?_ (F.args_dict_getitem_2 _ _)))
  show wpAny _ _ (dictGet d key >>= _) _ _ s
  refine wpAny_bind (wpAny_dictGet_of hkey hm ?_)
  rw [hv]
  show wpAny _ _ (Builtin.Dict.missed d key >>= _) _ _ _
  refine wpAny_bind (wpAny_missed_other hd ?_)
  refine wpAny_bind (wpAny_typeOf (s := { s with toks := s.toks + 1 }) hm.typeIs ?_)
  show wpAny _ _ (if (Value.type "dict" != Value.type "dict") = true then _ else _) _ _ _
  rw [if_neg (by decide)]
  exact wpAny_bind (wpAny_rule (raise_mk (A := A.in1) (s := { s with toks := s.toks + 1 }) plainExc_KeyError hh h))

/-- the table of getters -/
def getEs : Array DictEntry := ⟨[⟨2, .int 2 1980, .ref 1115⟩, ⟨3, .int 3 1982, .ref 1129⟩, ⟨4, .int 4 1984, .ref 1136⟩, ⟨5, .int 5 1986, .ref 1143⟩, ⟨6, .int 6 1988, .ref 1221⟩, ⟨7, .int 7 2001, .ref 1150⟩, ⟨8, .int 8 2003, .ref 1157⟩, ⟨9, .int 9 2005, .ref 1164⟩, ⟨10, .int 10 2007, .ref 1228⟩, ⟨11, .int 11 2020, .ref 1185⟩, ⟨12, .int 12 2022, .ref 1192⟩, ⟨13, .int 13 2024, .ref 1171⟩, ⟨14, .int 14 2026, .ref 1115⟩, ⟨15, .int 15 2028, .ref 1178⟩, ⟨16, .int 16 2030, .ref 1101⟩, ⟨17, .int 17 2032, .ref 1199⟩, ⟨18, .int 18 2034, .ref 1206⟩, ⟨19, .int 19 2036, .ref 1213⟩, ⟨255, .int 255 2037, .ref 1236⟩, ⟨127, .int 127 2049, .ref 1243⟩]⟩
theorem get_map (Bs : Base K) (st : K.base.StaysIn h) : h.MapOf (intKind K.prog K.w) 1214 (fun k => findBy Value.isInt getEs k) := by
  have X := Bs.inn.keeps st
  refine ⟨_, getEs, 20, X _ _ l1214, ⟨rfl, rfl, rfl⟩, rfl, ?_, fun _ => rfl⟩
  have key : (getEs.toList.all fun e => match e.key with | .int k _ => e.hash == hashInt k | _ => false) = true := by kernel_rfl
  intro e he
  have z := List.all_eq_true.mp key e (Array.mem_toList_iff.mpr he)
  split at z
  · rename_i k t hk
    exact ⟨k, by rw [hk]; simp [intKind, Value.isInt], eq_of_beq z⟩
  · cases z
theorem getterT_ok (Bs : Base K) (st : K.base.StaysIn s.heap) : s.TypeIs (K.G 101) "dict" := by
  rw [Bs.G]
  exact (get_map Bs st).typeIs
theorem getterD_ok (Bs : Base K) {i : Int} {t : Tok} (I : Inv K A fe outer B s.heap) : Ends K A (frsOf fe outer) B (evP .idx [.gl 101, .int i]) s (getItem (K.G 101) (.int i t)) := by
  have M := get_map Bs I.stay
  have hk : (intKind K.prog K.w).is i (.int i t) = true := by simp [intKind, Value.isInt]
  have ok : ∀ (j : Nat) (x : Value), findBy Value.isInt getEs i = some x → x = gA j → Ends K A (frsOf fe outer) B (.ok (.gl j)) s (getItem (K.G 101) (.int i t)) := by
    intro j x hf hx
    rw [Bs.G]
    exact .here fun Q E k => wpAny_getItem_of hk M hf (k _ _ (by rw [hx]; exact (congrFun Bs.G j).symm))
  show Ends K A (frsOf fe outer) B (match getterOf i with | some r => r | Option.none => .exc ⟨.blt "KeyError", Option.none⟩) s _
  by_cases h2 : i = 2
  · subst h2; exact ok 35 (.ref 1115) (by decide +kernel) rfl
  by_cases h3 : i = 3
  · subst h3; exact ok 36 (.ref 1129) (by decide +kernel) rfl
  by_cases h4 : i = 4
  · subst h4; exact ok 37 (.ref 1136) (by decide +kernel) rfl
  by_cases h5 : i = 5
  · subst h5; exact ok 38 (.ref 1143) (by decide +kernel) rfl
  by_cases h13 : i = 13
  · subst h13; exact ok 40 (.ref 1171) (by decide +kernel) rfl
  by_cases h16 : i = 16
  · subst h16; exact ok 41 (.ref 1101) (by decide +kernel) rfl
  by_cases h102 : i = 102
  · subst h102
    intro Q E hE
    rw [Bs.G]
    refine get_miss hk (by decide) I.hd M (by decide +kernel) fun h' e hm => ?_
    obtain ⟨tt, he, htn, ht⟩ := hm.there
    exact hE e h' _ (Kp.of_keep hm.keeps) ⟨hm.new, tt, .none, .none, .none, .bool false, .none, _, _, he, .inl rfl, fun _ _ => rfl, fun y hy => by cases hy⟩
  · unfold getterOf
    simp only [h2, h3, h4, h5, h13, h16, h102, if_false]
    trivial
end
end Mine
end

section
open PySem PySem.W PySem.Calls PyProof.Rows
namespace Mine
theorem b178 : ∃ p1 p2 p3, pr178.2.1 = [.Return (some (.Attribute (.Name (Str.ofString "self") p1) (Str.ofString "_scope") p2)) p3] := ⟨_, _, _, by with_unfolding_all rfl⟩
theorem n178 : pr178.2.2.names = [(Str.ofString "self", .local)] := by with_unfolding_all rfl
theorem k178 : pr178.2.2.kind = .function := by with_unfolding_all rfl
theorem c178 : pr178.2.2.isCoroutine = false := by with_unfolding_all rfl
theorem g178 : pr178.2.2.isGenerator = false := by with_unfolding_all rfl
section
variable {P : Params}
theorem l178 : (kF P).lookup 178 = some ob178 := by kernel_rfl
theorem cd178 : codeIn (kF P) (.ref 177) (sg [67, 111, 100, 101, 46, 115, 99, 111, 112, 101]) = true := by kernel_rfl
theorem f_scope_ : findIn (kF P) (.ref 196) (Str.ofString "_scope") = some none := by kernel_rfl
theorem f_text : findIn (kF P) (.ref 196) (Str.ofString "text") = some none := by kernel_rfl
theorem f_scope : findIn (kF P) (.ref 196) (Str.ofString "scope") = some (some (.ref 179)) := by kernel_rfl
theorem s_scope : specialIn (kF P) (.ref 179) "__get__" = some (some (.builtin "property.__get__")) := by kernel_rfl
theorem t_scope : takesIn (kF P) (.ref 179) = some true := by kernel_rfl
theorem r_scope : recIn (kF P) 179 "property" = some [.ref 178, .none, .none, .none, .str (sg [115, 99, 111, 112, 101]) 465, .bool false] := by kernel_rfl
theorem pg196 {n : Str} : plainGet (kF P) 196 n = true := by kernel_rfl
theorem pg256 {n : Str} : plainGet (kF P) 256 n = true := by kernel_rfl
theorem f_udeh : findIn (kF P) (.ref 256) (Str.ofString "unicode_decode_error_handler") = some none := by kernel_rfl
def es261 (P : Params) : List DictEntry := match (ob261 P).data with | .dict es _ => es.toList | _ => []
theorem g_udeh : lookIn (Str.ofString "unicode_decode_error_handler") (ob261 P) = some (some (.str (Str.ofString "strict") 555)) := by kernel_rfl
theorem cls196 : (clsIn (kF P) 196).isSome = true := by kernel_rfl
theorem kp196 : keepIn (kF P) (.ref 196) = true := by kernel_rfl
theorem fb_cls : findCls (kF P) (.type "int") (.type "type") (PySem.Str.ofString "from_bytes") = some (.get (.builtin "classmethod_descriptor.__get__") (.builtin "int.from_bytes") .none (.type "int")) := by kernel_rfl
end
section
variable {K : Cfg} {A : Around} {fe : Env} {outer : List Env} {B : Addr → Prop} {s : Shared} {h : Heap} {P : Params}
theorem keepCode_ok (Bs : Base K) : Keepable K (K.G 100) := fun M h st => by
  rw [show K.G 100 = .ref 196 from Bs.G ▸ rfl]
  exact keeps_K (M := M) kp196 h (Bs.inn.keeps st)
theorem fbm_ok {prog : Program} {w : World} {pl : Sem Bool} {Q : Value × List Value → Shared → Prop} {E : Value → Shared → Prop} (X : (kF P).In s.heap) (h : Q (.ref s.heap.objs.size, []) { s with heap := s.heap.push KFB.bound, toks := s.toks + 1 }) :
    wpAny (model prog w) A (getMethod (.type "int") (PySem.Str.ofString "from_bytes") pl) Q E s := by
  have hstub : opaqueClassAbove (.type "int") = pure none := by unfold opaqueClassAbove; dsimp only; rw [show Manifest.isStub "int" = false by decide +kernel]; rfl
  have ht : typeOf (.type "int") = pure (.type "type") := by first | rfl | kernel_rfl
  have L0 : Looks (model prog w) s.heap (typeOf (.type "int")) (.type "type") := Looks.of_pure ht
  have hg : findIn (kF P) (.type "type") "__getattribute__" = some (some (.builtin "type.__getattribute__")) := type_tga
  unfold getMethod specialOf
  refine wpAny_bind (wpAny_bind (L0.here ((looks_findIn X hg).here ?_)))
  dsimp only
  rw [if_pos canon_tga]
  refine wpAny_bind (wpAny_mono (Q := fun v => Q (v, [])) (E := E) ?_ (fun _ _ z => wpAny_pure z) fun _ _ z => z)
  have LO : Looks (model prog w) s.heap (opaqueClassAbove (.type "int")) none := Looks.of_pure hstub
  refine cls_open X LO L0 hg (looks_hook X (r := none) (by rfl)) (by show subIn (kF P) _ _ = _; rfl) fb_cls ?_
  show wpAny _ _ (holding [.builtin "int.from_bytes"] (call (.builtin "classmethod_descriptor.__get__") [.builtin "int.from_bytes", .none, .type "int"]) >>= fun v => ret v) _ _ _
  exact wpAny_bind (wpAny_holding (wpAny_call_entry KFB.slot_get KFB.type_fb KFB.entry_get (KFB.run_get ⟨_, rfl, wpAny_pure (wpAny_pure h)⟩) (KFB.args_get _ _ _)))

theorem scope_run {prog : Program} {w : World} {R : Result → Shared → Prop} {a : Addr} {ox : Obj} {es : List DictEntry} {n : Nat} (X : (kF P).In s.heap) (lim : s.heap.NoLimit) (hA : A.depth < recursionLimit) (I : InstAt s.heap a ox 196 (some (dictOf es n)))
    (hl : lookIn (Str.ofString "_scope") (dictOf es n) = some (some .none)) (h : ∀ h' tk, (∀ b o, s.heap.get? b = some o → h'.get? b = some o) → R (.ok (.ret .none)) { s with heap := h', toks := tk }) :
    codeAny (model prog w) A (.call (.ref 178) ⟨[.ref a], []⟩) R s := by
  obtain ⟨p1, p2, p3, hb⟩ := b178
  refine codeAny_call_def (body := pr178.2.1) (binds := [(Str.ofString "self", .ref a)]) hA (X _ _ l178) rfl lim (codeRec_of X cd178) rfl (BindsTo.of_eq (by with_unfolding_all rfl)) ?_ ?_ (fun h₁ hns hk₁ => ?_) c178 g178 k178
  · show ∀ x ∈ pr178.2.2.names, x.2 ≠ .cell
    rw [n178]; decide
  · show ∀ x ∈ [(Str.ofString "self", Value.ref a)], pr178.2.2.names.lookup x.1 = some .local
    rw [n178]
    intro x hx
    rw [List.mem_singleton] at hx
    subst hx
    rfl
  · have F : Fr s.heap s.heap.objs.size h₁ (fun x => [(Str.ofString "self", Value.ref a)].reverse.lookup x) := ⟨hns, hk₁, Nat.le_refl _⟩
    rw [hb]
    refine wpAny_execs_cons (wpAny_Return_some (Attribute_name (ld (name := sg [67, 111, 100, 101, 46, 115, 99, 111, 112, 101]) (scope := pr178.2.2) (L := s.heap.objs.size) (a := 178) (cd := .ref 177) F (v := .ref a) rfl ?_ k178 ?_ (by decide))))
    · have I' : InstAt h₁ a ox 196 (some (dictOf es n)) := ⟨hk₁ _ _ I.at_, I.cls, I.no, by
        have := I.dict
        cases q : ox.dict with
        | none => rw [q] at this; exact this.elim
        | some dx => rw [q] at this; exact hk₁ _ _ this⟩
      refine get_own F X I' pg196 c_hd f_scope_ rfl (by rw [← lookIn_dict]; exact hl) rfl ?_
      exact h h₁ _ hk₁
    · show pr178.2.2.names.lookup (Str.ofString "self") = some .local
      rw [n178]; rfl
theorem inst_code (Bs : Base K) {y : Str} {a : Addr} (r : CodeAt K h B a y) : ∃ d es n t, h.get? a = some ⟨.ref 196, some d, .plain, #[]⟩ ∧ InstAt h a ⟨.ref 196, some d, .plain, #[]⟩ 196 (some (dictOf es n)) ∧ lookIn (Str.ofString "text") (dictOf es n) = some (some (.str y t)) ∧ lookIn (Str.ofString "_scope") (dictOf es n) = some (some .none) := by
  obtain ⟨d, es, n, nd, ha, hd, ⟨t, ht⟩, hs⟩ := r
  rw [Bs.cc] at ha
  exact ⟨d, es, n, t, ha, ⟨ha, rfl, rfl, hd⟩, ht, hs⟩
theorem room_in {A : Around} {n : Nat} (rm : Room A n) : A.in1.depth < recursionLimit := by
  have := rm.depth
  show A.depth < 1000
  omega
theorem attr_ok (Bs : Base K) {n : Nat} {v : FV} {x : Value} {nm : String} (I : Inv K A fe outer B s.heap) (rm : Room A n) (r : RV K s.heap B v x) : Ends K A (frsOf fe outer) B (evP (.attr nm) [v]) s (getAttr x (Str.ofString nm) true) := by
  have X := Bs.inn.keeps I.stay
  cases v with
  | code y =>
    show Ends K A _ B (if nm = "text" then .ok (.str y) else if nm = "scope" then .ok .none else .no) s _
    obtain ⟨sz, a, rfl, nb, r⟩ := r
    obtain ⟨d, es, m, t, ha, J, ht, hs⟩ := inst_code Bs r
    split
    · rename_i e
      subst e
      exact .here fun Q E k => get_value X J (plainGet_of (pg196 (n := Str.ofString "text"))).1 (findObj_own c_hd f_text rfl ht) rfl (k _ _ ⟨sz, t, rfl⟩)
    · split
      · rename_i e
        subst e
        refine .mk fun Q E k => get_bind X J (plainGet_of (pg196 (n := Str.ofString "scope"))).1 (findObj_data (cls196) f_scope s_scope t_scope) (plainGet_of (pg196 (n := Str.ofString "scope"))).2 (wpAny_call (prop_get (s := { s with toks := s.toks + 1 }) X r_scope ?_))
        exact scope_run (s := { s with toks := s.toks + 1 }) X (Bs.lim.keeps I.stay) (room_in rm) J hs fun h' tk hk => wpAny_pure (k _ h' tk (Kp.of_keep hk) rfl)
      · trivial
  | gl i =>
    show Ends K A _ B (if i = 102 ∧ nm = "unicode_decode_error_handler" then .ok (.str (Str.ofString "strict")) else .no) s _
    split
    · rename_i e
      obtain ⟨rfl, rfl⟩ := e
      have e : x = .ref 262 := (show x = K.G 102 from r).trans (Bs.G ▸ rfl)
      subst e
      have J : InstAt s.heap 262 ob262 256 (some (ob261 K.w.params)) := ⟨X _ _ l262, rfl, rfl, X _ _ l261⟩
      exact .here fun Q E k => get_value X J (plainGet_of (pg256 (n := Str.ofString "unicode_decode_error_handler"))).1 (findObj_own o_hd f_udeh rfl g_udeh) rfl (k _ _ ⟨by decide, _, rfl⟩)
    · trivial
  | _ => trivial
end
end Mine
end

section
open PySem PySem.W PySem.Calls PyProof.Rows
namespace Mine
section
variable {M : Model} {prog : Program} {w : World} {A : Around} {E : Value → Shared → Prop} {s : Shared} {env : Env}
theorem tr_of {x : Expr} {Q : Bool → Shared → Prop} (he : isTrue x env (eval x env) = (eval x env >>= fun v => standAt x.pos >>= fun _ => holding [v] (truthy v)))
    (h : wpAny M A (eval x env) (fun v s₁ => wpAny M A (truthy v) Q E s₁) E s) : wpAny M A (isTrue x env (eval x env)) Q E s := by
  rw [he]
  exact wpAny_bind (wpAny_mono h (fun v s₁ h₁ => wpAny_bind (wpAny_standAt (wpAny_holding h₁))) fun _ _ e => e)
theorem tr_not {x : Expr} {p : Pos} {Q : Bool → Shared → Prop} (h : wpAny M A (isTrue x env (eval x env)) (fun b s₁ => Q (!b) s₁) E s) : wpAny M A (isTrue (.UnaryOp .Not x p) env (eval (.UnaryOp .Not x p) env)) Q E s := by
  rw [arm_isTrue_UnaryOp]
  exact wpAny_bind (wpAny_mono h (fun b s₁ h₁ => wpAny_pure h₁) fun _ _ e => e)
theorem tr_isNot_none {l : Expr} {k : Nat} {p' p : Pos} {Q : Bool → Shared → Prop} (h : wpAny M A (eval l env) (fun v s₁ => v = .none ∧ Q false s₁) E s) :
    wpAny M A (isTrue (.Compare l [.IsNot] [.Constant .none k p'] p) env (eval (.Compare l [.IsNot] [.Constant .none k p'] p) env)) Q E s := by
  have em : markedEach [.IsNot] [.Constant .none k p'] (evalEach [.Constant .none k p'] env) = [pure .none] := rfl
  rw [arm_isTrue_Compare, em]
  refine wpAny_bind (wpAny_mono h (fun v s₁ h₁ => ?_) fun _ _ e => e)
  obtain ⟨rfl, h₁⟩ := h₁
  show wpAny _ _ (holding [Value.none] (pure Value.none) >>= fun y => standAt p >>= fun _ => operate [Value.none, y] (compareOp .IsNot .none y) >>= fun c => holding [c] (truthy c)) _ _ _
  refine wpAny_bind (wpAny_holding (wpAny_pure (wpAny_bind (wpAny_standAt (wpAny_bind (wpAny_operateT (wpAny_of_eq (a := .bool false) rfl (wpAny_holding (wpAny_truthy_bool h₁)))))))))
theorem isi_eval {x y : Expr} {p0 p : Pos} {Q : Value → Shared → Prop} (hx : plainE x = true) (hy : plainE y = true) (hn : wpAny M A (eval (.Name (Str.ofString "isinstance") p0) env) (fun g s₁ => g = .builtin "isinstance" ∧
      wpAny M A (eval x env) (fun vx s₂ => wpAny M A (eval y env) (fun vy s₃ => wpAny M A (call (.builtin "isinstance") [vx, vy]) Q E s₃) E s₂) E s₁) E s) :
    wpAny M A (eval (.Call (.Name (Str.ofString "isinstance") p0) [x, y] [] p) env) Q E s := by
  have e : eval (.Call (.Name (Str.ofString "isinstance") p0) [x, y] [] p) env = (eval (.Name (Str.ofString "isinstance") p0) env >>= fun g => callWith p g [] (backTo p (starEach [x, y] env)) (backToKw p (keywordEach [] env))) := rfl
  rw [e]
  refine wpAny_bind (wpAny_mono hn (fun g s₁ h₁ => ?_) fun _ _ e => e)
  obtain ⟨rfl, h₁⟩ := h₁
  have hs : starEach [x, y] env = [(false, eval x env), (false, eval y env)] := by rw [star_plain hx, star_plain hy]; rfl
  refine callWith_of (P := fun _ => True) (by rw [hs]; rfl) (fun _ _ => ⟨.machine, .inr (.inl rfl), Looks.of_pure rfl⟩) ?_
  rw [hs]
  refine Calls.evalArgs_plain (Calls.spliced_cons (wpAny_mono h₁ (fun vx s₂ h₂ => Calls.spliced_cons (wpAny_mono h₂ (fun vy s₃ h₃ => Calls.spliced_nil ⟨trivial, h₃⟩) fun _ _ e => e)) fun _ _ e => e))
end
end Mine
end

section
open PySem PySem.W PySem.Calls PyProof.Rows
namespace Mine
theorem b171 : ∃ (p1 p2 p3 p4 p5 p6 p7 p8 p9 p10 p11 p12 p13 p14 p15 p16 p17 p18 p19 p20 p21 p22 p23 p24 p25 : Pos) (b1 b2 b3 b4 : List Stmt), pr171.2.1 =
  [.Assign [.Attribute (.Name (Str.ofString "self") p1) (Str.ofString "_scope") p2] (.Constant .none 0 p3) p4,
   .If (.Call (.Name (Str.ofString "isinstance") p5) [.Name (Str.ofString "code") p6, .Name (Str.ofString "Code") p7] [] p8) b1 [] p9,
   .If (.UnaryOp .Not (.Call (.Name (Str.ofString "isinstance") p10) [.Name (Str.ofString "code") p11, .Name (Str.ofString "str") p12] [] p13) p14) b2 [] p15,
   .Assign [.Attribute (.Name (Str.ofString "self") p16) (Str.ofString "text") p17] (.Name (Str.ofString "code") p18) p19,
   .If (.Compare (.Name (Str.ofString "scope") p20) [.IsNot] [.Constant .none 0 p21] p22) b3 [] p23,
   .If (.Name (Str.ofString "kwargs") p24) b4 [] p25] :=
  ⟨_, _, _, _, _, _, _, _, _, _, _, _, _, _, _, _, _, _, _, _, _, _, _, _, _, _, _, _, _, by with_unfolding_all rfl⟩
theorem n171 : pr171.2.2.names = [(Str.ofString "self", .local), (Str.ofString "code", .local), (Str.ofString "scope", .local), (Str.ofString "kwargs", .local), (Str.ofString "isinstance", .globalImplicit), (Str.ofString "Code", .globalImplicit), (Str.ofString "str", .globalImplicit), (Str.ofString "TypeError", .globalImplicit), (Str.ofString "type", .globalImplicit), (Str.ofString "dict", .globalImplicit)] := by with_unfolding_all rfl
theorem k171 : pr171.2.2.kind = .function := by with_unfolding_all rfl
theorem c171 : pr171.2.2.isCoroutine = false := by with_unfolding_all rfl
theorem g171 : pr171.2.2.isGenerator = false := by with_unfolding_all rfl
def q171 : Str := sg [67, 111, 100, 101, 46, 95, 95, 105, 110, 105, 116, 95, 95]
section
variable {P : Params}
theorem l171 : (kF P).lookup 171 = some ob171 := by kernel_rfl
theorem l164 : (kF P).lookup 164 = some ob164 := by kernel_rfl
theorem cd171 : codeIn (kF P) (.ref 170) (sg [67, 111, 100, 101, 46, 95, 95, 105, 110, 105, 116, 95, 95]) = true := by kernel_rfl
theorem mk196 : makesIn (kF P) 196 = true := by kernel_rfl
theorem f_init : findIn (kF P) (.ref 196) (Str.ofString "__init__") = some (some (.ref 171)) := by kernel_rfl
theorem t_init : typeIn (kF P) (.ref 171) = some (.type "function") := by kernel_rfl
theorem f_seta : findIn (kF P) (.ref 196) (Str.ofString "__setattr__") = some (some (.builtin "object.__setattr__")) := by kernel_rfl
theorem po196 : plainOver (kF P) 196 = true := by kernel_rfl
theorem tk_scope : takerIn (kF P) 196 (Str.ofString "_scope") = some none := by kernel_rfl
theorem tk_text : takerIn (kF P) 196 (Str.ofString "text") = some none := by kernel_rfl
end
def fd171 : FuncData := match ob171.data with | .func f => f | _ => default
theorem bind171 (a b : Value) : ∃ k, bindArgs fd171 ⟨[a, b], []⟩ = (seqItems? (.ref 164) >>= k) ∧ k (some #[.none]) = (alloc emptyDict >>= fun D => pure [(Str.ofString "self", a), (Str.ofString "code", b), (Str.ofString "scope", .none), (Str.ofString "kwargs", .ref D)]) :=
  ⟨_, by with_unfolding_all rfl, by with_unfolding_all rfl⟩
end Mine
end

section
open PySem PySem.W PySem.Calls PyProof.Rows
namespace Mine
/-- a method's own scene: its environment -/
structure MEnv (env : Env) (sc : Scope) (L : Addr) : Prop where
  scE : env.scope = sc
  gl : env.globals = mainGlobals
  bl : env.builtins = builtinsNs
  loc : env.locals = L
  kind : sc.kind = .function
section
variable {K : Cfg} {M : Model} {A : Around} {E : Value → Shared → Prop} {s : Shared} {env : Env} {sc : Scope} {L : Addr} {m : Str → Option Value} {h₀ : Heap}
theorem m_loc (W : MEnv env sc L) {n : Str} {p : Pos} {v : Value} {Q : Value → Shared → Prop} (F : Fr h₀ L s.heap m) (hk : sc.names.lookup n = some .local) (hv : m n = some v) (h : Q v s) (hd : (n == ("__debug__" : Str)) = false := by decide) :
    wpAny M A (eval (.Name n p) env) Q E s :=
  wpAny_Name (wpAny_loadName_local (by rw [W.scE]; exact W.kind) (by unfold Env.kindOf; rw [W.scE]; exact hk) (by rw [W.loc]; exact F.ns) hv h) hd
theorem m_glob (Bs : Base K) (W : MEnv env sc L) {n : Str} {p : Pos} {v : FV} {Q : Value → Shared → Prop} (st : K.base.StaysIn s.heap) (hk : sc.names.lookup n = some .globalImplicit) (hg : gtab n = some v) (h : ∀ x, RV K K.base N0 v x → Q x s) (hd : (n == ("__debug__" : Str)) = false := by decide) :
    wpAny M A (eval (.Name n p) env) Q E s := by
  obtain ⟨x, e, r⟩ := gt_ok Bs n v hg
  refine Calls.Name_function_global (by rw [W.scE]; exact W.kind) (by unfold Env.kindOf; rw [W.scE]; exact hk) (Calls.loadGlobal_global (mg := K.mg) ?_ e (h x r)) hd
  rw [W.gl]; exact Bs.g.keeps st
theorem m_blt (Bs : Base K) (W : MEnv env sc L) {n : Str} {p : Pos} {v : Value} {Q : Value → Shared → Prop} (st : K.base.StaysIn s.heap) (hk : sc.names.lookup n = some .globalImplicit) (hg : btab n = some v) (h : Q v s) (hd : (n == ("__debug__" : Str)) = false := by decide) :
    wpAny M A (eval (.Name n p) env) Q E s := by
  obtain ⟨e1, e2⟩ := bt_ok Bs n v hg
  refine Calls.Name_function_global (by rw [W.scE]; exact W.kind) (by unfold Env.kindOf; rw [W.scE]; exact hk) (Calls.loadGlobal_builtin (mg := K.mg) (mb := K.mb) ?_ e1 ?_ e2 h) hd
  · rw [W.gl]; exact Bs.g.keeps st
  · rw [W.bl]; exact Bs.b.keeps st
theorem isi_str {prog : Program} {w : World} (Bs : Base K) {y : Str} {t : Tok} {c : Value} {b : Bool} {Q : Value → Shared → Prop} (st : K.base.StaysIn s.heap) (e : kitOne (kF K.w.params) (.type "str") c = some b) (h : ∀ tk, Q (.bool b) { s with toks := tk }) :
    wpAny (model prog w) A (call (.builtin "isinstance") [.str y t, c]) Q E s := kia_one kitx_str (Bs.inn.keeps st) trivial e (by intro q; cases q) h
theorem kit_s1 {P : Params} : kitOne (kF P) (.type "str") (.ref 196) = some false := by kernel_rfl
theorem kit_s2 {P : Params} : kitOne (kF P) (.type "str") (.type "str") = some true := by kernel_rfl

theorem init_run (Bs : Base K) {x dx : Addr} {y : Str} {t : Tok} {R : Result → Shared → Prop} (st₀ : K.base.StaysIn h₀) (keep₀ : ∀ b o, h₀.get? b = some o → s.heap.get? b = some o) (hsz : h₀.objs.size ≤ s.heap.objs.size)
    (nx : h₀.get? x = none) (nd : h₀.get? dx = none) (hx : s.heap.get? x = some (instObj 196 dx)) (hd : s.heap.get? dx = some emptyDict) (hne : x ≠ dx) (hA : A.depth < recursionLimit)
    (h : ∀ h' tk es n, (∀ b o, h₀.get? b = some o → h'.get? b = some o) → h'.get? x = some (instObj 196 dx) → h'.get? dx = some (dictOf es n) → (∃ t, lookIn (Str.ofString "text") (dictOf es n) = some (some (.str y t))) →
      lookIn (Str.ofString "_scope") (dictOf es n) = some (some .none) → R (.ok (.ret .none)) { s with heap := h', toks := tk }) :
    codeAny (model K.prog K.w) A (.call (.ref 171) ⟨[.ref x, .str y t], []⟩) R s := by
  have X₀ : (kF K.w.params).In h₀ := Bs.inn.keeps st₀
  have X : (kF K.w.params).In s.heap := X₀.keeps keep₀
  have lim : s.heap.NoLimit := (Bs.lim.keeps st₀).keeps keep₀
  refine codeAny_call_function (fd := fd171) hA (X _ _ l171) rfl c171 g171 rfl (codeRec_of X cd171) ?_
  obtain ⟨k, e1, e2⟩ := bind171 (.ref x) (.str y t)
  rw [e1]
  refine wpAny_bind (wpAny_seqItems (X _ _ l164) rfl ?_)
  rw [e2]
  refine wpAny_bind (wpAny_alloc (wpAny_pure ?_))
  refine wpAny_newFunctionEnv ?_ ?_ (fun h₁ hns hsb => ⟨?_, codeAny_func ?_⟩) k171
  · show ∀ z ∈ pr171.2.2.names, z.2 ≠ .cell
    rw [n171]; decide
  · show ∀ z ∈ [(Str.ofString "self", Value.ref x), (Str.ofString "code", Value.str y t), (Str.ofString "scope", Value.none), (Str.ofString "kwargs", Value.ref s.heap.objs.size)], pr171.2.2.names.lookup z.1 = some .local
    rw [n171]
    intro z hz
    simp only [List.mem_cons, List.mem_nil_iff, or_false] at hz
    rcases hz with rfl | rfl | rfl | rfl <;> rfl
  · exact (lim.keeps (fun b o e => Heap.get?_push_of_some _ e)).fresh _ hsb
  · have up : ∀ b o, (s.heap.push emptyDict).get? b = some o → h₁.get? b = some o := fun b o e => hsb.extBut b o (Nat.ne_of_lt (Heap.lt_size e)) (Heap.get?_push_of_some _ e)
    have up0 : ∀ b o, s.heap.get? b = some o → h₁.get? b = some o := fun b o e => up b o (Heap.get?_push_of_some _ e)
    generalize hL : (s.heap.push emptyDict).objs.size = L at hns ⊢
    have hLs : L = s.heap.objs.size + 1 := by rw [← hL, Heap.size_push]
    generalize hm : (fun z => [(Str.ofString "self", Value.ref x), (Str.ofString "code", .str y t), (Str.ofString "scope", .none), (Str.ofString "kwargs", .ref s.heap.objs.size)].reverse.lookup z) = m at hns
    have F : Fr h₀ L h₁ m := ⟨hns, fun b o e => up0 b o (keep₀ b o e), by omega⟩
    have hDn : h₀.get? s.heap.objs.size = none := Heap.get?_none_of_le hsz
    have lx := Heap.lt_size hx
    have ld' := Heap.lt_size hd
    have N : News h₀ L h₁ [(x, instObj 196 dx), (dx, emptyDict), (s.heap.objs.size, emptyDict)] := by
      intro p hp
      simp only [List.mem_cons, List.mem_nil_iff, or_false] at hp
      rcases hp with rfl | rfl | rfl
      · exact ⟨up0 _ _ hx, hLs ▸ Nat.ne_of_lt (Nat.lt_succ_of_lt lx), nx⟩
      · exact ⟨up0 _ _ hd, hLs ▸ Nat.ne_of_lt (Nat.lt_succ_of_lt ld'), nd⟩
      · exact ⟨up _ _ (Heap.get?_push_size _ rfl), hLs ▸ Nat.ne_of_lt (Nat.lt_succ_self _), hDn⟩
    obtain ⟨p1, p2, p3, p4, p5, p6, p7, p8, p9, p10, p11, p12, p13, p14, p15, p16, p17, p18, p19, p20, p21, p22, p23, p24, p25, b1, b2, b3, b4, hb⟩ := b171
    have W : MEnv (newEnv fd171.scope L fd171.globals fd171.closure (fd171.qualname ++ ".<locals>.") (some 171) fd171.code none fd171.builtins) pr171.2.2 L := ⟨rfl, rfl, rfl, rfl, k171⟩
    generalize newEnv fd171.scope L fd171.globals fd171.closure (fd171.qualname ++ ".<locals>.") (some 171) fd171.code none fd171.builtins = env at W ⊢
    have ks : pr171.2.2.names.lookup (Str.ofString "self") = some .local := by rw [n171]; rfl
    have kc : pr171.2.2.names.lookup (Str.ofString "code") = some .local := by rw [n171]; rfl
    have ksc : pr171.2.2.names.lookup (Str.ofString "scope") = some .local := by rw [n171]; rfl
    have kk : pr171.2.2.names.lookup (Str.ofString "kwargs") = some .local := by rw [n171]; rfl
    have ki : pr171.2.2.names.lookup (Str.ofString "isinstance") = some .globalImplicit := by rw [n171]; rfl
    have kC : pr171.2.2.names.lookup (Str.ofString "Code") = some .globalImplicit := by rw [n171]; rfl
    have kS : pr171.2.2.names.lookup (Str.ofString "str") = some .globalImplicit := by rw [n171]; rfl
    have vs : m (Str.ofString "self") = some (.ref x) := by rw [← hm]; rfl
    have vc : m (Str.ofString "code") = some (.str y t) := by rw [← hm]; rfl
    have vsc : m (Str.ofString "scope") = some .none := by rw [← hm]; rfl
    have vk : m (Str.ofString "kwargs") = some (.ref s.heap.objs.size) := by rw [← hm]; rfl
    rw [hb]
    have hDd : s.heap.objs.size ≠ dx := fun q => Nat.lt_irrefl _ (q ▸ ld')
    have hg : gtab (Str.ofString "Code") = some (.gl 100) := rfl
    have hbi : btab (Str.ofString "isinstance") = some (.builtin "isinstance") := by decide
    have hbs : btab (Str.ofString "str") = some (.type "str") := by decide
    have eC : K.G 100 = .ref 196 := Bs.G ▸ rfl
    -- self._scope = None
    refine wpAny_execs_cons (plainObj_wpAny_Assign_Attribute (wpAny_of_eq (a := Value.none) rfl (m_loc W F ks vs (set_dict (es := []) (n := 0) F X₀ N ⟨up0 _ _ hx, rfl, rfl, up0 _ _ hd⟩ rfl f_seta po196 tk_scope c_hd rfl rfl
      (.tail hne (.head fun p hp => by rw [List.mem_singleton] at hp; rw [hp]; exact hDd)) (Nat.le_of_ble_eq_true rfl) fun h₂ F₂ N₂ => ?_))))
    dsimp only
    have st₂ : K.base.StaysIn h₂ := fun b o e => F₂.keep b o (st₀ b o e)
    -- if isinstance(code, Code)
    refine wpAny_execs_cons (wpAny_If (tr_of rfl (isi_eval rfl rfl (m_blt Bs W st₂ ki hbi ⟨rfl, m_loc W F₂ kc vc (m_glob Bs W st₂ kC hg fun v rv => ?_)⟩))))
    have rv' : v = K.G 100 := rv
    rw [rv', eC]
    refine isi_str Bs st₂ kit_s1 fun tk₁ => wpAny_truthy_bool ?_
    rw [if_neg Bool.false_ne_true]
    refine wpAny_execs_nil ?_
    dsimp only
    -- if not isinstance(code, str)
    refine wpAny_execs_cons (wpAny_If (tr_not (tr_of rfl (isi_eval rfl rfl (m_blt Bs W st₂ ki hbi ⟨rfl, m_loc W F₂ kc vc (m_blt Bs W st₂ kS hbs ?_)⟩)))))
    refine isi_str Bs st₂ kit_s2 fun tk₂ => wpAny_truthy_bool ?_
    rw [if_neg (by decide)]
    refine wpAny_execs_nil ?_
    dsimp only
    -- self.text = code
    refine wpAny_execs_cons (plainObj_wpAny_Assign_Attribute (m_loc W F₂ kc vc (m_loc W F₂ ks vs (set_dict F₂ X₀ N₂ ⟨(N₂ _ (.head _)).1, rfl, rfl, (N₂ _ (.tail _ (.head _))).1⟩ rfl f_seta po196 tk_text c_hd rfl rfl
      (.tail hne (.head fun p hp => by rw [List.mem_singleton] at hp; rw [hp]; exact hDd)) (Nat.le_of_ble_eq_true rfl) fun h₃ F₃ N₃ => ?_))))
    dsimp only
    -- if scope is not None
    refine wpAny_execs_cons (wpAny_If (tr_isNot_none (m_loc W F₃ ksc vsc ⟨rfl, ?_⟩)))
    rw [if_neg Bool.false_ne_true]
    refine wpAny_execs_nil ?_
    dsimp only
    -- if kwargs
    have D₃ := (N₃ _ (.tail _ (.tail _ (.head _)))).1
    refine wpAny_execs_cons (wpAny_If (tr_of rfl (m_loc W F₃ kk vk (wpAny_truthy_dict (knd := strKind K.prog K.w) (kvs := []) ?_ ⟨_, #[], 0, D₃, ⟨rfl, rfl, rfl⟩, rfl, ?_, ?_, List.nodup_nil⟩ (by decide) ?_))))
    · rw [beq_eq_false_iff_ne]
      have := Heap.lt_size (X _ _ l171)
      have h2 : sysModules ≤ 171 := by decide
      exact fun q => Nat.lt_irrefl _ (Nat.lt_of_lt_of_le this (q ▸ h2))
    · intro e he; simp at he
    · first | trivial | exact rfl | constructor
    · rw [if_neg (by decide)]
      refine wpAny_execs_nil ?_
      dsimp only
      refine wpAny_execs_nil ?_
      exact h _ _ _ _ F₃.keep (N₃ _ (.head _)).1 (N₃ _ (.tail _ (.head _))).1 ⟨_, rfl⟩ rfl
end
end Mine
end

section
open PySem PySem.W PySem.Calls PyProof.Rows
namespace Mine
theorem tc_weight (as : Args) : (Code.builtin "type.__call__" as).weight ≤ 1 := by
  have h1 : (Code.builtin "type.__call__" as).isGuard = false := by simp [Code.isGuard, guardIds]
  have h2 : (Code.builtin "type.__call__" as).isCaller = false := by simp [Code.isCaller]
  have h3 : (Code.builtin "type.__call__" as).frames = 0 := by simp [Code.frames, Code.isFrame]
  unfold Code.weight
  rw [h1, h2, h3]
  split <;> simp
section
variable {K : Cfg} {A : Around} {fe : Env} {outer : List Env} {B : Addr → Prop} {s : Shared}
theorem mkCode_ok (Bs : Base K) {n : Nat} {v : FV} {x : Value} (I : Inv K A fe outer B s.heap) (rm : Room A n) (r : RV K s.heap B v x) : Ends K A (frsOf fe outer) B (evP .mkCode [v]) s (call (K.G 100) [x]) := by
  cases v with
  | str y =>
    obtain ⟨sz, t, rfl⟩ := r
    have X := Bs.inn.keeps I.stay
    rw [show K.G 100 = .ref 196 from Bs.G ▸ rfl]
    refine .mk fun Q E k => wpAny_call ?_
    obtain ⟨hh, g, d, tk, os⟩ := s
    refine make_core (makes_of X mk196) (looks_findIn X f_init) (fun self => bind_fn X self t_init) (.inl rfl) ?_
    have up : ∀ b o, hh.get? b = some o → ((hh.push emptyDict).push (instObj 196 hh.objs.size)).get? b = some o := fun b o e => Heap.get?_push_of_some _ (Heap.get?_push_of_some _ e)
    have hx : ((hh.push emptyDict).push (instObj 196 hh.objs.size)).get? (hh.objs.size + 1) = some (instObj 196 hh.objs.size) := by
      have := Heap.get?_push_size (hh.push emptyDict) (o := instObj 196 hh.objs.size) rfl
      rwa [Heap.size_push] at this
    have hd : ((hh.push emptyDict).push (instObj 196 hh.objs.size)).get? hh.objs.size = some emptyDict := Heap.get?_push_of_some _ (Heap.get?_push_size _ rfl)
    refine init_run (s := ⟨(hh.push emptyDict).push (instObj 196 hh.objs.size), g, d, tk, os⟩) (h₀ := hh) Bs I.stay up ?_ (Heap.get?_none_of_le (Nat.le_succ _)) (Heap.get?_none_of_le (Nat.le_refl _)) hx hd (Nat.succ_ne_self _) ?_ fun h' tk' es m hk h1 h2 ht hs => ?_
    · show hh.objs.size ≤ ((hh.push emptyDict).push (instObj 196 hh.objs.size)).objs.size
      rw [Heap.size_push, Heap.size_push]; omega
    · have := rm.depth
      have h2 := tc_weight ⟨[.ref 196, .str y t], []⟩
      show A.depth + (Code.builtin "type.__call__" ⟨[.ref 196, .str y t], []⟩).weight < 1000
      omega
    · refine ⟨rfl, ?_⟩
      refine k (.ref (hh.objs.size + 1)) h' tk' (Kp.of_keep hk) ⟨sz, _, rfl, ?_, hh.objs.size, es, m, ?_, ?_, h2, ht, hs⟩
      · intro q
        obtain ⟨o, ho⟩ := (I.bb _ q).2
        exact absurd (Heap.lt_size ho) (by show ¬ (hh.objs.size + 1 < hh.objs.size); omega)
      · intro q
        obtain ⟨o, ho⟩ := (I.bb _ q).2
        exact absurd (Heap.lt_size ho) (Nat.lt_irrefl _)
      · rw [h1, Bs.cc]
  | _ => trivial
end
end Mine
end

section
open PySem PySem.W PySem.Calls PyProof.Rows
namespace Mine
theorem b186 : ∃ (p1 p2 p3 p4 p5 p6 p7 p8 p9 p10 p11 p12 p13 p14 p15 p16 p17 p18 p19 p20 : Pos), pr186.2.1 =
  [.If (.Call (.Name (Str.ofString "isinstance") p1) [.Name (Str.ofString "other") p2, .Name (Str.ofString "Code") p3] [] p4)
     [.Return (some (.Compare (.Tuple [.Attribute (.Name (Str.ofString "self") p5) (Str.ofString "_scope") p6, .Attribute (.Name (Str.ofString "self") p7) (Str.ofString "text") p8] 0 p9) [.Eq]
       [.Tuple [.Attribute (.Name (Str.ofString "other") p10) (Str.ofString "_scope") p11, .Attribute (.Name (Str.ofString "other") p12) (Str.ofString "text") p13] 0 p14] p15)) p16] [] p17,
   .Return (some (.Constant (.bool false) 0 p18)) p19] := ⟨_, _, _, _, _, _, _, _, _, _, _, _, _, _, _, _, _, _, _, ⟨1, 1, 1, 1⟩, by with_unfolding_all rfl⟩
theorem n186 : pr186.2.2.names = [(Str.ofString "self", .local), (Str.ofString "other", .local), (Str.ofString "isinstance", .globalImplicit), (Str.ofString "Code", .globalImplicit)] := by with_unfolding_all rfl
theorem k186 : pr186.2.2.kind = .function := by with_unfolding_all rfl
theorem c186 : pr186.2.2.isCoroutine = false := by with_unfolding_all rfl
theorem g186 : pr186.2.2.isGenerator = false := by with_unfolding_all rfl
section
variable {P : Params}
theorem l186 : (kF P).lookup 186 = some ob186 := by kernel_rfl
theorem cd186 : codeIn (kF P) (.ref 185) (sg [67, 111, 100, 101, 46, 95, 95, 101, 113, 95, 95]) = true := by kernel_rfl
theorem f_eq : findIn (kF P) (.ref 196) (cmpInfo .Eq).2.1 = some (some (.ref 186)) := by kernel_rfl
theorem i_eq : isFn (kF P) (.ref 186) = true := by kernel_rfl
theorem kit_cC : kitOne (kF P) (.ref 196) (.ref 196) = some true := by kernel_rfl
end

theorem wpAny_of_form {α : Type} {M : Model} {A : Around} {t t' : Sem α} {Q : α → Shared → Prop} {E : Value → Shared → Prop} {s : Shared} (e : t = t') (h : wpAny M A t' Q E s) : wpAny M A t Q E s := e ▸ h
theorem inst_up {h h' : Heap} {x C : Addr} {ox : Obj} {od : Obj} (up : ∀ b o, h.get? b = some o → h'.get? b = some o) (I : InstAt h x ox C (some od)) : InstAt h' x ox C (some od) :=
  ⟨up _ _ I.at_, I.cls, I.no, by
    have := I.dict
    cases q : ox.dict with
    | none => rw [q] at this; exact this.elim
    | some dx => rw [q] at this; exact up _ _ this⟩
section
variable {K : Cfg} {A : Around} {fe : Env} {outer : List Env} {B : Addr → Prop} {s : Shared}
theorem tup_code {env : Env} {sc : Scope} {L : Addr} {m : Str → Option Value} {h₀ : Heap} {E : Value → Shared → Prop} {P : Params} {prog : Program} {w : World} (W : MEnv env sc L) (F : Fr h₀ L s.heap m) (X₀ : (kF P).In h₀) {a : Addr} {ox : Obj} {es : List DictEntry} {k : Nat} {y : Str} {t : Tok} (I : InstAt h₀ a ox 196 (some (dictOf es k)))
    (T : lookIn (Str.ofString "text") (dictOf es k) = some (some (.str y t))) (S : lookIn (Str.ofString "_scope") (dictOf es k) = some (some .none)) {n : Str} {p1 p2 p3 p4 p5 : Pos} (hk : sc.names.lookup n = some .local) (hv : m n = some (.ref a)) (hd : (n == ("__debug__" : Str)) = false) {Q : Value → Shared → Prop}
    (h : Q (.ref s.heap.objs.size) { s with heap := s.heap.push { cls := .type "tuple", data := .seq [Value.none, .str y t].toArray }, toks := s.toks + 1 + 1 }) :
    wpAny (model prog w) A (eval (.Tuple [.Attribute (.Name n p1) (Str.ofString "_scope") p2, .Attribute (.Name n p3) (Str.ofString "text") p4] 0 p5) env) Q E s := by
  rw [arm_eval_Tuple]
  refine wpAny_bind (wpAny_standAt (wpAny_bind ?_))
  have es : starEach [.Attribute (.Name n p1) (Str.ofString "_scope") p2, .Attribute (.Name n p3) (Str.ofString "text") p4] env = [(false, eval (.Attribute (.Name n p1) (Str.ofString "_scope") p2) env), (false, eval (.Attribute (.Name n p3) (Str.ofString "text") p4) env)] := rfl
  rw [es]
  have X := X₀.keeps F.keep
  have J := inst_up F.keep I
  exact Calls.spliced_cons (Attribute_name (m_loc W F hk hv (get_value X J (plainGet_of (pg196 (n := Str.ofString "_scope"))).1 (findObj_own c_hd f_scope_ rfl S) rfl
    (Calls.spliced_cons (Attribute_name (m_loc W F hk hv (get_value X J (plainGet_of (pg196 (n := Str.ofString "text"))).1 (findObj_own c_hd f_text rfl T) rfl (Calls.spliced_nil (wpAny_newTuple h))) hd)))) hd))
theorem eq_run (Bs : Base K) {a b : Addr} {y1 y2 : Str} {t1 t2 : Tok} {ox1 ox2 : Obj} {es1 es2 : List DictEntry} {n1 n2 : Nat} {R : Result → Shared → Prop} (st : K.base.StaysIn s.heap) (hA : A.depth < recursionLimit) (hu : A.units + 10 < cLine)
    (I1 : InstAt s.heap a ox1 196 (some (dictOf es1 n1))) (T1 : lookIn (Str.ofString "text") (dictOf es1 n1) = some (some (.str y1 t1))) (S1 : lookIn (Str.ofString "_scope") (dictOf es1 n1) = some (some .none))
    (I2 : InstAt s.heap b ox2 196 (some (dictOf es2 n2))) (T2 : lookIn (Str.ofString "text") (dictOf es2 n2) = some (some (.str y2 t2))) (S2 : lookIn (Str.ofString "_scope") (dictOf es2 n2) = some (some .none))
    (h : ∀ h' tk, (∀ b o, s.heap.get? b = some o → h'.get? b = some o) → R (.ok (.ret (.bool (decide (y1 = y2))))) { s with heap := h', toks := tk }) :
    codeAny (model K.prog K.w) A (.call (.ref 186) ⟨[.ref a, .ref b], []⟩) R s := by
  have X₀ : (kF K.w.params).In s.heap := Bs.inn.keeps st
  have lim : s.heap.NoLimit := Bs.lim.keeps st
  refine codeAny_call_def (body := pr186.2.1) (binds := [(Str.ofString "self", .ref a), (Str.ofString "other", .ref b)]) hA (X₀ _ _ l186) rfl lim (codeRec_of X₀ cd186) rfl (BindsTo.of_eq (by with_unfolding_all rfl)) ?_ ?_ (fun h₁ hns hk₁ => ?_) c186 g186 k186
  · show ∀ z ∈ pr186.2.2.names, z.2 ≠ .cell
    rw [n186]; decide
  · show ∀ z ∈ [(Str.ofString "self", Value.ref a), (Str.ofString "other", Value.ref b)], pr186.2.2.names.lookup z.1 = some .local
    rw [n186]
    intro z hz
    simp only [List.mem_cons, List.mem_nil_iff, or_false] at hz
    rcases hz with rfl | rfl <;> rfl
  · generalize hL : s.heap.objs.size = L at hns ⊢
    generalize hm : (fun z => [(Str.ofString "self", Value.ref a), (Str.ofString "other", Value.ref b)].reverse.lookup z) = m at hns
    have F : Fr s.heap L h₁ m := ⟨hns, hk₁, Nat.le_of_eq hL⟩
    obtain ⟨p1, p2, p3, p4, p5, p6, p7, p8, p9, p10, p11, p12, p13, p14, p15, p16, p17, p18, p19, p20, hb⟩ := b186
    have W : MEnv (callEnv (fnOf (sg [95, 95, 101, 113, 95, 95]) (sg [67, 111, 100, 101, 46, 95, 95, 101, 113, 95, 95]) (pr186).1 (pr186).2.1 (pr186).2.2 (.none) (.none) (.none) (.str (sg [98, 115, 111, 110, 46, 99, 111, 100, 101]) 432) none (.ref 185) (.none)) L 186) pr186.2.2 L := ⟨rfl, rfl, rfl, rfl, k186⟩
    generalize callEnv (fnOf (sg [95, 95, 101, 113, 95, 95]) (sg [67, 111, 100, 101, 46, 95, 95, 101, 113, 95, 95]) (pr186).1 (pr186).2.1 (pr186).2.2 (.none) (.none) (.none) (.str (sg [98, 115, 111, 110, 46, 99, 111, 100, 101]) 432) none (.ref 185) (.none)) L 186 = env at W ⊢
    have ks : pr186.2.2.names.lookup (Str.ofString "self") = some .local := by rw [n186]; rfl
    have ko : pr186.2.2.names.lookup (Str.ofString "other") = some .local := by rw [n186]; rfl
    have ki : pr186.2.2.names.lookup (Str.ofString "isinstance") = some .globalImplicit := by rw [n186]; rfl
    have kC : pr186.2.2.names.lookup (Str.ofString "Code") = some .globalImplicit := by rw [n186]; rfl
    have vs : m (Str.ofString "self") = some (.ref a) := by rw [← hm]; rfl
    have vo : m (Str.ofString "other") = some (.ref b) := by rw [← hm]; rfl
    have hg : gtab (Str.ofString "Code") = some (.gl 100) := rfl
    have hbi : btab (Str.ofString "isinstance") = some (.builtin "isinstance") := by decide
    have eC : K.G 100 = .ref 196 := Bs.G ▸ rfl
    have st₁ : K.base.StaysIn h₁ := fun b o e => F.keep b o (st b o e)
    rw [hb]
    refine wpAny_execs_cons (wpAny_If (tr_of rfl (isi_eval rfl rfl (m_blt Bs W st₁ ki hbi ⟨rfl, m_loc W F ko vo (m_glob Bs W st₁ kC hg fun v rv => ?_)⟩))))
    have rv' : v = K.G 100 := rv
    rw [rv', eC]
    refine kia_one (kitx_own (ox := ox2) (od := dictOf es2 n2) c_pg c_hd c_fc c_sp c_tk c_mo) (X₀.keeps F.keep) (inst_up F.keep I2) kit_cC (by intro q; cases q) fun tk₁ => wpAny_truthy_bool ?_
    rw [if_pos rfl]
    refine wpAny_execs_cons (wpAny_Return_some ?_)
    have em : ∀ r, markedEach [.Eq] [.Tuple r 0 p14] (evalEach [.Tuple r 0 p14] env) = [eval (.Tuple r 0 p14) env] := fun r => rfl
    rw [arm_eval_Compare, em]
    refine wpAny_bind (tup_code W F X₀ I1 T1 S1 ks vs (by decide) ?_)
    refine wpAny_of_form (t' := (holding [Value.ref h₁.objs.size] (eval (.Tuple [.Attribute (.Name (Str.ofString "other") p10) (Str.ofString "_scope") p11, .Attribute (.Name (Str.ofString "other") p12) (Str.ofString "text") p13] 0 p14) env) >>= fun y => standAt p15 >>= fun _ => operate [Value.ref h₁.objs.size, y] (compareOp .Eq (.ref h₁.objs.size) y))) rfl ?_
    refine wpAny_bind (wpAny_holding (tup_code (s := { s with heap := h₁.push { cls := .type "tuple", data := .seq [Value.none, .str y1 t1].toArray }, toks := tk₁ + 1 + 1 }) W (F.push _) X₀ I2 T2 S2 ko vo (by decide) ?_))
    refine wpAny_bind (wpAny_standAt (wpAny_operateT ?_))
    have g1 : ((h₁.push { cls := .type "tuple", data := .seq [Value.none, .str y1 t1].toArray }).push { cls := .type "tuple", data := .seq [Value.none, .str y2 t2].toArray }).get? h₁.objs.size = some { cls := .type "tuple", data := .seq [Value.none, .str y1 t1].toArray } := Heap.get?_push_of_some _ (Heap.get?_push_size _ rfl)
    have g2 : ((h₁.push { cls := .type "tuple", data := .seq [Value.none, .str y1 t1].toArray }).push { cls := .type "tuple", data := .seq [Value.none, .str y2 t2].toArray }).get? (h₁.push { cls := .type "tuple", data := .seq [Value.none, .str y1 t1].toArray }).objs.size = some { cls := .type "tuple", data := .seq [Value.none, .str y2 t2].toArray } := Heap.get?_push_size _ rfl
    refine PySem.SeqAt.eq_tupleAt (e := fun j => if j = 0 then true else decide (y1 = y2)) ⟨_, g1, rfl, _, rfl⟩ ⟨_, g2, rfl, _, rfl⟩ (by show A.units + 3 < cLine; omega) (fun j j1 j2 => ?_) ?_
    · match j, j1 with
      | 0, _ => exact PySem.SeqAt.EqAt.same _
      | 1, _ => exact PySem.SeqAt.EqAt.str_str y1 t1 y2 t2
    · have hr : ((List.range (min 2 2)).all (fun j => if j = 0 then true else decide (y1 = y2)) && 2 == 2) = decide (y1 = y2) := by
        simp [List.range, List.range.loop]
      show R (.ok (.ret (.bool ((List.range (min 2 2)).all (fun j => if j = 0 then true else decide (y1 = y2)) && 2 == 2)))) _
      rw [hr]
      exact h _ _ fun b o e => Heap.get?_push_of_some _ (Heap.get?_push_of_some _ (F.keep b o e))
theorem cmp_code {prog : Program} {w : World} {E : Value → Shared → Prop} {Q : Value → Shared → Prop} {P : Params} {x : Addr} {ox : Obj} {od : Obj} {b : Value} (X : (kF P).In s.heap) (hu : A.units < cLine) (I : InstAt s.heap x ox 196 (some od)) (hb : Looks (model prog w) s.heap (typeOf b) (.ref 196))
    (h : wpAny (model prog w) A (call (.ref 186) [.ref x, b]) (PySem.W.CmpBack Q) E s) : wpAny (model prog w) A (richCompare .Eq (.ref x) b) Q E s := by
  have one : wpAny (model prog w) A (tryCompare (.ref x) (cmpInfo .Eq).2.1 b) (fun r s' => ∃ v, r = some v ∧ Q v s') E s := by
    unfold tryCompare
    refine wpAny_bind (ifBound_K X I f_eq i_eq (wpAny_mono h (fun v s' hv => ?_) fun _ _ e => e))
    cases v <;> first | exact hv.elim | exact wpAny_pure ⟨_, rfl, hv⟩
  unfold richCompare
  simp only [oneThing_ref]
  refine wpAny_holding (wpAny_bind (wpAny_cRoomFor hu ?_))
  refine wpAny_bind (I.type.here (wpAny_bind (hb.here ?_)))
  split
  · rename_i q
    simp at q
  · refine wpAny_bind (wpAny_pure ?_)
    simp only [Bool.false_eq_true, if_false]
    refine wpAny_bind (wpAny_mono one (fun r s' z => ?_) fun _ _ e => e)
    obtain ⟨v, rfl, hq⟩ := z
    exact wpAny_pure hq
theorem eqCode_ok (Bs : Base K) {n : Nat} {p q : Str} {x y : Value} (I : Inv K A fe outer B s.heap) (rm : Room A n) (rx : RV K s.heap B (.code p) x) (ry : RV K s.heap B (.code q) y) : Ends K A (frsOf fe outer) B (.ok (.bool (decide (p = q)))) s (compareOp .Eq x y) := by
  obtain ⟨_, a, rfl, _, r1⟩ := rx
  obtain ⟨_, b, rfl, _, r2⟩ := ry
  obtain ⟨d1, es1, n1, t1, ha, J1, T1, S1⟩ := inst_code Bs r1
  obtain ⟨d2, es2, n2, t2, hb, J2, T2, S2⟩ := inst_code Bs r2
  have ru := rm.units
  have rd := rm.depth
  refine .mk fun Q E k => ?_
  show wpAny _ _ (richCompare .Eq (.ref a) (.ref b)) _ _ _
  refine cmp_code (Bs.inn.keeps I.stay) rm.line J1 J2.type (wpAny_call ?_)
  refine eq_run Bs I.stay (by show A.depth < 1000; omega) (by show A.units + 10 < 9900; omega) J1 T1 S1 J2 T2 S2 fun h' tk hk => ?_
  exact k _ h' tk (Kp.of_keep hk) rfl
end
end Mine
end

section
open PySem PySem.W PySem.Calls PyProof.Rows
namespace Mine
section
variable {K : Cfg}
theorem ok_of (Bs : Base K) : Ok K where
  g := Bs.g
  b := Bs.b
  gt := gt_ok Bs
  bt := bt_ok Bs
  gNone := gNone_ok Bs
  isi := fun I r rc e => isi_ok Bs I r rc e
  isiT := fun I r ht rs _ e => isiT_ok Bs I r ht rs e
  eqCode := fun I rm rx ry => eqCode_ok Bs I rm rx ry
  getter := fun I => getterD_ok Bs I
  getterT := fun st => getterT_ok Bs st
  attr := fun I rm r => attr_ok Bs I rm r
  mkCode := fun I rm r => mkCode_ok Bs I rm r
  keepCode := keepCode_ok Bs
  fbm := fun st q => fbm_ok (Bs.inn.keeps st) q
theorem ok2_of (Bs : Base K) : Ok2 K := ⟨⟨_, Bs.inn _ _ (show (kF K.w.params).lookup 1 = some (ob1 K.w.params) from rfl)⟩⟩
end
end Mine
end

section
open PySem PySem.W PySem.Calls PyProof.Rows
namespace Mine
section
variable {K : Cfg} {A : Around} {s : Shared}
theorem own104_ok (Bs : Base K) : ∃ C, K.G 104 = .ref C ∧ OwnCls (Str.ofString "InvalidBSON") C [.type "Exception", .type "BaseException", .type "object"] "Exception.__new__" K.mg K.base := by
  obtain ⟨C, O⟩ := Bs.own
  obtain ⟨x, e, r⟩ := gt_ok Bs (Str.ofString "InvalidBSON") (.gl 104) rfl
  have r' : x = K.G 104 := r
  have := O.bound
  rw [e] at this
  cases this
  exact ⟨C, r'.symm, O.own⟩
theorem match104_ok (Bs : Base K) {c : EC} {b : Bool} {a : Addr} {o : Obj} {Q : Bool → Shared → Prop} {E : Value → Shared → Prop} (hm : matchT (.own 104) c = some b) (ho : s.heap.get? a = some o) (hc : o.cls = K.G 104) (st : K.base.StaysIn s.heap) (hq : Q b s) :
    wpAny (model K.prog K.w) A (excMatches (.ref a) (clsV K c)) Q E s := by
  obtain ⟨C, hG, O⟩ := own104_ok Bs
  obtain ⟨tl, N, nm0, q, bs, hdct, sn, sub, ab, col, dd, k0, k1, k2, k3, k5, mN, hC, hN, hni, T⟩ := O.obj
  rw [hG] at hc
  obtain ⟨h, g, d, t, os⟩ := s
  have h3 : (c = .own 104 ∧ b = true) ∨ (c = .blt "Exception" ∧ b = true) ∨ (c = .blt "KeyError" ∧ b = false) := by
    unfold matchT at hm
    split at hm <;> simp_all
  rcases h3 with ⟨rfl, rfl⟩ | ⟨rfl, rfl⟩ | ⟨rfl, rfl⟩
  · show wpAny _ _ (excMatches (.ref a) (K.G 104)) _ _ _
    rw [hG]
    exact wpAny_excMatches_sub_self (st _ _ hC) ho hc (T.hasType (by decide)) hq
  · refine wpAny_excMatches_sub_type (T := "Exception") (st _ _ hC) ho hc (by rw [isSubtype_type]; kernel_rfl) (by kernel_rfl) ?_
    rw [T.hasType (X := "Exception") (b := true) (by decide)]
    exact hq
  · refine wpAny_excMatches_sub_type (T := "KeyError") (st _ _ hC) ho hc (by rw [isSubtype_type]; kernel_rfl) (by kernel_rfl) ?_
    rw [T.hasType (X := "KeyError") (b := false) (by decide)]
    exact hq
end
end Mine
end

section
open PySem PySem.W PySem.Calls PyProof.Rows
namespace Mine
section
variable {K : Cfg}
theorem fnAt_of (Bs : Base K) {i : Nat} {f : Fn} {nm : String} {pr : Arguments × List Stmt × Scope} (hdef : (defOf q0 (Str.ofString nm)).map (fun x => (x.1.params, x.1.body, x.1.scope, x.2)) = some (pr.1, pr.2.1, pr.2.2, [])) (hg : gtab (Str.ofString nm) = some (.gl i)) (hdf : pr.1.defaults = [])
    (hbind : ∀ vals : List Value, vals.length = f.np → ∀ pm cd doc, bindArgs (docDef (Str.ofString nm) pr.1 pr.2.1 pr.2.2 pm cd doc) ⟨vals, []⟩ = pure (((nmT i).vs.take f.np).zip vals))
    (hk : pr.2.2.kind = .function) (hco : pr.2.2.isCoroutine = false) (hge : pr.2.2.isGenerator = false) (hnd : (nmT i).vs.Nodup) (hlen : (nmT i).vs.length = f.nv) (hnp : f.np ≤ f.nv) (hkinds : ∀ n ∈ (nmT i).vs.take f.np, sName pr.2.2 n)
    (hcy : (chkB 100 (nmT i) pr.2.2 (plF i) pr.2.1 f.body).isSome = true) (hdf0 : f.dflt = []) : ∃ fd body nm, FnAt K i f fd body nm := by
  obtain ⟨⟨d, kwd⟩, hd, e⟩ := Option.map_eq_some_iff.mp hdef
  simp only [Prod.mk.injEq] at e
  obtain ⟨e1, e2, e3, e4⟩ := e
  obtain ⟨a, o, pm, cd, doc, dV, kV, h1, h2, h3, h4, h5⟩ := Bs.fns _ _ _ hd
  obtain ⟨x, e, r⟩ := gt_ok Bs _ _ hg
  have hG : K.G i = .ref a := by
    rw [h1] at e
    cases e
    exact (show Value.ref a = K.G i from r).symm
  have hdV : dV = .none := by
    rcases h5.pos with ⟨_, q⟩ | ⟨q, _⟩
    · exact q
    · exact absurd (e1 ▸ hdf) q
  have hkV : kV = .none := by
    rcases h5.kw with ⟨_, q⟩ | ⟨q, _⟩
    · exact q
    · exact absurd e4 q
  subst hdV hkV
  have hn : d.name = Str.ofString nm := defOf_name hd
  rw [hn, e1, e2, e3] at h3
  rw [hn] at h4
  refine ⟨docDef (Str.ofString nm) pr.1 pr.2.1 pr.2.2 pm cd doc, pr.2.1, nmT i, ⟨a, o, hG, h2, h3⟩, h4, rfl, rfl, rfl, rfl, hk, hco, hge, fun s vals st q1 q2 => ?_, hnd, rfl, hlen, hnp, hkinds, ((chkB 100 (nmT i) pr.2.2 (plF i) pr.2.1 f.body).get hcy).1, fun M h st => ?_⟩
  · rw [hdf0] at q2 ⊢
    have q3 : vals.length = f.np := by
      have : f.np - vals.length ≤ 0 := q2
      omega
    refine ⟨[], ?_, ?_⟩
    · rw [q3, Nat.sub_self]; exact rfl
    · rw [List.append_nil]
      exact BindsTo.of_eq (hbind vals q3 pm cd doc)
  · rw [hG]
    obtain ⟨oc, od, oda, osl⟩ := o
    dsimp only at h3
    subst h3
    exact ⟨.frame, .inl rfl, (Looks.ld (part := none) (st _ _ h2)).andThen .now⟩
end
theorem len1 {l : List Value} {n : Nat} (h : l.length = n) (e : n = 1) : ∃ a, l = [a] := by subst e; match l, h with | [a], _ => exact ⟨a, rfl⟩
theorem len2 {l : List Value} {n : Nat} (h : l.length = n) (e : n = 2) : ∃ a b, l = [a, b] := by subst e; match l, h with | [a, b], _ => exact ⟨a, b, rfl⟩
theorem len3 {l : List Value} {n : Nat} (h : l.length = n) (e : n = 3) : ∃ a b c, l = [a, b, c] := by subst e; match l, h with | [a, b, c], _ => exact ⟨a, b, c, rfl⟩
theorem len4 {l : List Value} {n : Nat} (h : l.length = n) (e : n = 4) : ∃ a b c d, l = [a, b, c, d] := by subst e; match l, h with | [a, b, c, d], _ => exact ⟨a, b, c, d, rfl⟩
theorem len5 {l : List Value} {n : Nat} (h : l.length = n) (e : n = 5) : ∃ a b c d g, l = [a, b, c, d, g] := by subst e; match l, h with | [a, b, c, d, g], _ => exact ⟨a, b, c, d, g, rfl⟩
theorem len6 {l : List Value} {n : Nat} (h : l.length = n) (e : n = 6) : ∃ a b c d g k, l = [a, b, c, d, g, k] := by subst e; match l, h with | [a, b, c, d, g, k], _ => exact ⟨a, b, c, d, g, k, rfl⟩
end Mine
end

section
open PySem PySem.W PySem.Calls PyProof.Rows
namespace Mine
def prG0 : Arguments × List Stmt × Scope := (prT 162).get (by decide +kernel)
def prG1 : Arguments × List Stmt × Scope := (prT 163).get (by decide +kernel)
def prG2 : Arguments × List Stmt × Scope := (prT 164).get (by decide +kernel)
def prG3 : Arguments × List Stmt × Scope := (prT 165).get (by decide +kernel)
def prG4 : Arguments × List Stmt × Scope := (prT 166).get (by decide +kernel)
def prG5 : Arguments × List Stmt × Scope := (prT 167).get (by decide +kernel)
def prG6 : Arguments × List Stmt × Scope := (prT 168).get (by decide +kernel)
def prG7 : Arguments × List Stmt × Scope := (prT 169).get (by decide +kernel)
def prG8 : Arguments × List Stmt × Scope := (prT 170).get (by decide +kernel)
def prG9 : Arguments × List Stmt × Scope := (prT 171).get (by decide +kernel)
def prG12 : Arguments × List Stmt × Scope := (prT 153).get (by decide +kernel)
def prG13 : Arguments × List Stmt × Scope := (prT 132).get (by decide +kernel)
def prG14 : Arguments × List Stmt × Scope := (prT 101).get (by decide +kernel)
def prG16 : Arguments × List Stmt × Scope := (prT 146).get (by decide +kernel)
def prG17 : Arguments × List Stmt × Scope := (prT 137).get (by decide +kernel)
def prG18 : Arguments × List Stmt × Scope := (prT 133).get (by decide +kernel)
def prG19 : Arguments × List Stmt × Scope := (prT 134).get (by decide +kernel)
def prG20 : Arguments × List Stmt × Scope := (prT 136).get (by decide +kernel)
def prG21 : Arguments × List Stmt × Scope := (prT 145).get (by decide +kernel)
def prG22 : Arguments × List Stmt × Scope := (prT 131).get (by decide +kernel)
def prG23 : Arguments × List Stmt × Scope := (prT 126).get (by decide +kernel)
def prG25 : Arguments × List Stmt × Scope := (prT 125).get (by decide +kernel)
def prG26 : Arguments × List Stmt × Scope := (prT 103).get (by decide +kernel)
def prG27 : Arguments × List Stmt × Scope := (prT 108).get (by decide +kernel)
def prG28 : Arguments × List Stmt × Scope := (prT 96).get (by decide +kernel)
def prG29 : Arguments × List Stmt × Scope := (prT 95).get (by decide +kernel)
def prG30 : Arguments × List Stmt × Scope := (prT 124).get (by decide +kernel)
def prG31 : Arguments × List Stmt × Scope := (prT 123).get (by decide +kernel)
def prG32 : Arguments × List Stmt × Scope := (prT 106).get (by decide +kernel)
def prG33 : Arguments × List Stmt × Scope := (prT 102).get (by decide +kernel)
def prG34 : Arguments × List Stmt × Scope := (prT 100).get (by decide +kernel)
def prG35 : Arguments × List Stmt × Scope := (prT 107).get (by decide +kernel)
def prG36 : Arguments × List Stmt × Scope := (prT 109).get (by decide +kernel)
def prG37 : Arguments × List Stmt × Scope := (prT 110).get (by decide +kernel)
def prG38 : Arguments × List Stmt × Scope := (prT 111).get (by decide +kernel)
def prG39 : Arguments × List Stmt × Scope := (prT 97).get (by decide +kernel)
def prG40 : Arguments × List Stmt × Scope := (prT 115).get (by decide +kernel)
def prG41 : Arguments × List Stmt × Scope := (prT 105).get (by decide +kernel)
def prG43 : Arguments × List Stmt × Scope := (prT 157).get (by decide +kernel)
def nmsG : List String := ["_law_digits", "_law_four", "_law_text", "_law_box", "_law_list", "_law_make", "_law_value", "_law_lay", "_law_like", "law", "_element_to_bson", "_make_name", "_utf_8_encode", "_encode_int", "_encode_text", "_encode_bytes", "_encode_mapping", "_encode_list", "_encode_code", "_make_c_string", "_PACK_INT", "_bson_to_dict", "get_data_and_view", "_get_object_size", "_UNPACK_INT_FROM", "_unpack", "_elements_to_dict", "_element_to_dict", "_get_c_string", "_index_nul", "_utf_8_decode", "_get_string", "_get_object", "_get_array", "_get_binary", "_UNPACK_LENGTH_SUBTYPE_FROM", "_get_code", "_get_int", "is_valid"]
def prsG : List (Arguments × List Stmt × Scope) := [prG0, prG1, prG2, prG3, prG4, prG5, prG6, prG7, prG8, prG9, prG12, prG13, prG14, prG16, prG17, prG18, prG19, prG20, prG21, prG22, prG23, prG25, prG26, prG27, prG28, prG29, prG30, prG31, prG32, prG33, prG34, prG35, prG36, prG37, prG38, prG39, prG40, prG41, prG43]
/-- all the looks at the text's defs at once: the list of the defs is worked out a single time -/
theorem allG : nmsG.map (fun nm => (defOf q0 (Str.ofString nm)).map (fun x => (x.1.params, x.1.body, x.1.scope, x.2))) = prsG.map (fun pr => some (pr.1, pr.2.1, pr.2.2, [])) := by kernel_rfl
theorem atG (k : Nat) {nm : String} {pr : Arguments × List Stmt × Scope} (h1 : nmsG[k]? = some nm) (h2 : prsG[k]? = some pr) : (defOf q0 (Str.ofString nm)).map (fun x => (x.1.params, x.1.body, x.1.scope, x.2)) = some (pr.1, pr.2.1, pr.2.2, []) := by
  have e := congrArg (fun l => l[k]?) allG
  simp only [List.getElem?_map, h1, h2, Option.map_some] at e
  exact Option.some.inj e
theorem fa0 {K : Cfg} (Bs : Base K) : ∃ fd body nm, FnAt K 0 f0 fd body nm :=
  fnAt_of Bs (nm := "_law_digits") (pr := prG0) (atG 0 rfl rfl) (by kernel_rfl) (by kernel_rfl) (fun vals h pm cd doc => by obtain ⟨a, rfl⟩ := len1 h rfl; kernel_rfl) (by kernel_rfl) (by kernel_rfl) (by kernel_rfl) (by decide +kernel) (by decide +kernel) (by decide) (by decide +kernel) (by decide +kernel) (by kernel_rfl)
theorem fa1 {K : Cfg} (Bs : Base K) : ∃ fd body nm, FnAt K 1 f1 fd body nm :=
  fnAt_of Bs (nm := "_law_four") (pr := prG1) (atG 1 rfl rfl) (by kernel_rfl) (by kernel_rfl) (fun vals h pm cd doc => by obtain ⟨a, rfl⟩ := len1 h rfl; kernel_rfl) (by kernel_rfl) (by kernel_rfl) (by kernel_rfl) (by decide +kernel) (by decide +kernel) (by decide) (by decide +kernel) (by decide +kernel) (by kernel_rfl)
theorem fa2 {K : Cfg} (Bs : Base K) : ∃ fd body nm, FnAt K 2 f2 fd body nm :=
  fnAt_of Bs (nm := "_law_text") (pr := prG2) (atG 2 rfl rfl) (by kernel_rfl) (by kernel_rfl) (fun vals h pm cd doc => by obtain ⟨a, b, c, rfl⟩ := len3 h rfl; kernel_rfl) (by kernel_rfl) (by kernel_rfl) (by kernel_rfl) (by decide +kernel) (by decide +kernel) (by decide) (by decide +kernel) (by decide +kernel) (by kernel_rfl)
theorem fa3 {K : Cfg} (Bs : Base K) : ∃ fd body nm, FnAt K 3 f3 fd body nm :=
  fnAt_of Bs (nm := "_law_box") (pr := prG3) (atG 3 rfl rfl) (by kernel_rfl) (by kernel_rfl) (fun vals h pm cd doc => by obtain ⟨a, b, rfl⟩ := len2 h rfl; kernel_rfl) (by kernel_rfl) (by kernel_rfl) (by kernel_rfl) (by decide +kernel) (by decide +kernel) (by decide) (by decide +kernel) (by decide +kernel) (by kernel_rfl)
theorem fa4 {K : Cfg} (Bs : Base K) : ∃ fd body nm, FnAt K 4 f4 fd body nm :=
  fnAt_of Bs (nm := "_law_list") (pr := prG4) (atG 4 rfl rfl) (by kernel_rfl) (by kernel_rfl) (fun vals h pm cd doc => by obtain ⟨a, rfl⟩ := len1 h rfl; kernel_rfl) (by kernel_rfl) (by kernel_rfl) (by kernel_rfl) (by decide +kernel) (by decide +kernel) (by decide) (by decide +kernel) (by decide +kernel) (by kernel_rfl)
theorem fa5 {K : Cfg} (Bs : Base K) : ∃ fd body nm, FnAt K 5 f5 fd body nm :=
  fnAt_of Bs (nm := "_law_make") (pr := prG5) (atG 5 rfl rfl) (by kernel_rfl) (by kernel_rfl) (fun vals h pm cd doc => by obtain ⟨a, b, c, rfl⟩ := len3 h rfl; kernel_rfl) (by kernel_rfl) (by kernel_rfl) (by kernel_rfl) (by decide +kernel) (by decide +kernel) (by decide) (by decide +kernel) (by decide +kernel) (by kernel_rfl)
theorem fa6 {K : Cfg} (Bs : Base K) : ∃ fd body nm, FnAt K 6 f6 fd body nm :=
  fnAt_of Bs (nm := "_law_value") (pr := prG6) (atG 6 rfl rfl) (by kernel_rfl) (by kernel_rfl) (fun vals h pm cd doc => by obtain ⟨a, rfl⟩ := len1 h rfl; kernel_rfl) (by kernel_rfl) (by kernel_rfl) (by kernel_rfl) (by decide +kernel) (by decide +kernel) (by decide) (by decide +kernel) (by decide +kernel) (by kernel_rfl)
theorem fa7 {K : Cfg} (Bs : Base K) : ∃ fd body nm, FnAt K 7 f7 fd body nm :=
  fnAt_of Bs (nm := "_law_lay") (pr := prG7) (atG 7 rfl rfl) (by kernel_rfl) (by kernel_rfl) (fun vals h pm cd doc => by obtain ⟨a, b, c, d, rfl⟩ := len4 h rfl; kernel_rfl) (by kernel_rfl) (by kernel_rfl) (by kernel_rfl) (by decide +kernel) (by decide +kernel) (by decide) (by decide +kernel) (by decide +kernel) (by kernel_rfl)
theorem fa8 {K : Cfg} (Bs : Base K) : ∃ fd body nm, FnAt K 8 f8 fd body nm :=
  fnAt_of Bs (nm := "_law_like") (pr := prG8) (atG 8 rfl rfl) (by kernel_rfl) (by kernel_rfl) (fun vals h pm cd doc => by obtain ⟨a, b, rfl⟩ := len2 h rfl; kernel_rfl) (by kernel_rfl) (by kernel_rfl) (by kernel_rfl) (by decide +kernel) (by decide +kernel) (by decide) (by decide +kernel) (by decide +kernel) (by kernel_rfl)
theorem fa9 {K : Cfg} (Bs : Base K) : ∃ fd body nm, FnAt K 9 f9 fd body nm :=
  fnAt_of Bs (nm := "law") (pr := prG9) (atG 9 rfl rfl) (by kernel_rfl) (by kernel_rfl) (fun vals h pm cd doc => by obtain ⟨a, rfl⟩ := len1 h rfl; kernel_rfl) (by kernel_rfl) (by kernel_rfl) (by kernel_rfl) (by decide +kernel) (by decide +kernel) (by decide) (by decide +kernel) (by decide +kernel) (by kernel_rfl)
theorem fa12 {K : Cfg} (Bs : Base K) : ∃ fd body nm, FnAt K 12 f12 fd body nm :=
  fnAt_of Bs (nm := "_element_to_bson") (pr := prG12) (atG 10 rfl rfl) (by kernel_rfl) (by kernel_rfl) (fun vals h pm cd doc => by obtain ⟨a, b, c, d, rfl⟩ := len4 h rfl; kernel_rfl) (by kernel_rfl) (by kernel_rfl) (by kernel_rfl) (by decide +kernel) (by decide +kernel) (by decide) (by decide +kernel) (by decide +kernel) (by kernel_rfl)
theorem fa13 {K : Cfg} (Bs : Base K) : ∃ fd body nm, FnAt K 13 f13 fd body nm :=
  fnAt_of Bs (nm := "_make_name") (pr := prG13) (atG 11 rfl rfl) (by kernel_rfl) (by kernel_rfl) (fun vals h pm cd doc => by obtain ⟨a, rfl⟩ := len1 h rfl; kernel_rfl) (by kernel_rfl) (by kernel_rfl) (by kernel_rfl) (by decide +kernel) (by decide +kernel) (by decide) (by decide +kernel) (by decide +kernel) (by kernel_rfl)
theorem fa14 {K : Cfg} (Bs : Base K) : ∃ fd body nm, FnAt K 14 f14 fd body nm :=
  fnAt_of Bs (nm := "_utf_8_encode") (pr := prG14) (atG 12 rfl rfl) (by kernel_rfl) (by kernel_rfl) (fun vals h pm cd doc => by obtain ⟨a, rfl⟩ := len1 h rfl; kernel_rfl) (by kernel_rfl) (by kernel_rfl) (by kernel_rfl) (by decide +kernel) (by decide +kernel) (by decide) (by decide +kernel) (by decide +kernel) (by kernel_rfl)
theorem fa16 {K : Cfg} (Bs : Base K) : ∃ fd body nm, FnAt K 16 f16 fd body nm :=
  fnAt_of Bs (nm := "_encode_int") (pr := prG16) (atG 13 rfl rfl) (by kernel_rfl) (by kernel_rfl) (fun vals h pm cd doc => by obtain ⟨a, b, c, d, rfl⟩ := len4 h rfl; kernel_rfl) (by kernel_rfl) (by kernel_rfl) (by kernel_rfl) (by decide +kernel) (by decide +kernel) (by decide) (by decide +kernel) (by decide +kernel) (by kernel_rfl)
theorem fa17 {K : Cfg} (Bs : Base K) : ∃ fd body nm, FnAt K 17 f17 fd body nm :=
  fnAt_of Bs (nm := "_encode_text") (pr := prG17) (atG 14 rfl rfl) (by kernel_rfl) (by kernel_rfl) (fun vals h pm cd doc => by obtain ⟨a, b, c, d, rfl⟩ := len4 h rfl; kernel_rfl) (by kernel_rfl) (by kernel_rfl) (by kernel_rfl) (by decide +kernel) (by decide +kernel) (by decide) (by decide +kernel) (by decide +kernel) (by kernel_rfl)
theorem fa18 {K : Cfg} (Bs : Base K) : ∃ fd body nm, FnAt K 18 f18 fd body nm :=
  fnAt_of Bs (nm := "_encode_bytes") (pr := prG18) (atG 15 rfl rfl) (by kernel_rfl) (by kernel_rfl) (fun vals h pm cd doc => by obtain ⟨a, b, c, d, rfl⟩ := len4 h rfl; kernel_rfl) (by kernel_rfl) (by kernel_rfl) (by kernel_rfl) (by decide +kernel) (by decide +kernel) (by decide) (by decide +kernel) (by decide +kernel) (by kernel_rfl)
theorem fa19 {K : Cfg} (Bs : Base K) : ∃ fd body nm, FnAt K 19 f19 fd body nm :=
  fnAt_of Bs (nm := "_encode_mapping") (pr := prG19) (atG 16 rfl rfl) (by kernel_rfl) (by kernel_rfl) (fun vals h pm cd doc => by obtain ⟨a, b, c, d, rfl⟩ := len4 h rfl; kernel_rfl) (by kernel_rfl) (by kernel_rfl) (by kernel_rfl) (by decide +kernel) (by decide +kernel) (by decide) (by decide +kernel) (by decide +kernel) (by kernel_rfl)
theorem fa20 {K : Cfg} (Bs : Base K) : ∃ fd body nm, FnAt K 20 f20 fd body nm :=
  fnAt_of Bs (nm := "_encode_list") (pr := prG20) (atG 17 rfl rfl) (by kernel_rfl) (by kernel_rfl) (fun vals h pm cd doc => by obtain ⟨a, b, c, d, rfl⟩ := len4 h rfl; kernel_rfl) (by kernel_rfl) (by kernel_rfl) (by kernel_rfl) (by decide +kernel) (by decide +kernel) (by decide) (by decide +kernel) (by decide +kernel) (by kernel_rfl)
theorem fa21 {K : Cfg} (Bs : Base K) : ∃ fd body nm, FnAt K 21 f21 fd body nm :=
  fnAt_of Bs (nm := "_encode_code") (pr := prG21) (atG 18 rfl rfl) (by kernel_rfl) (by kernel_rfl) (fun vals h pm cd doc => by obtain ⟨a, b, c, d, rfl⟩ := len4 h rfl; kernel_rfl) (by kernel_rfl) (by kernel_rfl) (by kernel_rfl) (by decide +kernel) (by decide +kernel) (by decide) (by decide +kernel) (by decide +kernel) (by kernel_rfl)
theorem fa22 {K : Cfg} (Bs : Base K) : ∃ fd body nm, FnAt K 22 f22 fd body nm :=
  fnAt_of Bs (nm := "_make_c_string") (pr := prG22) (atG 19 rfl rfl) (by kernel_rfl) (by kernel_rfl) (fun vals h pm cd doc => by obtain ⟨a, rfl⟩ := len1 h rfl; kernel_rfl) (by kernel_rfl) (by kernel_rfl) (by kernel_rfl) (by decide +kernel) (by decide +kernel) (by decide) (by decide +kernel) (by decide +kernel) (by kernel_rfl)
theorem fa23 {K : Cfg} (Bs : Base K) : ∃ fd body nm, FnAt K 23 f23 fd body nm :=
  fnAt_of Bs (nm := "_PACK_INT") (pr := prG23) (atG 20 rfl rfl) (by kernel_rfl) (by kernel_rfl) (fun vals h pm cd doc => by obtain ⟨a, rfl⟩ := len1 h rfl; kernel_rfl) (by kernel_rfl) (by kernel_rfl) (by kernel_rfl) (by decide +kernel) (by decide +kernel) (by decide) (by decide +kernel) (by decide +kernel) (by kernel_rfl)
theorem fa25 {K : Cfg} (Bs : Base K) : ∃ fd body nm, FnAt K 25 f25 fd body nm :=
  fnAt_of Bs (nm := "_bson_to_dict") (pr := prG25) (atG 21 rfl rfl) (by kernel_rfl) (by kernel_rfl) (fun vals h pm cd doc => by obtain ⟨a, b, rfl⟩ := len2 h rfl; kernel_rfl) (by kernel_rfl) (by kernel_rfl) (by kernel_rfl) (by decide +kernel) (by decide +kernel) (by decide) (by decide +kernel) (by decide +kernel) (by kernel_rfl)
theorem fa26 {K : Cfg} (Bs : Base K) : ∃ fd body nm, FnAt K 26 f26 fd body nm :=
  fnAt_of Bs (nm := "get_data_and_view") (pr := prG26) (atG 22 rfl rfl) (by kernel_rfl) (by kernel_rfl) (fun vals h pm cd doc => by obtain ⟨a, rfl⟩ := len1 h rfl; kernel_rfl) (by kernel_rfl) (by kernel_rfl) (by kernel_rfl) (by decide +kernel) (by decide +kernel) (by decide) (by decide +kernel) (by decide +kernel) (by kernel_rfl)
theorem fa27 {K : Cfg} (Bs : Base K) : ∃ fd body nm, FnAt K 27 f27 fd body nm :=
  fnAt_of Bs (nm := "_get_object_size") (pr := prG27) (atG 23 rfl rfl) (by kernel_rfl) (by kernel_rfl) (fun vals h pm cd doc => by obtain ⟨a, b, c, rfl⟩ := len3 h rfl; kernel_rfl) (by kernel_rfl) (by kernel_rfl) (by kernel_rfl) (by decide +kernel) (by decide +kernel) (by decide) (by decide +kernel) (by decide +kernel) (by kernel_rfl)
theorem fa28 {K : Cfg} (Bs : Base K) : ∃ fd body nm, FnAt K 28 f28 fd body nm :=
  fnAt_of Bs (nm := "_UNPACK_INT_FROM") (pr := prG28) (atG 24 rfl rfl) (by kernel_rfl) (by kernel_rfl) (fun vals h pm cd doc => by obtain ⟨a, b, rfl⟩ := len2 h rfl; kernel_rfl) (by kernel_rfl) (by kernel_rfl) (by kernel_rfl) (by decide +kernel) (by decide +kernel) (by decide) (by decide +kernel) (by decide +kernel) (by kernel_rfl)
theorem fa29 {K : Cfg} (Bs : Base K) : ∃ fd body nm, FnAt K 29 f29 fd body nm :=
  fnAt_of Bs (nm := "_unpack") (pr := prG29) (atG 25 rfl rfl) (by kernel_rfl) (by kernel_rfl) (fun vals h pm cd doc => by obtain ⟨a, b, c, d, rfl⟩ := len4 h rfl; kernel_rfl) (by kernel_rfl) (by kernel_rfl) (by kernel_rfl) (by decide +kernel) (by decide +kernel) (by decide) (by decide +kernel) (by decide +kernel) (by kernel_rfl)
theorem fa30 {K : Cfg} (Bs : Base K) : ∃ fd body nm, FnAt K 30 f30 fd body nm :=
  fnAt_of Bs (nm := "_elements_to_dict") (pr := prG30) (atG 26 rfl rfl) (by kernel_rfl) (by kernel_rfl) (fun vals h pm cd doc => by obtain ⟨a, b, c, d, g, rfl⟩ := len5 h rfl; kernel_rfl) (by kernel_rfl) (by kernel_rfl) (by kernel_rfl) (by decide +kernel) (by decide +kernel) (by decide) (by decide +kernel) (by decide +kernel) (by kernel_rfl)
theorem fa31 {K : Cfg} (Bs : Base K) : ∃ fd body nm, FnAt K 31 f31 fd body nm :=
  fnAt_of Bs (nm := "_element_to_dict") (pr := prG31) (atG 27 rfl rfl) (by kernel_rfl) (by kernel_rfl) (fun vals h pm cd doc => by obtain ⟨a, b, c, d, g, rfl⟩ := len5 h rfl; kernel_rfl) (by kernel_rfl) (by kernel_rfl) (by kernel_rfl) (by decide +kernel) (by decide +kernel) (by decide) (by decide +kernel) (by decide +kernel) (by kernel_rfl)
theorem fa32 {K : Cfg} (Bs : Base K) : ∃ fd body nm, FnAt K 32 f32 fd body nm :=
  fnAt_of Bs (nm := "_get_c_string") (pr := prG32) (atG 28 rfl rfl) (by kernel_rfl) (by kernel_rfl) (fun vals h pm cd doc => by obtain ⟨a, b, c, d, rfl⟩ := len4 h rfl; kernel_rfl) (by kernel_rfl) (by kernel_rfl) (by kernel_rfl) (by decide +kernel) (by decide +kernel) (by decide) (by decide +kernel) (by decide +kernel) (by kernel_rfl)
theorem fa33 {K : Cfg} (Bs : Base K) : ∃ fd body nm, FnAt K 33 f33 fd body nm :=
  fnAt_of Bs (nm := "_index_nul") (pr := prG33) (atG 29 rfl rfl) (by kernel_rfl) (by kernel_rfl) (fun vals h pm cd doc => by obtain ⟨a, b, rfl⟩ := len2 h rfl; kernel_rfl) (by kernel_rfl) (by kernel_rfl) (by kernel_rfl) (by decide +kernel) (by decide +kernel) (by decide) (by decide +kernel) (by decide +kernel) (by kernel_rfl)
theorem fa34 {K : Cfg} (Bs : Base K) : ∃ fd body nm, FnAt K 34 f34 fd body nm :=
  fnAt_of Bs (nm := "_utf_8_decode") (pr := prG34) (atG 30 rfl rfl) (by kernel_rfl) (by kernel_rfl) (fun vals h pm cd doc => by obtain ⟨a, b, c, rfl⟩ := len3 h rfl; kernel_rfl) (by kernel_rfl) (by kernel_rfl) (by kernel_rfl) (by decide +kernel) (by decide +kernel) (by decide) (by decide +kernel) (by decide +kernel) (by kernel_rfl)
theorem fa35 {K : Cfg} (Bs : Base K) : ∃ fd body nm, FnAt K 35 f35 fd body nm :=
  fnAt_of Bs (nm := "_get_string") (pr := prG35) (atG 31 rfl rfl) (by kernel_rfl) (by kernel_rfl) (fun vals h pm cd doc => by obtain ⟨a, b, c, d, g, k, rfl⟩ := len6 h rfl; kernel_rfl) (by kernel_rfl) (by kernel_rfl) (by kernel_rfl) (by decide +kernel) (by decide +kernel) (by decide) (by decide +kernel) (by decide +kernel) (by kernel_rfl)
theorem fa36 {K : Cfg} (Bs : Base K) : ∃ fd body nm, FnAt K 36 f36 fd body nm :=
  fnAt_of Bs (nm := "_get_object") (pr := prG36) (atG 32 rfl rfl) (by kernel_rfl) (by kernel_rfl) (fun vals h pm cd doc => by obtain ⟨a, b, c, d, g, k, rfl⟩ := len6 h rfl; kernel_rfl) (by kernel_rfl) (by kernel_rfl) (by kernel_rfl) (by decide +kernel) (by decide +kernel) (by decide) (by decide +kernel) (by decide +kernel) (by kernel_rfl)
theorem fa37 {K : Cfg} (Bs : Base K) : ∃ fd body nm, FnAt K 37 f37 fd body nm :=
  fnAt_of Bs (nm := "_get_array") (pr := prG37) (atG 33 rfl rfl) (by kernel_rfl) (by kernel_rfl) (fun vals h pm cd doc => by obtain ⟨a, b, c, d, g, k, rfl⟩ := len6 h rfl; kernel_rfl) (by kernel_rfl) (by kernel_rfl) (by kernel_rfl) (by decide +kernel) (by decide +kernel) (by decide) (by decide +kernel) (by decide +kernel) (by kernel_rfl)
theorem fa38 {K : Cfg} (Bs : Base K) : ∃ fd body nm, FnAt K 38 f38 fd body nm :=
  fnAt_of Bs (nm := "_get_binary") (pr := prG38) (atG 34 rfl rfl) (by kernel_rfl) (by kernel_rfl) (fun vals h pm cd doc => by obtain ⟨a, b, c, d, g, k, rfl⟩ := len6 h rfl; kernel_rfl) (by kernel_rfl) (by kernel_rfl) (by kernel_rfl) (by decide +kernel) (by decide +kernel) (by decide) (by decide +kernel) (by decide +kernel) (by kernel_rfl)
theorem fa39 {K : Cfg} (Bs : Base K) : ∃ fd body nm, FnAt K 39 f39 fd body nm :=
  fnAt_of Bs (nm := "_UNPACK_LENGTH_SUBTYPE_FROM") (pr := prG39) (atG 35 rfl rfl) (by kernel_rfl) (by kernel_rfl) (fun vals h pm cd doc => by obtain ⟨a, b, rfl⟩ := len2 h rfl; kernel_rfl) (by kernel_rfl) (by kernel_rfl) (by kernel_rfl) (by decide +kernel) (by decide +kernel) (by decide) (by decide +kernel) (by decide +kernel) (by kernel_rfl)
theorem fa40 {K : Cfg} (Bs : Base K) : ∃ fd body nm, FnAt K 40 f40 fd body nm :=
  fnAt_of Bs (nm := "_get_code") (pr := prG40) (atG 36 rfl rfl) (by kernel_rfl) (by kernel_rfl) (fun vals h pm cd doc => by obtain ⟨a, b, c, d, g, k, rfl⟩ := len6 h rfl; kernel_rfl) (by kernel_rfl) (by kernel_rfl) (by kernel_rfl) (by decide +kernel) (by decide +kernel) (by decide) (by decide +kernel) (by decide +kernel) (by kernel_rfl)
theorem fa41 {K : Cfg} (Bs : Base K) : ∃ fd body nm, FnAt K 41 f41 fd body nm :=
  fnAt_of Bs (nm := "_get_int") (pr := prG41) (atG 37 rfl rfl) (by kernel_rfl) (by kernel_rfl) (fun vals h pm cd doc => by obtain ⟨a, b, c, d, g, k, rfl⟩ := len6 h rfl; kernel_rfl) (by kernel_rfl) (by kernel_rfl) (by kernel_rfl) (by decide +kernel) (by decide +kernel) (by decide) (by decide +kernel) (by decide +kernel) (by kernel_rfl)
theorem fa43 {K : Cfg} (Bs : Base K) : ∃ fd body nm, FnAt K 43 f43 fd body nm :=
  fnAt_of Bs (nm := "is_valid") (pr := prG43) (atG 38 rfl rfl) (by kernel_rfl) (by kernel_rfl) (fun vals h pm cd doc => by obtain ⟨a, rfl⟩ := len1 h rfl; kernel_rfl) (by kernel_rfl) (by kernel_rfl) (by kernel_rfl) (by decide +kernel) (by decide +kernel) (by decide) (by decide +kernel) (by decide +kernel) (by kernel_rfl)
end Mine
end

section
open PySem PySem.W PySem.Calls PyProof.Rows
namespace Mine
section
variable {P : Params}
theorem l1473 : (kF P).lookup 1473 = some ob1473 := by kernel_rfl
theorem l1466 : (kF P).lookup 1466 = some ob1466 := by kernel_rfl
theorem cd1473 : codeIn (kF P) (.ref 1472) (sg [101, 110, 99, 111, 100, 101]) = true := by kernel_rfl
theorem kp1473 : keepIn (kF P) (.ref 1473) = true := by kernel_rfl
end
def fd1473 : FuncData := match ob1473.data with | .func f => f | _ => default
theorem fa10 {K : Cfg} (Bs : Base K) : ∃ fd body nm, FnAt K 10 f10 fd body nm := by
  have hG : K.G 10 = .ref 1473 := Bs.G ▸ rfl
  refine ⟨fd1473, pr1473.2.1, nmT 10, ⟨1473, ob1473, hG, Bs.inn _ _ l1473, rfl⟩, codeRec_of Bs.inn cd1473, rfl, rfl, rfl, rfl, (by show pr1473.2.2.kind = _; kernel_rfl), (by show pr1473.2.2.isCoroutine = _; kernel_rfl), (by show pr1473.2.2.isGenerator = _; kernel_rfl), fun s vals st q1 q2 => ?_, (by decide +kernel), rfl, (by decide +kernel), (by decide), (by show ∀ n ∈ (nmT 10).vs.take f10.np, sName pr1473.2.2 n; decide +kernel), ((chkB 100 (nmT 10) pr1473.2.2 (plF 10) pr1473.2.1 f10.body).get (by decide +kernel)).1, ?_⟩
  · have q1' : vals.length ≤ 3 := q1
    have q2' : 3 - vals.length ≤ 2 := q2
    have hl : vals.length = 3 ∨ vals.length = 2 ∨ vals.length = 1 := by omega
    rcases hl with hl | hl | hl
    · obtain ⟨a, b, c, rfl⟩ := len3 hl rfl
      exact ⟨[], rfl, BindsTo.of_defaults (o := ob1466) (n := 0) rfl (st _ _ (Bs.inn _ _ l1466)) rfl (by with_unfolding_all rfl) (by with_unfolding_all rfl)⟩
    · obtain ⟨a, b, rfl⟩ := len2 hl rfl
      exact ⟨[.ref 262], ⟨_, _, rfl, (by show Value.ref 262 = K.G 102; rw [Bs.G]; rfl), rfl⟩, BindsTo.of_defaults (o := ob1466) (n := 0) rfl (st _ _ (Bs.inn _ _ l1466)) rfl (by with_unfolding_all rfl) (by with_unfolding_all rfl)⟩
    · obtain ⟨a, rfl⟩ := len1 hl rfl
      exact ⟨[.bool false, .ref 262], ⟨_, _, rfl, rfl, ⟨_, _, rfl, (by show Value.ref 262 = K.G 102; rw [Bs.G]; rfl), rfl⟩⟩, BindsTo.of_defaults (o := ob1466) (n := 0) rfl (st _ _ (Bs.inn _ _ l1466)) rfl (by with_unfolding_all rfl) (by with_unfolding_all rfl)⟩
  · intro M h st
    rw [hG]
    exact keeps_K (M := M) kp1473 h (Bs.inn.keeps st)
section
variable {P : Params}
theorem l1465 : (kF P).lookup 1465 = some ob1465 := by kernel_rfl
theorem l1458 : (kF P).lookup 1458 = some ob1458 := by kernel_rfl
theorem cd1465 : codeIn (kF P) (.ref 1464) (sg [95, 100, 105, 99, 116, 95, 116, 111, 95, 98, 115, 111, 110]) = true := by kernel_rfl
theorem kp1465 : keepIn (kF P) (.ref 1465) = true := by kernel_rfl
end
def fd1465 : FuncData := match ob1465.data with | .func f => f | _ => default
theorem fa11 {K : Cfg} (Bs : Base K) : ∃ fd body nm, FnAt K 11 f11 fd body nm := by
  have hG : K.G 11 = .ref 1465 := Bs.G ▸ rfl
  refine ⟨fd1465, pr1465.2.1, nmT 11, ⟨1465, ob1465, hG, Bs.inn _ _ l1465, rfl⟩, codeRec_of Bs.inn cd1465, rfl, rfl, rfl, rfl, (by show pr1465.2.2.kind = _; kernel_rfl), (by show pr1465.2.2.isCoroutine = _; kernel_rfl), (by show pr1465.2.2.isGenerator = _; kernel_rfl), fun s vals st q1 q2 => ?_, (by decide +kernel), rfl, (by decide +kernel), (by decide), (by show ∀ n ∈ (nmT 11).vs.take f11.np, sName pr1465.2.2 n; decide +kernel), ((chkB 100 (nmT 11) pr1465.2.2 (plF 11) pr1465.2.1 f11.body).get (by decide +kernel)).1, ?_⟩
  · have q1' : vals.length ≤ 4 := q1
    have q2' : 4 - vals.length ≤ 1 := q2
    have hl : vals.length = 4 ∨ vals.length = 3 := by omega
    rcases hl with hl | hl
    · obtain ⟨a, b, c, d, rfl⟩ := len4 hl rfl
      exact ⟨[], rfl, BindsTo.of_defaults (o := ob1458) (n := 0) rfl (st _ _ (Bs.inn _ _ l1458)) rfl (by with_unfolding_all rfl) (by with_unfolding_all rfl)⟩
    · obtain ⟨a, b, c, rfl⟩ := len3 hl rfl
      exact ⟨[.bool true], ⟨_, _, rfl, rfl, rfl⟩, BindsTo.of_defaults (o := ob1458) (n := 0) rfl (st _ _ (Bs.inn _ _ l1458)) rfl (by with_unfolding_all rfl) (by with_unfolding_all rfl)⟩
  · intro M h st
    rw [hG]
    exact keeps_K (M := M) kp1465 h (Bs.inn.keeps st)
section
variable {P : Params}
theorem l1450 : (kF P).lookup 1450 = some ob1450 := by kernel_rfl
theorem l1443 : (kF P).lookup 1443 = some ob1443 := by kernel_rfl
theorem cd1450 : codeIn (kF P) (.ref 1449) (sg [95, 110, 97, 109, 101, 95, 118, 97, 108, 117, 101, 95, 116, 111, 95, 98, 115, 111, 110]) = true := by kernel_rfl
theorem kp1450 : keepIn (kF P) (.ref 1450) = true := by kernel_rfl
end
def fd1450 : FuncData := match ob1450.data with | .func f => f | _ => default
theorem fa15 {K : Cfg} (Bs : Base K) : ∃ fd body nm, FnAt K 15 f15 fd body nm := by
  have hG : K.G 15 = .ref 1450 := Bs.G ▸ rfl
  refine ⟨fd1450, pr1450.2.1, nmT 15, ⟨1450, ob1450, hG, Bs.inn _ _ l1450, rfl⟩, codeRec_of Bs.inn cd1450, rfl, rfl, rfl, rfl, (by show pr1450.2.2.kind = _; kernel_rfl), (by show pr1450.2.2.isCoroutine = _; kernel_rfl), (by show pr1450.2.2.isGenerator = _; kernel_rfl), fun s vals st q1 q2 => ?_, (by decide +kernel), rfl, (by decide +kernel), (by decide), (by show ∀ n ∈ (nmT 15).vs.take f15.np, sName pr1450.2.2 n; decide +kernel), ((chkB 100 (nmT 15) pr1450.2.2 (plF 15) pr1450.2.1 f15.body).get (by decide +kernel)).1, ?_⟩
  · have q1' : vals.length ≤ 5 := q1
    have q2' : 5 - vals.length ≤ 1 := q2
    have hl : vals.length = 5 ∨ vals.length = 4 := by omega
    rcases hl with hl | hl
    · obtain ⟨a, b, c, d, g, rfl⟩ := len5 hl rfl
      exact ⟨[], rfl, BindsTo.of_defaults (o := ob1443) (n := 0) rfl (st _ _ (Bs.inn _ _ l1443)) rfl (by with_unfolding_all rfl) (by with_unfolding_all rfl)⟩
    · obtain ⟨a, b, c, d, rfl⟩ := len4 hl rfl
      exact ⟨[.bool false], ⟨_, _, rfl, rfl, rfl⟩, BindsTo.of_defaults (o := ob1443) (n := 0) rfl (st _ _ (Bs.inn _ _ l1443)) rfl (by with_unfolding_all rfl) (by with_unfolding_all rfl)⟩
  · intro M h st
    rw [hG]
    exact keeps_K (M := M) kp1450 h (Bs.inn.keeps st)
section
variable {P : Params}
theorem l1481 : (kF P).lookup 1481 = some ob1481 := by kernel_rfl
theorem l1474 : (kF P).lookup 1474 = some ob1474 := by kernel_rfl
theorem cd1481 : codeIn (kF P) (.ref 1480) (sg [100, 101, 99, 111, 100, 101]) = true := by kernel_rfl
theorem kp1481 : keepIn (kF P) (.ref 1481) = true := by kernel_rfl
end
def fd1481 : FuncData := match ob1481.data with | .func f => f | _ => default
theorem fa24 {K : Cfg} (Bs : Base K) : ∃ fd body nm, FnAt K 24 f24 fd body nm := by
  have hG : K.G 24 = .ref 1481 := Bs.G ▸ rfl
  refine ⟨fd1481, pr1481.2.1, nmT 24, ⟨1481, ob1481, hG, Bs.inn _ _ l1481, rfl⟩, codeRec_of Bs.inn cd1481, rfl, rfl, rfl, rfl, (by show pr1481.2.2.kind = _; kernel_rfl), (by show pr1481.2.2.isCoroutine = _; kernel_rfl), (by show pr1481.2.2.isGenerator = _; kernel_rfl), fun s vals st q1 q2 => ?_, (by decide +kernel), rfl, (by decide +kernel), (by decide), (by show ∀ n ∈ (nmT 24).vs.take f24.np, sName pr1481.2.2 n; decide +kernel), ((chkB 100 (nmT 24) pr1481.2.2 (plF 24) pr1481.2.1 f24.body).get (by decide +kernel)).1, ?_⟩
  · have q1' : vals.length ≤ 2 := q1
    have q2' : 2 - vals.length ≤ 1 := q2
    have hl : vals.length = 2 ∨ vals.length = 1 := by omega
    rcases hl with hl | hl
    · obtain ⟨a, b, rfl⟩ := len2 hl rfl
      exact ⟨[], rfl, BindsTo.of_defaults (o := ob1474) (n := 0) rfl (st _ _ (Bs.inn _ _ l1474)) rfl (by with_unfolding_all rfl) (by with_unfolding_all rfl)⟩
    · obtain ⟨a, rfl⟩ := len1 hl rfl
      exact ⟨[.none], ⟨_, _, rfl, rfl, rfl⟩, BindsTo.of_defaults (o := ob1474) (n := 0) rfl (st _ _ (Bs.inn _ _ l1474)) rfl (by with_unfolding_all rfl) (by with_unfolding_all rfl)⟩
  · intro M h st
    rw [hG]
    exact keeps_K (M := M) kp1481 h (Bs.inn.keeps st)
end Mine
end

section
open PySem PySem.W PySem.Calls PyProof.Rows
namespace Mine
theorem fn_all {K : Cfg} (Bs : Base K) : ∀ i f, fnT i = some f → ∃ fd body nm, FnAt K i f fd body nm := by
  intro i f h
  unfold fnT at h
  split at h
  · cases h; exact fa0 Bs
  · cases h; exact fa1 Bs
  · cases h; exact fa2 Bs
  · cases h; exact fa3 Bs
  · cases h; exact fa4 Bs
  · cases h; exact fa5 Bs
  · cases h; exact fa6 Bs
  · cases h; exact fa7 Bs
  · cases h; exact fa8 Bs
  · cases h; exact fa9 Bs
  · cases h; exact fa10 Bs
  · cases h; exact fa11 Bs
  · cases h; exact fa12 Bs
  · cases h; exact fa13 Bs
  · cases h; exact fa14 Bs
  · cases h; exact fa15 Bs
  · cases h; exact fa16 Bs
  · cases h; exact fa17 Bs
  · cases h; exact fa18 Bs
  · cases h; exact fa19 Bs
  · cases h; exact fa20 Bs
  · cases h; exact fa21 Bs
  · cases h; exact fa22 Bs
  · cases h; exact fa23 Bs
  · cases h; exact fa24 Bs
  · cases h; exact fa25 Bs
  · cases h; exact fa26 Bs
  · cases h; exact fa27 Bs
  · cases h; exact fa28 Bs
  · cases h; exact fa29 Bs
  · cases h; exact fa30 Bs
  · cases h; exact fa31 Bs
  · cases h; exact fa32 Bs
  · cases h; exact fa33 Bs
  · cases h; exact fa34 Bs
  · cases h; exact fa35 Bs
  · cases h; exact fa36 Bs
  · cases h; exact fa37 Bs
  · cases h; exact fa38 Bs
  · cases h; exact fa39 Bs
  · cases h; exact fa40 Bs
  · cases h; exact fa41 Bs
  · cases h; exact fa43 Bs
  · cases h
end Mine
end

section
open PySem PySem.W PySem.Calls PyProof.Rows
namespace Mine
section
variable {K : Cfg} {A : Around} {s : Shared} {C : CallT} {n : Nat}
/-- a call of a function of one name where no frame stands below: its value -/
theorem fn_top (O : Ok K) (O2 : Ok2 K) (O3 : Ok3 K) (lim : K.base.NoLimit) (CO : CallOk K C n) (CR : CallR K C n) {i : Nat} {f : Fn} {fd : FuncData} {body : List Stmt} {nm : Nms} (F : FnAt K i f fd body nm) {v u : FV} {outs : List (Option LV)} {x : Value}
    (st : K.base.StaysIn s.heap) (hA : A.frames = some []) (hh : A.handled = none) (rm : Room A (n + 1)) (h1 : f.np = 1) (r : RV K s.heap N0 v x) (hr : runFn C f [.fv v] = .ok (u, outs)) {Q : Value → Shared → Prop} {E : Value → Shared → Prop}
    (hq : ∀ y h' tk, (∀ b o, s.heap.get? b = some o → h'.get? b = some o) → RV K h' N0 u y → Q y { s with heap := h', toks := tk }) : wpAny (model K.prog K.w) A (call (K.G i) [x]) Q E s := by
  unfold runFn at hr
  cases hfa : fillArgs f [.fv v] with
  | none => rw [hfa] at hr; cases hr
  | some ρ₀ =>
  rw [hfa] at hr
  dsimp only at hr
  unfold fillArgs at hfa
  replace hfa : (if [LV.fv v].length ≤ f.np ∧ f.np - [LV.fv v].length ≤ f.dflt.length then some (([LV.fv v].map some ++ (f.dflt.drop (f.dflt.length - (f.np - [LV.fv v].length))).map fun v => some (.fv v)) ++ List.replicate (f.nv - f.np) Option.none) else Option.none) = some ρ₀ := hfa
  split at hfa
  case isFalse => cases hfa
  replace hfa := Option.some.inj hfa
  have e0 : f.np - [LV.fv v].length = 0 := by rw [h1]; rfl
  rw [e0, Nat.sub_zero, List.drop_length] at hfa
  obtain ⟨ds, hds, hbind⟩ := F.bind s [x] st (by rw [h1]; exact Nat.le_refl _) (by rw [h1]; exact Nat.zero_le _)
  have e1 : f.np - [x].length = 0 := by rw [h1]; rfl
  rw [e1, Nat.sub_zero, List.drop_length] at hds
  have hds' : ds = [] := hds
  subst hds'
  rw [List.append_nil] at hbind
  obtain ⟨a, o, hG, ho, hd⟩ := F.at_
  have scene : ∀ (env : Env) (s₁ : Shared), env = newEnv fd.scope s.heap.objs.size fd.globals (cellsFrom (s.heap.objs.size + 1) fd.scope.names []) (fd.qualname ++ ".<locals>.") (some a) fd.code none fd.builtins →
      InCallC s env.locals (bindL env.kindOf ((nm.vs.take f.np).zip [x]) fun _ => none) env.cells (bindC env.kindOf ((nm.vs.take f.np).zip [x]) fun _ => none) s₁ →
      env.scope = fd.scope ∧ env.frame = some s.heap.objs.size ∧ env.locals = s.heap.objs.size ∧ (∃ h₁ tk, s₁ = { s with heap := h₁, toks := tk }) ∧ (∀ b o, s.heap.get? b = some o → s₁.heap.get? b = some o) ∧
      SSt K (A.deeper env) env [] (fun b => b = env.locals ∨ ∃ n, env.cells.lookup n = some b) (plF i) (fun _ => none) s.heap nm env ρ₀ s₁.heap := by
    intro env s₁ henv q
    have hs : env.scope = fd.scope := by rw [henv]; rfl
    have hf : env.frame = some s.heap.objs.size := by rw [henv]; rfl
    have hL : env.locals = s.heap.objs.size := by rw [henv]; rfl
    have hgl : env.globals = mainGlobals := by rw [henv]; exact F.gl
    have hbl : env.builtins = builtinsNs := by rw [henv]; exact F.bl
    have hcells : env.cells = cellsFrom (s.heap.objs.size + 1) fd.scope.names [] := by rw [henv]; rfl
    obtain ⟨h₁, tk, hs₁, _⟩ := q.done
    have up : ∀ b o, s.heap.get? b = some o → s₁.heap.get? b = some o := q.toInCall.keep
    have N0f : ∀ b, (b = env.locals ∨ ∃ n, env.cells.lookup n = some b) → s.heap.get? b = none ∧ ∃ o, s₁.heap.get? b = some o := fun b hb => by
      have hge : s.heap.objs.size ≤ b := by
        rcases hb with rfl | ⟨n, hc⟩
        · rw [hL]; exact Nat.le_refl _
        · have := q.above n b (mem_of_lookup_some hc)
          rw [hL] at this
          exact Nat.le_of_lt this
      refine ⟨?_, ?_⟩
      · cases e : s.heap.get? b with
        | none => rfl
        | some o => exact absurd (Heap.lt_size e) (Nat.not_lt.mpr hge)
      · rcases hb with rfl | ⟨n, hc⟩
        · obtain ⟨o, es, ep, ho, _⟩ := q.toInCall.ns; exact ⟨o, ho⟩
        · obtain ⟨o, ho, _⟩ := q.cell n b hc; exact ⟨o, ho⟩
    have hcl : ∀ n c, env.cells.lookup n = some c → c ≠ env.locals := fun n c hc => Nat.ne_of_gt (q.above n c (mem_of_lookup_some hc))
    have hbn : ((((nm.vs.take f.np).zip [x])).map (·.1)).Nodup := by
      obtain ⟨k, hk⟩ := zip_fst (ns := nm.vs.take f.np) (vs := [x])
      rw [hk]
      exact ((List.take_sublist _ _).trans (List.take_sublist _ _)).nodup F.nd
    have look : ∀ (j : Nat) (n : Str) (y : Value), nm.vs[j]? = some n → j < f.np → ([x] : List Value)[j]? = some y → lookV env (bindL env.kindOf ((nm.vs.take f.np).zip [x]) fun _ => none) (bindC env.kindOf ((nm.vs.take f.np).zip [x]) fun _ => none) n = some y := fun j n y e1 hj e2 => by
      have hn : (nm.vs.take f.np)[j]? = some n := by rw [List.getElem?_take_of_lt hj]; exact e1
      have hm := zip_mem hn e2
      have hk := F.kinds n (List.mem_of_getElem? hn)
      obtain ⟨b1, b2⟩ := bind_at (kindOf := env.kindOf) (m := fun _ => none) (cm := fun _ => none) hbn hm
      unfold lookV
      rcases hk with hk | hk
      · have hk' : env.kindOf n = some .local := by unfold Env.kindOf; rw [hs]; exact hk
        rw [hk']; exact b1 hk'
      · have hk' : env.kindOf n = some .cell := by unfold Env.kindOf; rw [hs]; exact hk
        rw [hk']
        dsimp only
        rw [if_pos (by rw [hcells]; exact cellsFrom_has _ _ _ _ (.inl hk))]
        exact b2 (by rw [hk']; decide)
    have eBO : BO (fun b => b = env.locals ∨ ∃ n, env.cells.lookup n = some b) (fun _ => none) = fun b => b = env.locals ∨ ∃ n, env.cells.lookup n = some b := funext fun b => propext ⟨fun q => q.elim id fun ⟨j, q⟩ => (by cases q), .inl⟩
    have hρ : ∀ (j : Nat) (lv : LV), ρ₀[j]? = some (some lv) → j = 0 ∧ lv = .fv v := fun j lv e => by
      rw [← hfa] at e
      cases j with
      | zero =>
        have e' : some (some (LV.fv v)) = some (some lv) := e
        cases e'; exact ⟨rfl, rfl⟩
      | succ j =>
        have e' : (List.replicate (f.nv - f.np) (Option.none : Option LV))[j]? = some (some lv) := e
        have := List.mem_of_getElem? e'
        rw [List.mem_replicate] at this
        cases this.2
    have hfrs : ∀ b, b ∈ frsOf env [] → b = s.heap.objs.size := fun b hb => by
      unfold frsOf at hb
      rw [List.filterMap_cons, hf] at hb
      exact List.mem_singleton.mp hb
    refine ⟨hs, hf, hL, ⟨h₁, tk, hs₁⟩, up, ⟨st, F.nd, F.ncs, .inl rfl, fun n c hc => .inr ⟨n, hc⟩, fun b hb => .inl ((hfrs b hb).trans hL.symm), fun j c _ q => (by cases q), Kp.of_keep up, fun _ => none, bindL env.kindOf ((nm.vs.take f.np).zip [x]) fun _ => none, bindC env.kindOf ((nm.vs.take f.np).zip [x]) fun _ => none, fun _ _ => rfl, fun j c hp q => (by cases q), ?_⟩⟩
    rw [eBO]
    refine ⟨⟨fun b o e => up b o (st b o e), ?_, ?_, fun b hb => .inl ((hfrs b hb).trans hL.symm), fun b hb => ⟨?_, (N0f b hb).2⟩, hh⟩, ⟨by rw [hs]; exact F.kind, hgl, hbl, rfl, .inl rfl, fun n c hc => .inr ⟨n, hc⟩, fun n hn => ?_, q.apart, hcl⟩,
      ⟨fun j c q => (by cases q), fun j k c q => (by cases q)⟩, ⟨q.toInCall.ns, fun n c hc => q.cell n c hc⟩, fun j n w g1 g2 g3 g4 g5 => ?_, fun j n v g1 _ => by simp at g1, fun j n lv g1 g2 g3 => ?_⟩
    · show A.frames.map (env :: ·) = _
      rw [hA]; rfl
    · obtain ⟨oL, es, ep, hoL, hdL, _⟩ := q.toInCall.ns
      refine ⟨by rw [hs, F.kind]; decide, ⟨s.heap.objs.size, oL, hf, ?_, hL ▸ hoL, fun vs q => by rw [hdL] at q; cases q⟩, trivial⟩
      cases e : K.base.get? s.heap.objs.size with
      | none => rfl
      | some o => exact absurd (Heap.lt_size (st _ o e)) (Nat.lt_irrefl _)
    · cases e : K.base.get? b with
      | none => rfl
      | some o => have := st b o e; rw [(N0f b hb).1] at this; cases this
    · rw [hcells]
      exact cellsFrom_has _ _ _ _ (.inl (by unfold Env.kindOf at hn; rw [hs] at hn; exact hn))
    · obtain ⟨rfl, e⟩ := hρ j _ g1
      cases e
      refine ⟨x, look 0 n x g2 (by omega) rfl, r.keep (fun b o e _ => up b o e) fun b o e hb => ?_⟩
      rw [(N0f b hb).1] at e; cases e
    · obtain ⟨rfl, e⟩ := hρ j _ g1
      exact absurd e (g2 v)
  have hroom : A.depth < recursionLimit := by have := rm.depth; show A.depth < 1000; omega
  have hkind : ∀ y ∈ (nm.vs.take f.np).zip [x], fd.scope.names.lookup y.1 = some .local ∨ (fd.scope.names.lookup y.1 = some .cell ∧ ((cellsFrom (s.heap.objs.size + 1) fd.scope.names []).lookup y.1).isSome = true) := fun y hy => by
    have hm : y.1 ∈ nm.vs.take f.np := (List.of_mem_zip hy).1
    rcases F.kinds _ hm with h | h
    · exact .inl h
    · exact .inr ⟨h, cellsFrom_has _ _ _ _ (.inl h)⟩
  have rm' : ∀ env, Room (A.deeper env) n := fun env => ⟨by have := rm.depth; show A.depth + 1 + 2 * n + 30 ≤ 1000; omega, by have := rm.units; show A.units + 3 + 20 * n + 100 ≤ 9900; omega⟩
  rw [hG]
  refine wpAny_call ?_
  refine codeAny_call_function hroom (st _ _ ho) hd F.co F.gen F.bodyIs (F.cd.keeps st) (hbind _ _ _ _ ?_)
  rw [F.clo]
  refine wpAny_newFunctionEnv_cells F.kind hkind fun env he s₁ q => ?_
  obtain ⟨g1, g2, g3, g4, g5, S⟩ := scene env s₁ he q
  obtain ⟨h₁, tk, rfl⟩ := g4
  refine ⟨(lim.keeps st).keeps g5, codeAny_func ?_⟩
  have hb := snd_s O O2 O3 CO CR F.cy (A.deeper env) env [] _ env (fun _ => none) s.heap ρ₀ { s with heap := h₁, toks := tk } g1 (rm' env) S
  have fin : ∀ {h' : Heap}, SSt K (A.deeper env) env [] (fun b => b = env.locals ∨ ∃ n, env.cells.lookup n = some b) (plF i) (fun _ => none) s.heap nm env ρ₀ h' → True := fun _ => trivial
  cases hx : exSs C ρ₀ f.body with
  | no => rw [hx] at hr; cases hr
  | exc e ρ' => rw [hx] at hr; cases hr
  | ok fl ρ' =>
    rw [hx] at hr hb
    refine hb _ _ fun fl' h' tk' S' rf => ?_
    have keep : ∀ b o, s.heap.get? b = some o → h'.get? b = some o := fun b o e => by
      have nl : b ≠ env.locals := fun q => by rw [q, g3] at e; exact absurd (Heap.lt_size e) (Nat.lt_irrefl _)
      refine S'.kp.keep b o e (fun q' => ?_) fun q' => ?_
      · rcases q' with q' | ⟨m, q'⟩ | ⟨j, _, q'⟩
        · exact nl q'
        · have := q.above m b (mem_of_lookup_some q')
          rw [g3] at this
          exact absurd (Heap.lt_size e) (Nat.not_lt.mpr (Nat.le_of_lt this))
        · cases q'
      · unfold frsOf at q'
        rw [List.filterMap_cons, g2] at q'
        exact nl ((List.mem_singleton.mp q').trans g3.symm)
    cases fl with
    | next =>
      cases rf
      cases hr
      exact hq .none h' tk' keep rfl
    | ret w =>
      obtain ⟨y, rfl, ry⟩ := rf
      cases hr
      exact hq y h' tk' keep (ry.keep (fun _ _ e _ => e) fun _ _ _ q => q.elim)
end
end Mine
end

section
open PySem PySem.W PySem.Calls PyProof.Rows
namespace Mine
theorem entry_unchain : entryFor table "proto.unchain" = some Builtin.«proto.unchain» := entryFor_of_tree (by kernel_rfl)
section
variable {prog : Program} {w : World} {A : Around} {E : Value → Shared → Prop} {s : Shared}
/-- raised while another exception is being handled: that one becomes its context -/
theorem raise_under {α : Type} {Q : α → Shared → Prop} {a e : Addr} {ca : Value} {da : Option Addr} {sla : Array (Option Value)} {t tb c3 c4 c5 : Value} {ce : Value} {de : Option Addr} {sle : Array (Option Value)} {t' tb' x2 x3 x4 x5 : Value}
    (hh : A.handled = some (.ref a)) (hne : a ≠ e) (ha : s.heap.get? a = some ⟨ca, da, .fields #[t, tb, .none, c3, c4, c5], sla⟩) (he : s.heap.get? e = some ⟨ce, de, .fields #[t', tb', x2, x3, x4, x5], sle⟩)
    (h : ∀ h', (∀ b o, b ≠ e → s.heap.get? b = some o → h'.get? b = some o) → h'.get? e = some ⟨ce, de, .fields #[t', tb', .ref a, x3, x4, x5], sle⟩ → E (.ref e) { s with heap := h' }) :
    wpAny (model prog w) A (raiseNew (.ref e) : Sem α) Q E s := by
  unfold raiseNew
  refine wpAny_bind (wpAny_handled ?_)
  rw [hh]
  dsimp only
  rw [if_pos (show (Value.ref a != Value.ref e) = true by simp [hne])]
  refine wpAny_bind (wpAny_holding (wpAny_runValue (codeAny_builtin entry_unchain ?_)))
  unfold Builtin.«proto.unchain»
  refine wpAny_bind (wpAny_field ha rfl (x := .none) rfl ?_)
  rw [if_pos (show (Value.none == Value.none) = true by rfl)]
  refine wpAny_bind (wpAny_pure ?_)
  refine wpAny_pure ?_
  dsimp only
  show wpAny _ _ (setField (.ref e) 2 (.ref a) >>= fun _ => throw (.ref e)) _ _ _
  refine wpAny_bind (wpAny_setField he rfl (Nat.le_of_ble_eq_true rfl) (wpAny_throw (h _ (fun b o hb q => ?_) ?_)))
  · exact (Heap.get?_update_ne _ _ _ _ hb).trans q
  · exact Heap.get?_update_self _ he rfl
variable {nm q : Str} {C N : Addr} {bs bm : List Value} {hdct : Bool} {sn : List Str} {sub : List Value} {ab : Bool} {col : Option Bool} {dd : Option Addr} {k0 k1 k2 k3 k5 : Option Value} {newId : String} {env : Env}
theorem excFrom_inst {M : Model} {e : Addr} {vs : Array Value} {msg : String} {Q : Value → Shared → Prop} (hbase : bm.contains (.type "BaseException") = true) (hC : s.heap.get? C = some (excClassObj nm q C N bs bm hdct sn sub ab col dd k0 k1 k2 k3 k5 newId))
    (he : s.heap.get? e = some { cls := .ref C, data := .fields vs }) (h : Q (.ref e) s) : wpAny M A (excFromValue (.ref e) msg) Q E s := by
  have hcB : (Value.ref C :: bm).contains (.type "BaseException") = true := by rw [List.contains_cons, hbase, Bool.or_true]
  obtain ⟨hp, g, d, tk, os⟩ := s
  unfold excFromValue isExcClass
  repeat (first | with_reducible refine wpAny_loadPart_at he ?_ | with_reducible refine wpAny_loadPart_at hC ?_ | (with_reducible refine wpAny_isSubtype_exc hC ?_; rw [hcB]) | wp_step)
  exact h
theorem isType_inst {M : Model} {e : Addr} {vs : Array Value} {c : Value} {Q : Bool → Shared → Prop} (he : s.heap.get? e = some { cls := c, data := .fields vs }) (h : Q false s) : wpAny M A (isType (.ref e)) Q E s := by
  obtain ⟨hp, g, d, tk, os⟩ := s
  repeat (first | with_reducible refine wpAny_loadPart_at he ?_ | wp_step)
  exact h
theorem raised_inst {M : Model} {e : Addr} {vs : Array Value} {Q : Value → Shared → Prop} (hC : s.heap.get? C = some (excClassObj nm q C N bs bm hdct sn sub ab col dd k0 k1 k2 k3 k5 newId))
    (he : s.heap.get? e = some { cls := .ref C, data := .fields vs }) (h : Q (.ref e) s) : wpAny M A (raisedInstance (.ref e)) Q E s := by
  obtain ⟨hp, g, d, tk, os⟩ := s
  unfold raisedInstance
  repeat (first | with_reducible refine wpAny_loadPart_at he ?_ | with_reducible refine wpAny_loadPart_at hC ?_ | wp_step)
  exact h
theorem noFlight_inst {M : Model} {e : Addr} {c : Value} {t x2 x3 x4 x5 : Value} {Q : Unit → Shared → Prop} (he : s.heap.get? e = some { cls := c, data := .fields #[t, .none, x2, x3, x4, x5] }) (h : Q () s) : wpAny M A (setFlight (.ref e) none) Q E s := by
  unfold setFlight
  refine wpAny_bind (wpAny_field he rfl (x := .none) rfl ?_)
  rw [if_neg (show ¬ ((Value.none != Value.none) = true) by decide)]
  exact wpAny_pure h
/-- raise an object of an own class, no cause, under a handled exception -/
theorem raiseStmt_under {a : Addr} {x : Sem Value} {Q : Flow → Shared → Prop} (hbase : bm.contains (.type "BaseException") = true) (hh : A.handled = some (.ref a))
    (h : wpAny (model prog w) A x (fun v s₁ => ∃ e t, v = .ref e ∧ a ≠ e ∧ s₁.heap.get? C = some (excClassObj nm q C N bs bm hdct sn sub ab col dd k0 k1 k2 k3 k5 newId) ∧ (∃ ca da sla ta tba c3a c4a c5a, s₁.heap.get? a = some ⟨ca, da, .fields #[ta, tba, .none, c3a, c4a, c5a], sla⟩) ∧
      s₁.heap.get? e = some { cls := .ref C, data := .fields #[.ref t, .none, .none, .none, .bool false, .none] } ∧
      ∀ h', (∀ b o, b ≠ e → s₁.heap.get? b = some o → h'.get? b = some o) → h'.get? e = some { cls := .ref C, data := .fields #[.ref t, .none, .ref a, .none, .bool false, .none] } → E (.ref e) { s₁ with heap := h' }) E s) :
    wpAny (model prog w) A (raiseStmt env (some x) none) Q E s := by
  unfold raiseStmt
  refine wpAny_bind (wpAny_mono h (fun v s₁ h₁ => ?_) fun _ _ x => x)
  obtain ⟨e, t, rfl, hne, hC, ⟨ca, da, sla, ta, tba, c3a, c4a, c5a, ha⟩, he, hE⟩ := h₁
  refine wpAny_bind (wpAny_pure ?_)
  refine wpAny_bind (wpAny_holding (excFrom_inst hbase hC he ?_))
  dsimp only
  refine wpAny_bind (isType_inst he ?_)
  rw [if_neg Bool.false_ne_true]
  refine wpAny_bind (raised_inst hC he ?_)
  refine wpAny_bind (noFlight_inst he ?_)
  exact raise_under hh hne ha he hE
/-- the same, from None -/
theorem raiseStmt_from {a : Addr} {x c : Sem Value} {Q : Flow → Shared → Prop} (hbase : bm.contains (.type "BaseException") = true) (hh : A.handled = some (.ref a)) (hc : ∀ (s : Shared) (Q : Value → Shared → Prop), Q .none s → wpAny (model prog w) A c Q E s)
    (h : wpAny (model prog w) A x (fun v s₁ => ∃ e t, v = .ref e ∧ a ≠ e ∧ C ≠ e ∧ s₁.heap.get? C = some (excClassObj nm q C N bs bm hdct sn sub ab col dd k0 k1 k2 k3 k5 newId) ∧ (∃ ca da sla ta tba c3a c4a c5a, s₁.heap.get? a = some ⟨ca, da, .fields #[ta, tba, .none, c3a, c4a, c5a], sla⟩) ∧
      s₁.heap.get? e = some { cls := .ref C, data := .fields #[.ref t, .none, .none, .none, .bool false, .none] } ∧
      ∀ h', (∀ b o, b ≠ e → s₁.heap.get? b = some o → h'.get? b = some o) → h'.get? e = some { cls := .ref C, data := .fields #[.ref t, .none, .ref a, .none, .bool true, .none] } → E (.ref e) { s₁ with heap := h' }) E s) :
    wpAny (model prog w) A (raiseStmt env (some x) (some c)) Q E s := by
  unfold raiseStmt
  refine wpAny_bind (wpAny_mono h (fun v s₁ h₁ => ?_) fun _ _ x => x)
  obtain ⟨e, t, rfl, hne, hCe, hC, ⟨ca, da, sla, ta, tba, c3a, c4a, c5a, ha⟩, he, hE⟩ := h₁
  refine wpAny_bind (wpAny_holding (hc _ _ (wpAny_bind (wpAny_pure ?_))))
  dsimp only
  refine wpAny_bind (wpAny_holding (excFrom_inst hbase hC he ?_))
  rw [if_pos (show (Value.none == Value.none) = true by rfl)]
  refine wpAny_bind (wpAny_pure ?_)
  refine wpAny_bind (wpAny_setField he rfl (Nat.le_of_ble_eq_true rfl) ?_)
  have he2 := Heap.get?_update_self (Obj.mapFields (·.setIfInBounds 3 Value.none)) he rfl
  refine wpAny_bind (wpAny_setField he2 rfl (Nat.le_of_ble_eq_true rfl) ?_)
  have he3 := Heap.get?_update_self (Obj.mapFields (·.setIfInBounds 4 (Value.bool true))) he2 rfl
  have up : ∀ b o, b ≠ e → s₁.heap.get? b = some o → ((s₁.heap.update e (Obj.mapFields (·.setIfInBounds 3 Value.none))).update e (Obj.mapFields (·.setIfInBounds 4 (Value.bool true)))).get? b = some o := fun b o hb z => (Heap.get?_update_ne _ _ _ _ hb).trans ((Heap.get?_update_ne _ _ _ _ hb).trans z)
  refine wpAny_bind (isType_inst he3 ?_)
  rw [if_neg Bool.false_ne_true]
  refine wpAny_bind (raised_inst (up _ _ hCe hC) he3 ?_)
  refine wpAny_bind (noFlight_inst he3 ?_)
  exact raise_under hh hne (up _ _ hne ha) he3 fun h' k1 k2 => hE h' (fun b o hb z => k1 b o hb (up b o hb z)) k2
end
end Mine
end

section
open PySem PySem.W PySem.Calls PyProof.Rows Builtin Builtin.Str Builtin.Bytes
namespace Mine
section
variable {prog : Program} {w : World} {A : Around} {E : Value → Shared → Prop} {s : Shared} {t : Tok}
theorem enc_tree1 {x : PySem.Str} : «str.encode» ⟨[.str x t], []⟩ = (_codecs.encodeRoad "str.encode" (.str x t) x (PySem.Str.ofString "utf-8") none >>= fun v => ret v) := by kernel_rfl
theorem args_enc1 (a : Value) : argsOk "str.encode" ⟨[a], []⟩ := by unfold argsOk; kernel_rfl
theorem run_enc1 {x : PySem.Str} {b : List UInt8} (h : encSigns x.cps.toList = some b) (hb : b.length ≤ big) {Q : Value → Shared → Prop} (k : ∀ t', Q (.bytes b.toArray t') { s with toks := s.toks + 1 }) :
    wpAny (model prog w) A (call (.builtin "str.encode") [.str x t]) Q E s := by
  refine wpAny_call_entry F.slot_str_encode (typeIs_str s x t) F.entry_str_encode ?_ (args_enc1 _)
  rw [enc_tree1, road_enc (.inl rfl), enc_run h hb]
  refine wpAny_bind (wpAny_bind (wpAny_pure (wpAny_mkBytes ?_ (by rw [List.size_toArray, ← big_line]; exact hb))))
  exact wpAny_pure ⟨_, rfl, k _⟩
theorem slot_brepr : Slot "bytes" "__repr__" "bytes.__repr__" :=
  .of (owner := "bytes") (n := "__repr__") (by rw [typeLookup_type, builtinLookup_eq_fast]; kernel_rfl) (by decide +kernel) (by decide +kernel) (by decide +kernel)
    (by first | exact .inl (by decide +kernel) | exact .inr (by decide +kernel)) (by rw [isSubtype_type]; kernel_rfl)
theorem entry_brepr : entryFor table "bytes.__repr__" = some Builtin.«bytes.__repr__» := entryFor_of_tree (by kernel_rfl)
theorem args_brepr (a : Value) : argsOk "bytes.__repr__" ⟨[a], []⟩ := by unfold argsOk; kernel_rfl
theorem gives_brepr : Gives («bytes.__repr__» ⟨[.bytes #[102] t], []⟩) (.str (PySem.Str.ofString "b'f'")) := .of_eq (by kernel_rfl)
end
def pr104 : Arguments × List Stmt × Scope := (prT 104).get (by decide +kernel)
theorem df104 : (defOf q0 (PySem.Str.ofString "_raise_unknown_type")).map (fun x => (x.1.params, x.1.body, x.1.scope, x.2)) = some (pr104.1, pr104.2.1, pr104.2.2, []) := by kernel_rfl
theorem b104 : ∃ (p1 p2 p3 p4 p5 p6 p7 p8 p9 p10 p11 p12 p13 p14 p15 : Pos), pr104.2.1 =
  [.Raise (some (.Call (.Name (PySem.Str.ofString "InvalidBSON") p1) [.JoinedStr [.Constant (.str (PySem.Str.ofString "Detected unknown BSON type ")) 0 p2,
      .FormattedValue (.Call (.Attribute (.Call (.Name (PySem.Str.ofString "chr") p3) [.Name (PySem.Str.ofString "element_type") p4] [] p5) (PySem.Str.ofString "encode") p6) [] [] p7) 114 none p8,
      .Constant (.str (PySem.Str.ofString " for fieldname '")) 0 p9, .FormattedValue (.Name (PySem.Str.ofString "element_name") p10) (-1) none p11,
      .Constant (.str (PySem.Str.ofString "'. Are you using the latest driver version?")) 0 p12] p13] [] p14)) none p15] ∧ (p6.endLine == p7.line) = true := ⟨_, _, _, _, _, _, _, _, _, _, _, _, _, _, _, by with_unfolding_all rfl, by with_unfolding_all rfl⟩
theorem n104 : pr104.2.2.names = [(PySem.Str.ofString "element_type", .local), (PySem.Str.ofString "element_name", .local), (PySem.Str.ofString "InvalidBSON", .globalImplicit), (PySem.Str.ofString "chr", .globalImplicit)] := by with_unfolding_all rfl
theorem k104 : pr104.2.2.kind = .function := by with_unfolding_all rfl
theorem c104 : pr104.2.2.isCoroutine = false := by with_unfolding_all rfl
theorem g104 : pr104.2.2.isGenerator = false := by with_unfolding_all rfl
theorem kp576 {P : Params} : keepIn (kF P) (.ref 576) = true := by kernel_rfl
theorem chr_boot {P : Params} : nsIn (kF P) mainGlobals (PySem.Str.ofString "chr") = some none := by kernel_rfl
theorem def104 {K : Cfg} (Bs : Base K) : ∃ F o pm cd doc, K.mg (PySem.Str.ofString "_raise_unknown_type") = some (.ref F) ∧ K.base.get? F = some o ∧ o.data = .func (docDef (PySem.Str.ofString "_raise_unknown_type") pr104.1 pr104.2.1 pr104.2.2 pm cd doc) ∧ K.base.CodeRec cd (PySem.Str.ofString "_raise_unknown_type") := by
  obtain ⟨⟨d, kwd⟩, hd, e⟩ := Option.map_eq_some_iff.mp df104
  simp only [Prod.mk.injEq] at e
  obtain ⟨e1, e2, e3, e4⟩ := e
  obtain ⟨a, o, pm, cd, doc, dV, kV, h1, h2, h3, h4, h5⟩ := Bs.fns _ _ _ hd
  have hdf : pr104.1.defaults = [] := by kernel_rfl
  have hdV : dV = .none := by
    rcases h5.pos with ⟨_, q⟩ | ⟨q, _⟩
    · exact q
    · exact absurd (e1 ▸ hdf) q
  have hkV : kV = .none := by
    rcases h5.kw with ⟨_, q⟩ | ⟨q, _⟩
    · exact q
    · exact absurd e4 q
  subst hdV hkV
  have hn := defOf_name hd
  rw [hn, e1, e2, e3] at h3
  rw [hn] at h4
  exact ⟨a, o, pm, cd, doc, h1, h2, h3, h4⟩
end Mine
end

section
open PySem PySem.W PySem.Calls PyProof.Rows
namespace Mine
section
variable {K : Cfg} {A : Around} {E : Value → Shared → Prop} {s : Shared} {env : Env} {fr : List Env}
/-- an exception leaves a frame: its first record, at rest -/
theorem leave_new {M : Model} {L e : Addr} {base : Heap} {ce : Value} {de : Option Addr} {sle : Array (Option Value)} {t cx c3 c4 c5 : Value} {Q : Unit → Shared → Prop} (hfr : A.frames = some (env :: fr)) (hl : s.heap.FunFrames base (env :: fr)) (hf : env.frame = some L)
    (he : s.heap.get? e = some ⟨ce, de, .fields #[t, .none, cx, c3, c4, c5], sle⟩) (hen : e ∉ frsOf env fr)
    (h : ∀ h' T oT ts, s.heap.get? T = none → T ≠ e → Kp (frsOf env fr) (fun b => b = e) s.heap h' → h'.get? e = some ⟨ce, de, .fields #[t, .ref T, cx, c3, c4, c5], sle⟩ → h'.get? T = some oT → oT.data = .fields ts → ts[3]? = some .none → Q () { s with heap := h' }) :
    wpAny M A (leaving env (.ref e)) Q E s := by
  unfold leaving noteFrame
  simp only [hf]
  refine wpAny_bind (wpAny_bind (wpAny_field he rfl (x := .none) rfl ?_))
  rw [if_neg (by decide)]
  refine entry_ok hfr hl hf he rfl (by simp) hen fun h' T ts hT hTa kp ha hT' h3 => ?_
  have ha' : h'.get? e = some ⟨ce, de, .fields #[t, .ref T, cx, c3, c4, c5], sle⟩ := ha
  unfold setFlight
  refine wpAny_bind (wpAny_field ha' rfl (x := .ref T) rfl ?_)
  rw [if_pos (show (Value.ref T != Value.none) = true from by simp)]
  have hsz := (Array.getElem?_eq_some_iff.mp h3).1
  have other : ∀ b o, b ≠ T → h'.get? b = some o → (h'.update T (Obj.mapFields (·.setIfInBounds 3 Value.none))).get? b = some o := fun b o hb z => (Heap.get?_update_other _ _ (Ne.symm hb)).trans z
  have hT1 := Heap.get?_update_self (Obj.mapFields (·.setIfInBounds 3 Value.none)) hT' (Obj.isFreed_of_fields (Obj.data_mapFields rfl _))
  refine wpAny_setField (s := { s with heap := h' }) hT' rfl hsz (h _ T _ _ hT hTa ?_ (other e _ (Ne.symm hTa) ha') hT1 (Obj.data_mapFields rfl _) (by simp [hsz]))
  have nT : ∀ b o, s.heap.get? b = some o → b ≠ T := fun b o z q => by rw [q, hT] at z; cases z
  refine ⟨fun b o z => ?_, fun b o z n1 n2 => other b o (nT b o z) (kp.keep b o z n1 n2), fun b o z n1 n2 => ?_⟩
  · obtain ⟨o', z'⟩ := kp.there b o z
    exact ⟨o', other b o' (nT b o z) z'⟩
  · obtain ⟨sl, z'⟩ := kp.slots b o z n1 n2
    exact ⟨sl, other b _ (nT b o z) z'⟩

/-- InvalidBSON(x), x a string -/
theorem inv_call (Bs : Base K) {J : Expr} {nb : Str} {p1 p2 : Pos} {Q : Value → Shared → Prop} (hJ : plainE J = true) (hname : ∀ (Q' : Value → Shared → Prop), (∀ v, v = K.G 104 → Q' v s) → wpAny (model K.prog K.w) A (eval (.Name nb p1) env) Q' E s)
    (h : wpAny (model K.prog K.w) A (eval J env) (fun v s₁ => K.base.StaysIn s₁.heap ∧ ∀ h' e, Heap.MadeExcOf s₁.heap h' e (K.G 104) [v] → Q (.ref e) { s₁ with heap := h' }) E s) :
    wpAny (model K.prog K.w) A (eval (.Call (.Name nb p1) [J] [] p2) env) Q E s := by
  have e : eval (.Call (.Name nb p1) [J] [] p2) env = (eval (.Name nb p1) env >>= fun g => callWith p2 g [] (backTo p2 (starEach [J] env)) (backToKw p2 (keywordEach [] env))) := rfl
  rw [e]
  refine wpAny_bind (hname _ fun g hg => ?_)
  have hG : K.G 104 = .ref 576 := Bs.G ▸ rfl
  obtain ⟨C, hC0, O⟩ := own104_ok Bs
  obtain ⟨tl, N, nm0, q, bs, hdct, sn, sub, ab, col, dd, k0, k1, k2, k3, k5, mN, hC, hN, hni, T⟩ := O.obj
  subst hg
  rw [hC0]
  have hs : starEach [J] env = [(false, eval J env)] := by rw [star_plain hJ]; rfl
  have hC1 : C = 576 := Value.ref.inj (hC0.symm.trans hG)
  refine callWith_of (P := fun h => K.base.StaysIn h) (by rw [hs]; rfl) (fun h hst => by rw [hC1]; exact keeps_K kp576 h (Bs.inn.keeps hst)) ?_
  rw [hs]
  refine Calls.evalArgs_plain (Calls.spliced_cons (wpAny_mono h (fun v s₁ h₁ => Calls.spliced_nil ⟨h₁.1, ?_⟩) fun _ _ e => e))
  obtain ⟨hp, g, d, tk, os⟩ := s₁
  exact wpAny_call_exc_subT PySem.F.excBase_Exception (T.keeps h₁.1) (h₁.1 _ _ hC) (hN.keeps h₁.1) hni (fun h' e hm => h₁.2 h' e (hC0 ▸ hm)) (by show 1 ≤ 16777216; omega)
end
end Mine
end

section
open PySem PySem.W PySem.Calls PyProof.Rows
namespace Mine
section
variable {K : Cfg} {A : Around} {fe ev : Env} {outer : List Env} {B₀ : Addr → Prop} {pl : Nat → Bool} {ow₀ : Nat → Option Addr} {hE : Heap} {nm : Nms} {ρ : Env'} {s : Shared} {n : Nat} {E : Value → Shared → Prop}
def msg104 (y : Str) : Str := Str.ofString "Detected unknown BSON type " ++ Str.ofString "b'f'" ++ Str.ofString " for fieldname '" ++ y ++ Str.ofString "'. Are you using the latest driver version?"

/-- the words of the unknown type -/
theorem msg_eval {env : Env} {L : Addr} {m : Str → Option Value} {h₀ : Heap} (Bs : Base K) {A' : Around} (W : MEnv env pr104.2.2 L) (Fh : Fr h₀ L s.heap m) (st : K.base.StaysIn s.heap) {y : Str} (hy : y.length ≤ 1000) {t1 t2 : Tok}
    (v1 : m (Str.ofString "element_type") = some (.int 102 t1)) (v2 : m (Str.ofString "element_name") = some (.str y t2)) {p2 p3 p4 p5 p6 p7 p8 p9 p10 p11 p12 p13 : Pos} {Q : Value → Shared → Prop} (hl : (p6.endLine == p7.line) = true)
    (h : ∀ x t tk, Q (.str x t) { s with toks := tk }) :
    wpAny (model K.prog K.w) A' (eval (.JoinedStr [.Constant (.str (Str.ofString "Detected unknown BSON type ")) 0 p2,
      .FormattedValue (.Call (.Attribute (.Call (.Name (Str.ofString "chr") p3) [.Name (Str.ofString "element_type") p4] [] p5) (Str.ofString "encode") p6) [] [] p7) 114 none p8,
      .Constant (.str (Str.ofString " for fieldname '")) 0 p9, .FormattedValue (.Name (Str.ofString "element_name") p10) (-1) none p11,
      .Constant (.str (Str.ofString "'. Are you using the latest driver version?")) 0 p12] p13) env) Q E s := by
  have kt : pr104.2.2.names.lookup (Str.ofString "element_type") = some .local := by rw [n104]; rfl
  have kn : pr104.2.2.names.lookup (Str.ofString "element_name") = some .local := by rw [n104]; rfl
  have kc : pr104.2.2.names.lookup (Str.ofString "chr") = some .globalImplicit := by rw [n104]; rfl
  have chr_name : ∀ {s' : Shared} {p : Pos} {Q' : Value → Shared → Prop}, K.base.StaysIn s'.heap → Q' (.builtin "chr") s' → wpAny (model K.prog K.w) A' (eval (.Name (Str.ofString "chr") p) env) Q' E s' := fun {s' p Q'} st' q => by
    refine Calls.Name_function_global (by rw [W.scE]; exact W.kind) (by unfold Env.kindOf; rw [W.scE]; exact kc) (Calls.loadGlobal_builtin (mg := K.mg) (mb := K.mb) ?_ (mg_none_of Bs.inn Bs.g chr_boot) ?_ ((Bs.bt _ (by decide)).trans (by kernel_rfl)) q)
    · rw [W.gl]; exact Bs.g.keeps st'
    · rw [W.bl]; exact Bs.b.keeps st'
  have chr_ev : ∀ {s' : Shared} {m' : Str → Option Value} {Q' : Value → Shared → Prop}, Fr h₀ L s'.heap m' → m' (Str.ofString "element_type") = some (.int 102 t1) → K.base.StaysIn s'.heap → (∀ t tk, Q' (.str ⟨#[102]⟩ t) { s' with toks := tk }) →
      wpAny (model K.prog K.w) A' (eval (.Call (.Name (Str.ofString "chr") p3) [.Name (Str.ofString "element_type") p4] [] p5) env) Q' E s' := fun {s' m' Q'} F' v' st' q => by
    have e : eval (.Call (.Name (Str.ofString "chr") p3) [.Name (Str.ofString "element_type") p4] [] p5) env = (eval (.Name (Str.ofString "chr") p3) env >>= fun g => callWith p5 g [] (backTo p5 (starEach [.Name (Str.ofString "element_type") p4] env)) (backToKw p5 (keywordEach [] env))) := rfl
    rw [e]
    refine wpAny_bind (chr_name st' ?_)
    have hs : starEach [.Name (Str.ofString "element_type") p4] env = [(false, eval (.Name (Str.ofString "element_type") p4) env)] := by rw [star_plain rfl]; rfl
    refine callWith_of (P := fun _ => True) (by rw [hs]; rfl) (fun _ _ => ⟨.machine, .inr (.inl rfl), Looks.of_pure rfl⟩) ?_
    rw [hs]
    exact Calls.evalArgs_plain (Calls.spliced_cons (m_loc W F' kt v' (Calls.spliced_nil ⟨trivial, P.chr_of_int (by decide) (q _ _)⟩)))
  have enc_ev : ∀ {Q' : Value → Shared → Prop} {s' : Shared} {m' : Str → Option Value}, Fr h₀ L s'.heap m' → m' (Str.ofString "element_type") = some (.int 102 t1) → K.base.StaysIn s'.heap → (∀ t tk, Q' (.bytes #[102] t) { s' with toks := tk }) →
      wpAny (model K.prog K.w) A' (eval (.Call (.Attribute (.Call (.Name (Str.ofString "chr") p3) [.Name (Str.ofString "element_type") p4] [] p5) (Str.ofString "encode") p6) [] [] p7) env) Q' E s' := fun {Q' s' m'} F' v' st' q => by
    rw [arm_eval_Call, base_plain (o := .Call (.Name (Str.ofString "chr") p3) [.Name (Str.ofString "element_type") p4] [] p5) rfl]
    refine wpAny_bind (chr_ev F' v' st' fun t tk => wpAny_bind (wpAny_standAt ?_))
    unfold methodCall
    rw [show methodCallForm (([] : List Expr).length + ([] : List Keyword).length) (backTo p7 (starEach [] env)) (backToKw p7 (keywordEach [] env)) = true from rfl]
    have e1 : methodCallPos true (.Call (.Name (Str.ofString "chr") p3) [.Name (Str.ofString "element_type") p4] [] p5) env p6 p7 = pure p7 := by unfold methodCallPos; simp [hl]
    refine wpAny_bind (wpAny_holding (getMethod_builtin (typeIs_str _ _ _) F.plainAttrs_str F.slot_str_encode F.type_str_encode (fun a h => nomatch h) (wpAny_bind (wpAny_of_eq e1 ?_))))
    refine callWith_of (P := fun _ => True) rfl (fun _ _ => ⟨.machine, .inr (.inl rfl), Looks.of_pure rfl⟩) ?_
    refine wpAny_of_form (t' := (pure ⟨[], []⟩ : Sem Args)) rfl (wpAny_pure ?_)
    exact ⟨trivial, run_enc1 (b := [102]) rfl (by decide) fun t' => q t' _⟩
  have l1 : (Str.empty ++ Str.ofString "Detected unknown BSON type ").length ≤ sizeLine := by decide +kernel
  have l2 : (Str.empty ++ Str.ofString "Detected unknown BSON type " ++ Str.ofString "b'f'").length ≤ sizeLine := by decide +kernel
  have l3 : (Str.empty ++ Str.ofString "Detected unknown BSON type " ++ Str.ofString "b'f'" ++ Str.ofString " for fieldname '").length ≤ 100 := by decide +kernel
  have l4 : (Str.ofString "'. Are you using the latest driver version?").length ≤ 100 := by decide +kernel
  have hs : (1200 : Nat) ≤ sizeLine := by decide +kernel
  have l5 : (Str.empty ++ Str.ofString "Detected unknown BSON type " ++ Str.ofString "b'f'" ++ Str.ofString " for fieldname '" ++ y).length ≤ 1100 := by rw [strLen_append]; omega
  have l6 : (Str.empty ++ Str.ofString "Detected unknown BSON type " ++ Str.ofString "b'f'" ++ Str.ofString " for fieldname '" ++ y ++ Str.ofString "'. Are you using the latest driver version?").length ≤ sizeLine := by rw [strLen_append]; omega
  have last : ∀ tk, Joins (model K.prog K.w) A' E [eval (.Constant (.str (Str.ofString "'. Are you using the latest driver version?")) 0 p12) env] (Str.empty ++ Str.ofString "Detected unknown BSON type " ++ Str.ofString "b'f'" ++ Str.ofString " for fieldname '" ++ y)
      (fun out s₁ => out.length ≤ sizeLine ∧ Q (.str out s₁.toks) { s₁ with toks := s₁.toks + 1 }) { s with toks := tk } := fun tk => by
    unfold Joins
    refine Calls.Constant_str ⟨_, _, rfl, l6, ?_⟩
    unfold Joins
    exact ⟨l6, h _ _ _⟩
  have fin : ∀ tk, Joins (model K.prog K.w) A' E [eval (.Constant (.str (Str.ofString " for fieldname '")) 0 p9) env, eval (.FormattedValue (.Name (Str.ofString "element_name") p10) (-1) none p11) env, eval (.Constant (.str (Str.ofString "'. Are you using the latest driver version?")) 0 p12) env]
      (Str.empty ++ Str.ofString "Detected unknown BSON type " ++ Str.ofString "b'f'") (fun out s₁ => out.length ≤ sizeLine ∧ Q (.str out s₁.toks) { s₁ with toks := s₁.toks + 1 }) { s with toks := tk } := fun tk => by
    unfold Joins
    refine Calls.Constant_str ⟨_, _, rfl, by omega, ?_⟩
    unfold Joins
    refine wpAny_FormattedValue_plain (m_loc W (show Fr h₀ L s.heap m from Fh) kn v2 (wpAny_formatField_str ⟨_, _, rfl, by omega, last _⟩ ⟨_, _, rfl, by omega, last _⟩ (by omega)))
  refine wpAny_JoinedStr ?_
  have ee : ∀ a b c d e : Expr, evalEach [a, b, c, d, e] env = [eval a env, eval b env, eval c env, eval d env, eval e env] := fun _ _ _ _ _ => rfl
  rw [ee]
  unfold Joins
  refine Calls.Constant_str ⟨_, _, rfl, l1, ?_⟩
  unfold Joins
  exact wpAny_FormattedValue_repr (enc_ev Fh v1 st fun t tk => wpAny_pyReprObj_gives (T := "bytes") (PySem.W.typeIs_bytes _ _ _) slot_brepr entry_brepr (args_brepr _) gives_brepr (wpAny_formatField_str ⟨_, _, rfl, l2, fin _⟩ ⟨_, _, rfl, l2, fin _⟩ (by decide)) rfl (by decide))
end
end Mine
end

section
open PySem PySem.W PySem.Calls PyProof.Rows
namespace Mine
/-- the exception that is being handled: it has no context of its own -/
def NoCtx (h : Heap) (a : Addr) : Prop := ∃ ca da sla ta tba c3a c4a c5a, h.get? a = some ⟨ca, da, .fields #[ta, tba, .none, c3a, c4a, c5a], sla⟩
section
variable {K : Cfg} {A : Around} {fe ev : Env} {outer : List Env} {B₀ : Addr → Prop} {pl : Nat → Bool} {ow₀ : Nat → Option Addr} {hE : Heap} {nm : Nms} {ρ : Env'} {s : Shared} {n : Nat} {E : Value → Shared → Prop}
theorem unk_call (Bs : Base K) (S : SSt K A fe outer B₀ pl ow₀ hE nm ev ρ s.heap) (rm : Room A n) {a : Addr} (ha : NoCtx s.heap a) {y : Str} (hy : y.length ≤ 1000) {t1 t2 : Tok} {Fa : Addr} {o : Obj} {pm cd doc : Value}
    (ho : K.base.get? Fa = some o) (hd : o.data = .func (docDef (Str.ofString "_raise_unknown_type") pr104.1 pr104.2.1 pr104.2.2 pm cd doc)) (hcd : K.base.CodeRec cd (Str.ofString "_raise_unknown_type")) {Q : Value → Shared → Prop}
    (hE' : ∀ h' tk e, SSt K A fe outer B₀ pl ow₀ hE nm ev ρ h' → ExcS K fe ⟨.own 104, Option.none⟩ e hE h' → E (.ref e) { s with heap := h', toks := tk }) :
    wpAny (model K.prog K.w) (A.mark (some (.ref a))) (call (.ref Fa) [.int 102 t1, .str y t2]) Q E s := by
  obtain ⟨ow, m0, cm0, h1, h2, st⟩ := S.st
  have stay := st.I.stay
  have lim : s.heap.NoLimit := Bs.lim.keeps stay
  have hroom : (A.mark (some (.ref a))).depth < recursionLimit := by have := rm.depth; show A.depth < 1000; omega
  have hG : K.G 104 = .ref 576 := Bs.G ▸ rfl
  obtain ⟨C, hC0, O⟩ := own104_ok Bs
  obtain ⟨tl, N, nm0, q, bs, hdct, sn, sub, ab, col, dd, k0, k1, k2, k3, k5, mN, hC, hN, hni, T⟩ := O.obj
  refine wpAny_call (codeAny_call_def (fd := docDef (Str.ofString "_raise_unknown_type") pr104.1 pr104.2.1 pr104.2.2 pm cd doc) (body := pr104.2.1) (binds := [(Str.ofString "element_type", .int 102 t1), (Str.ofString "element_name", .str y t2)]) hroom (stay _ _ ho) hd lim (hcd.keeps stay) rfl (BindsTo.of_eq (by with_unfolding_all rfl)) ?_ ?_ (fun h₁ hns hk₁ => ?_) c104 g104 k104)
  · show ∀ z ∈ pr104.2.2.names, z.2 ≠ .cell
    rw [n104]; decide
  · show ∀ z ∈ [(Str.ofString "element_type", Value.int 102 t1), (Str.ofString "element_name", Value.str y t2)], pr104.2.2.names.lookup z.1 = some .local
    rw [n104]
    intro z hz
    simp only [List.mem_cons, List.mem_nil_iff, or_false] at hz
    rcases hz with rfl | rfl <;> rfl
  · have W : MEnv (callEnv (docDef (Str.ofString "_raise_unknown_type") pr104.1 pr104.2.1 pr104.2.2 pm cd doc) s.heap.objs.size Fa) pr104.2.2 s.heap.objs.size := ⟨rfl, rfl, rfl, rfl, k104⟩
    have hfr : (callEnv (docDef (Str.ofString "_raise_unknown_type") pr104.1 pr104.2.1 pr104.2.2 pm cd doc) s.heap.objs.size Fa).frame = some s.heap.objs.size := rfl
    generalize callEnv (docDef (Str.ofString "_raise_unknown_type") pr104.1 pr104.2.1 pr104.2.2 pm cd doc) s.heap.objs.size Fa = env at W hfr ⊢
    generalize hm : (fun z => [(Str.ofString "element_type", Value.int 102 t1), (Str.ofString "element_name", Value.str y t2)].reverse.lookup z) = m at hns
    have Fh : Fr s.heap s.heap.objs.size h₁ m := ⟨hns, hk₁, Nat.le_refl _⟩
    have v1 : m (Str.ofString "element_type") = some (.int 102 t1) := by rw [← hm]; rfl
    have v2 : m (Str.ofString "element_name") = some (.str y t2) := by rw [← hm]; rfl
    have ki : pr104.2.2.names.lookup (Str.ofString "InvalidBSON") = some .globalImplicit := by rw [n104]; rfl
    have stay₁ : K.base.StaysIn h₁ := fun b o e => hk₁ b o (stay b o e)
    obtain ⟨p1, p2, p3, p4, p5, p6, p7, p8, p9, p10, p11, p12, p13, p14, p15, hb, hl⟩ := b104
    have hL0 : s.heap.get? s.heap.objs.size = none := Heap.get?_none_of_le (Nat.le_refl _)
    obtain ⟨oL, esL, epL, hoL, hdL, _⟩ := hns
    rw [hb]
    refine wpAny_execs_cons ?_
    rw [arm_exec_Raise]
    refine wpAny_bind (wpAny_standAt (raiseStmt_under (C := C) (nm := nm0) (q := q) (N := N) (bs := bs) (bm := tl) (hdct := hdct) (sn := sn) (sub := sub) (ab := ab) (col := col) (dd := dd) (k0 := k0) (k1 := k1) (k2 := k2) (k3 := k3) (k5 := k5) (newId := "Exception.__new__") (a := a) (T.hasType (by decide)) rfl ?_))
    refine wpAny_bind (inv_call Bs rfl (fun Q' hq => m_glob Bs W stay₁ ki (v := .gl 104) rfl fun x r => hq x r) ?_)
    refine msg_eval Bs W Fh stay₁ hy v1 v2 hl fun x t tk => ?_
    refine ⟨stay₁, fun h₂ e hmk => wpAny_bind (wpAny_standAt (wpAny_pure ?_))⟩
    obtain ⟨tt, he2, htn, ht2⟩ := hmk.there
    have hea : a ≠ e := fun z => by
      obtain ⟨ca, da, sla, ta, tba, c3a, c4a, c5a, ha'⟩ := ha
      have := hk₁ _ _ ha'
      rw [z, hmk.new] at this; cases this
    have heC : K.base.get? e = none := by
      cases z : K.base.get? e with
      | none => rfl
      | some oo => have := stay₁ _ _ z; rw [hmk.new] at this; cases this
    refine ⟨e, tt, rfl, hea, hmk.keeps _ _ (stay₁ _ _ hC), ?_, by rw [hC0] at he2; exact he2, fun h₃ k3a k3b => ?_⟩
    · obtain ⟨ca, da, sla, ta, tba, c3a, c4a, c5a, ha'⟩ := ha
      exact ⟨ca, da, sla, ta, tba, c3a, c4a, c5a, hmk.keeps _ _ (hk₁ _ _ ha')⟩
    -- the frame is left
    have up3 : ∀ b o, h₁.get? b = some o → h₃.get? b = some o := fun b o z => k3a b o (fun z' => by rw [z', hmk.new] at z; cases z) (hmk.keeps b o z)
    have up3s : ∀ b o, s.heap.get? b = some o → h₃.get? b = some o := fun b o z => up3 b o (hk₁ b o z)
    have hen : e ∉ frsOf env (fe :: outer) := fun hz => by
      unfold frsOf at hz
      rw [List.filterMap_cons, hfr] at hz
      rcases List.mem_cons.mp hz with z | z
      · rw [z] at heC
        have := hmk.new
        rw [z] at this
        have q2 : h₁.get? s.heap.objs.size = some oL := by rw [← W.loc]; rw [W.loc]; exact hoL
        rw [q2] at this; cases this
      · obtain ⟨_, o', ho', _⟩ := st.I.ff.mem z
        have := hk₁ _ _ ho'
        rw [hmk.new] at this; cases this
    have ff : h₃.FunFrames K.base (env :: fe :: outer) := by
      refine ⟨by rw [W.scE, W.kind]; decide, ⟨s.heap.objs.size, oL, hfr, ?_, up3 _ _ hoL, fun vs z => by rw [hdL] at z; cases z⟩, funFrames_of st.I.ff fun b hb o ho hd => ⟨o, up3s b o ho, hd⟩⟩
      cases z : K.base.get? s.heap.objs.size with
      | none => rfl
      | some o' => exact absurd (Heap.lt_size (stay _ _ z)) (Nat.lt_irrefl _)
    have hfrs : ((A.mark (some (.ref a))).deeper env).frames = some (env :: fe :: outer) := by
      show A.frames.map (env :: ·) = _
      rw [st.I.frs]; rfl
    refine leave_new (s := { s with heap := h₃, toks := tk }) hfrs ff hfr k3b hen fun h₄ Tr oT ts hTn hTe kp he4 hT4 hdT h3T => ?_
    have en : s.heap.get? e = none := by
      cases z : s.heap.get? e with
      | none => rfl
      | some o' => have := hk₁ _ _ z; rw [hmk.new] at this; cases this
    have Tn : s.heap.get? Tr = none := by
      cases z : s.heap.get? Tr with
      | none => rfl
      | some o' => have := up3s _ _ z; rw [hTn] at this; cases this
    have hF : ∀ b o, s.heap.get? b = some o → b ∈ frsOf env (fe :: outer) → b ∈ frsOf fe outer := fun b o z hz => by
      unfold frsOf at hz ⊢
      rw [List.filterMap_cons, hfr] at hz
      rcases List.mem_cons.mp hz with rfl | hz
      · rw [hL0] at z; cases z
      · exact hz
    have kpS : Kp (frsOf fe outer) N0 s.heap h₄ := by
      refine ⟨fun b o z => kp.there b o (up3s b o z), fun b o z _ nf => kp.keep b o (up3s b o z) (fun q => by rw [q, en] at z; cases z) fun hz => nf (hF b o z hz), fun b o z _ hz => ?_⟩
      refine kp.slots b o (up3s b o z) (fun q => by rw [q, en] at z; cases z) ?_
      unfold frsOf
      rw [List.filterMap_cons, hfr]
      exact List.mem_cons_of_mem _ hz
    refine hE' h₄ tk e (S.step0 kpS) ⟨gone S.kp en, tt, .ref Tr, .ref a, .none, .bool false, .none, #[], Option.none, ?_, .inr ⟨Tr, oT, ts, rfl, gone S.kp Tn, hTe, hT4, hdT, .inl h3T⟩, fun n z => (by cases z), fun y z => (by cases z)⟩
    show h₄.get? e = some ⟨K.G 104, Option.none, .fields #[.ref tt, .ref Tr, .ref a, .none, .bool false, .none], #[]⟩
    rw [hC0]
    exact he4
end
end Mine
end

section
open PySem PySem.W PySem.Calls PyProof.Rows
namespace Mine
section
variable {K : Cfg} {A : Around} {fe ev : Env} {outer : List Env} {B₀ : Addr → Prop} {pl : Nat → Bool} {ow₀ : Nat → Option Addr} {hE h h' : Heap} {nm : Nms} {ρ : Env'} {s : Shared} {n : Nat} {sc : Scope} {E : Value → Shared → Prop}
theorem note_okA {A' : Around} (hA' : A'.frames = some (fe :: outer)) {k : EK} {a : Addr} {Q : Unit → Shared → Prop} (S : SSt K A fe outer B₀ pl ow₀ hE nm ev ρ s.heap) (x : ExcS K fe k a hE s.heap)
    (hQ : ∀ h', SSt K A fe outer B₀ pl ow₀ hE nm ev ρ h' → ExcV K k a hE h' (fun fl => ∃ L, fe.frame = some L ∧ fl = rawInt L) false → Q () { s with heap := h' }) : wpAny (model K.prog K.w) A' (noteFrame (.ref a) ev) Q E s := by
  obtain ⟨ow, m, cm, h1, h2, st⟩ := S.st
  obtain ⟨_, ⟨L, oL, hf, _, hLo, _⟩, _⟩ := st.I.ff
  have hfe : ev.frame = some L := st.W.frame.trans hf
  obtain ⟨n1, t, tb, cx, c3, c4, c5, sl, dd, e, q, c, m'⟩ := x
  have hen : a ∉ frsOf fe outer := fun hm => by
    obtain ⟨_, o, ho, hnf⟩ := st.I.ff.mem hm
    rw [e] at ho; cases ho; exact hnf _ rfl
  unfold noteFrame
  simp only [hfe]
  rcases q with rfl | ⟨T, oT, ts, rfl, q2, q3, q4, q5, q6⟩
  · refine wpAny_bind (wpAny_field e rfl (x := .none) rfl ?_)
    rw [if_neg (by decide)]
    rw [frameOf_eq st.W.frame]
    refine entry_ok hA' st.I.ff hf e rfl (by simp) hen fun h' T ts hT hTa kp ha hT' h3 => hQ h' ?_ ⟨n1, t, .ref T, cx, c3, c4, c5, sl, dd, ha, .inr ⟨T, _, ts, _, rfl, gone S.kp hT, hTa, hT', rfl, h3, L, hf, rfl⟩, c, fun y hy => ?_⟩
    · exact S.calm kp (fun b q => q ▸ n1) fun b o q e' => by subst q; rw [e] at e'; cases e'; exact ⟨_, rfl⟩
    · obtain ⟨m1, tk, o, ho, hc, nn, hd⟩ := m' y hy
      by_cases hfm : t ∈ frsOf fe outer
      · obtain ⟨sl', hs'⟩ := kp.slots t o ho (fun q => by subst q; rw [e] at ho; cases ho; cases hd) hfm
        exact ⟨m1, tk, _, hs', hc, nn, hd⟩
      · exact ⟨m1, tk, o, kp.keep t o ho (fun q => by subst q; rw [e] at ho; cases ho; cases hd) hfm, hc, nn, hd⟩
  · refine wpAny_bind (wpAny_field e rfl (x := .ref T) rfl ?_)
    rw [if_pos (show (Value.ref T != Value.none) = true from by simp)]
    rcases q6 with q6 | ⟨L', hL', q6⟩
    · refine wpAny_bind (wpAny_field q4 q5 q6 ?_)
      rw [if_neg (show ¬ ((Value.none == rawInt L) = true) from by simp [rawInt])]
      refine wpAny_bind (wpAny_setField q4 q5 (Array.getElem?_eq_some_iff.mp q6).1 ?_)
      have hTn : T ∉ frsOf fe outer := fun hm => by
        obtain ⟨_, o, ho, hnf⟩ := st.I.ff.mem hm
        rw [q4] at ho; cases ho; exact hnf _ q5
      have other : ∀ b o, b ≠ T → s.heap.get? b = some o → (s.heap.update T (Obj.mapFields (·.setIfInBounds 3 Value.none))).get? b = some o := fun b o hb e => (Heap.get?_update_other _ _ (Ne.symm hb)).trans e
      have hT1 := Heap.get?_update_self (Obj.mapFields (·.setIfInBounds 3 Value.none)) q4 (Obj.isFreed_of_fields (Obj.data_mapFields q5 _))
      have kp1 : Kp (frsOf fe outer) (fun b => b = T) s.heap (s.heap.update T (Obj.mapFields (·.setIfInBounds 3 Value.none))) := kp_keep (fun b o q e => other b o q e) fun b q => by subst q; exact ⟨_, hT1⟩
      have S1 := S.calm kp1 (fun b q => q ▸ q2) fun b o q e' => by subst q; rw [q4] at e'; cases e'; exact ⟨_, q5⟩
      obtain ⟨ow', m1, cm1, g1, g2, st1⟩ := S1.st
      rw [frameOf_eq st.W.frame]
      have e1 := other a _ (Ne.symm q3) e
      refine entry_ok (s := { s with heap := s.heap.update T (Obj.mapFields (·.setIfInBounds 3 Value.none)) }) hA' st1.I.ff hf e1 rfl (by simp) hen fun h' T' ts' hT' hTa kp ha hT'' h3 => hQ h' ?_ ⟨n1, t, .ref T', cx, c3, c4, c5, sl, dd, ha, .inr ⟨T', _, ts', _, rfl, gone S1.kp hT', hTa, hT'', rfl, h3, L, hf, rfl⟩, c, fun y hy => ?_⟩
      · exact S1.calm kp (fun b q => q ▸ n1) fun b o q e' => by subst q; rw [e1] at e'; cases e'; exact ⟨_, rfl⟩
      · obtain ⟨m1, tk, o, ho, hc, nn, hd⟩ := m' y hy
        have htT : t ≠ T := fun q => by subst q; rw [q4] at ho; cases ho; rw [q5] at hd; cases hd
        have ho1 := other t o htT ho
        by_cases hfm : t ∈ frsOf fe outer
        · obtain ⟨sl', hs'⟩ := kp.slots t o ho1 (fun q => by subst q; rw [e] at ho; cases ho; cases hd) hfm
          exact ⟨m1, tk, _, hs', hc, nn, hd⟩
        · exact ⟨m1, tk, o, kp.keep t o ho1 (fun q => by subst q; rw [e] at ho; cases ho; cases hd) hfm, hc, nn, hd⟩
    · rw [hf] at hL'; cases hL'
      refine wpAny_bind (wpAny_field q4 q5 q6 ?_)
      rw [if_pos (show (rawInt L == rawInt L) = true from by simp)]
      exact wpAny_pure (hQ s.heap S ⟨n1, t, .ref T, cx, c3, c4, c5, sl, dd, e, .inr ⟨T, oT, ts, _, rfl, q2, q3, q4, q5, q6, L, hf, rfl⟩, c, m'⟩)

end
end Mine
end

section
open PySem PySem.W PySem.Calls PyProof.Rows
namespace Mine
section
variable {K : Cfg} {A : Around} {fe ev : Env} {outer : List Env} {B₀ : Addr → Prop} {pl : Nat → Bool} {ow₀ : Nat → Option Addr} {hE h h' : Heap} {nm : Nms} {ρ : Env'} {s : Shared} {n : Nat} {sc : Scope} {E : Value → Shared → Prop}
theorem noCtx_of {k : EK} {a : Addr} {V : Value → Prop} {o : Bool} {b : String} (hk : k.cls = .blt b) (x : ExcV K k a hE h V o) : NoCtx h a := by
  obtain ⟨n1, t, tb, cx, c3, c4, c5, sl, dd, e, q, c, m'⟩ := x
  have := c b hk
  subst this
  exact ⟨_, _, _, _, _, _, _, _, e⟩
theorem getV_fv {i : Nat} {v : FV} (h : getV ρ i = .ok v) : ρ[i]? = some (some (.fv v)) := by
  unfold getV at h
  split at h
  · rename_i q; cases h; exact q
  · cases h
theorem kname_kind {nn : Str} (hs : ev.scope = sc) (hk : kName sc nn) : ev.kindOf nn ≠ none ∧ ev.kindOf nn ≠ some .globalImplicit := by
  unfold Env.kindOf
  rw [hs]
  rcases hk with q | q | q <;> rw [q] <;> exact ⟨(by intro z; cases z), (by intro z; cases z)⟩
theorem unkH_ok (Bs : Base K) {k : EK} {a : Addr} {t : Expr} {name : Option Str} {body : List Stmt} {pos : Pos} {i j : Nat}
    (S : SSt K A fe outer B₀ pl ow₀ hE nm ev ρ s.heap) (rm : Room A n) (hs : ev.scope = sc) (x : ExcV K k a hE s.heap (fun v => v = .none) false) (hd : HdOf nm.vs sc (.ExceptHandler (some t) name body pos) (.unk i j)) :
    EndsP K A fe outer B₀ pl ow₀ hE nm ev (hdAns ρ k (.unk i j)) s (Suite K A ev a name body pos s) := by
  have e0 : hdAns ρ k (.unk i j) = if k.cls == .blt "KeyError" then (match getV ρ i, getV ρ j with
    | .ok (.int x), .ok (.str y) => if decide (x = 102) && decide (y.length ≤ 1000) then .exc ⟨.own 104, Option.none⟩ ρ else .no
    | _, _ => .no) else .no := rfl
  rw [e0]
  split
  case isFalse => trivial
  rename_i hk
  have hk' : k.cls = .blt "KeyError" := eq_of_beq hk
  split
  case h_2 => trivial
  rename_i xi y gi gj
  split
  case isFalse => trivial
  rename_i hxy
  rw [Bool.and_eq_true, decide_eq_true_eq, decide_eq_true_eq] at hxy
  obtain ⟨rfl, hy⟩ := hxy
  cases hd with
  | unk q1 q2 q3 q4 q5 q6 q7 q8 q9 =>
    rename_i n1 m1 p1 p2 p3 p4 p5
    intro Q E hQ
    refine codeAny_handlers_suite (flight_ok S x fun h' S' x' => wpAny_execs_cons ?_)
    obtain ⟨ow, m, cm, h1, h2, st⟩ := S'.st
    have hint : interactive ev = false := by unfold interactive; rw [st.W.kind]; rfl
    refine wpAny_Expr_any ?_ hint rfl
    have e : eval (.Call (.Name (Str.ofString "_raise_unknown_type") p1) [.Name n1 p2, .Name m1 p3] [] p4) ev = (eval (.Name (Str.ofString "_raise_unknown_type") p1) ev >>= fun g => callWith p4 g [] (backTo p4 (starEach [.Name n1 p2, .Name m1 p3] ev)) (backToKw p4 (keywordEach [] ev))) := rfl
    rw [e]
    obtain ⟨Fa, o, pm, cd, doc, f1, f2, f3, f4⟩ := def104 Bs
    refine wpAny_bind (Calls.Name_function_global st.W.kind (by unfold Env.kindOf; rw [hs]; exact q9) (Calls.loadGlobal_global (mg := K.mg) (by rw [st.W.gl]; exact Bs.g.keeps st.I.stay) f1 ?_) (by decide))
    have hsv : starEach [.Name n1 p2, .Name m1 p3] ev = [(false, eval (.Name n1 p2) ev), (false, eval (.Name m1 p3) ev)] := by rw [star_plain rfl, star_plain rfl]; rfl
    refine callWith_of (P := fun h => K.base.StaysIn h) (by rw [hsv]; rfl) (fun h hst => ?_) ?_
    · obtain ⟨oc, od, oda, osl⟩ := o
      dsimp only at f3
      subst f3
      exact ⟨.frame, .inl rfl, (Looks.ld (part := none) (hst _ _ f2)).andThen .now⟩
    rw [hsv]
    have val : ∀ {i : Nat} {nn : Str} {v : FV}, getV ρ i = .ok v → nm.vs[i]? = some nn → kName sc nn → ∃ z, lookV ev m cm nn = some z ∧ RV K h' (BO B₀ ow) v z := fun {i nn v} g g2 g3 => by
      obtain ⟨k1, k2⟩ := kname_kind hs g3
      exact st.R.fv _ _ _ (getV_fv g) g2 (by rw [S'.ncs]; exact fun z => nomatch z) k1 k2
    obtain ⟨z1, l1, r1⟩ := val gi q1 q3
    obtain ⟨z2, l2, r2⟩ := val gj q2 q4
    obtain ⟨t1, rfl⟩ := r1
    obtain ⟨_, t2, rfl⟩ := r2
    refine Calls.evalArgs_plain (Calls.spliced_cons (load_lookV st.W st.R.fr l1 (Calls.spliced_cons (load_lookV st.W st.R.fr l2 (Calls.spliced_nil ⟨st.I.stay, ?_⟩) q7 q8)) q5 q6))
    refine unk_call (s := { s with heap := h' }) Bs S' rm (noCtx_of hk' x') hy f2 f3 f4 fun h₂ tk e S2 x2 => ?_
    unfold notedBy
    refine note_okA (s := { s with heap := h₂, toks := tk }) (by show A.frames = _; exact st.I.frs) S2 x2 fun h₃ S3 x3 => ?_
    exact cameBack_ok (s := { s with heap := h₃, toks := tk }) S3 x3 fun h₄ S4 x4 => hQ e h₄ tk S4 x4
end
end Mine
end

section
open PySem PySem.W PySem.Calls PyProof.Rows
namespace Mine
section
variable {K : Cfg} {A : Around} {fe ev : Env} {outer : List Env} {B₀ : Addr → Prop} {pl : Nat → Bool} {ow₀ : Nat → Option Addr} {hE h h' : Heap} {nm : Nms} {ρ : Env'} {s : Shared} {n : Nat} {sc : Scope} {E : Value → Shared → Prop}
/-- a name that is not known of turns -/
theorem SSt.junk {i : Nat} {nn : Str} {v : Option Value} {ow : Nat → Option Addr} {m cm : Str → Option Value} (S : SSt K A fe outer B₀ pl ow₀ hE nm ev ρ h) (h1 : ∀ i, pl i = true → ow i = ow₀ i) (h2 : ∀ i a, pl i = false → ow i = some a → ¬ B₀ a ∧ hE.get? a = none)
    (st : St K A fe outer (BO B₀ ow) nm ev ow ρ [] m cm h) (hv : nm.vs[i]? = some nn) (hu : unb ρ i = true) (hs : Heap.SameBut ev.locals h h') (hns : h'.Ns ev.locals (fun z => if z = nn then v else m z)) : SSt K A fe outer B₀ pl ow₀ hE nm ev ρ h' := by
  have hb : B₀ ev.locals := S.bl
  have kp : Kp (frsOf fe outer) (fun c => c = ev.locals) h h' := kp_keep (fun c o q e => hs.extBut c o q e) fun c q => by
    subst q
    obtain ⟨o, es, ep, ho, _⟩ := hns
    exact ⟨o, ho⟩
  have hX : ∀ c o, h.get? c = some o → c = ev.locals → BO B₀ ow c := fun c o _ q => .inl (q ▸ hb)
  have I' : Inv K A fe outer (BO B₀ ow) h' := st.I.step kp hX fun c _ q => by
    subst q
    obtain ⟨o, es, ep, ho, hd, _⟩ := hns
    exact ⟨o, ho, fun vs q => by rw [hd] at q; cases q⟩
  have hi : ∀ (j : Nat) (lv : LV), ρ[j]? = some (some lv) → j ≠ i := fun j lv e q => by
    subst q
    unfold unb at hu
    rw [e] at hu
    cases hu
  have hne : ∀ (j : Nat) (n' : Str), j ≠ i → nm.vs[j]? = some n' → n' ≠ nn := fun j n' hj hn' q => by
    subst q
    exact hj ((List.getElem?_inj (by exact (List.getElem?_eq_some_iff.mp hn').1) S.nd).mp (hn'.trans hv.symm))
  have look : ∀ n', n' ≠ nn → lookV ev (fun z => if z = nn then v else m z) cm n' = lookV ev m cm n' := fun n' q => by
    unfold lookV
    split <;> first | rfl | exact if_neg q
  have R' : EnvR K nm ev h' (BO B₀ ow) ow ρ [] (fun z => if z = nn then v else m z) cm := by
    refine ⟨⟨hns, fun n c hc => ?_⟩, fun j n' v' g1 g2 g3 g4 g5 => ?_, fun j n' v' g1 _ => by simp at g1, fun j n' lv g1 g2 g3 => ?_⟩
    · obtain ⟨o, ho, hd⟩ := st.R.fr.cell n c hc
      exact ⟨o, hs.extBut c o (st.W.apart.2 n c hc) ho, hd⟩
    · obtain ⟨y, e1, r1⟩ := st.R.fv j n' v' g1 g2 g3 g4 g5
      exact ⟨y, (look n' (hne j n' (hi j _ g1) g2)).trans e1, r1.stepX st.I kp hX⟩
    · obtain ⟨a, e1, e2, e3, e4⟩ := st.R.own j n' lv g1 g2 g3
      refine ⟨a, e1, fun q => (look n' (hne j n' (hi j _ g1) g3)).trans (e2 q), e3, e4.stepX st.I (st.O.1 j a e1).1 (fun q => (st.O.1 j a e1).2.1 q) kp hX⟩
  exact ⟨S.base, S.nd, S.ncs, S.bl, S.bc, S.bfr, S.bp, S.kp.trans kp (fun _ q => q) (fun c o _ q => .inl q), ow, _, _, h1, h2, I', st.W, st.O, R'⟩
theorem ExcV.junk {k : EK} {a : Addr} {V : Value → Prop} {o : Bool} {m : Str → Option Value} (x : ExcV K k a hE h V o) (hn : h.Ns ev.locals m) (hs : Heap.SameBut ev.locals h h') : ExcV K k a hE h' V o := by
  obtain ⟨oL, es, ep, hoL, hdL, _⟩ := hn
  have up : ∀ b ob, h.get? b = some ob → (∀ es ep, ob.data ≠ .dict es ep) → h'.get? b = some ob := fun b ob e q => hs.extBut b ob (fun z => by subst z; rw [hoL] at e; cases e; exact q _ _ hdL) e
  obtain ⟨n1, t, tb, cx, c3, c4, c5, sl, dd, e, q, c, m'⟩ := x
  refine ⟨n1, t, tb, cx, c3, c4, c5, sl, dd, up _ _ e (fun _ _ z => by cases z), q.imp id ?_, c, fun y hy => ?_⟩
  · rintro ⟨T, oT, ts, fl, g1, g2, g3, g4, g5, g6, g7⟩
    exact ⟨T, oT, ts, fl, g1, g2, g3, up _ _ g4 (fun _ _ z => by rw [g5] at z; cases z), g5, g6, g7⟩
  · obtain ⟨m1, tk, ob, ho, hc, nn, hd⟩ := m' y hy
    exact ⟨m1, tk, ob, up _ _ ho (fun _ _ z => by rw [hd] at z; cases z), hc, nn, hd⟩
end
end Mine
end

section
open PySem PySem.W PySem.Calls PyProof.Rows
namespace Mine
section
variable {K : Cfg} {A : Around} {fe ev : Env} {outer : List Env} {B₀ : Addr → Prop} {pl : Nat → Bool} {ow₀ : Nat → Option Addr} {hE h h' : Heap} {nm : Nms} {ρ : Env'} {s : Shared} {n : Nat} {sc : Scope} {E : Value → Shared → Prop}
theorem strH_ok (Bs : Base K) {k : EK} {a : Addr} {t : Expr} {name : Option Str} {body : List Stmt} {pos : Pos} {i : Nat} {c : EC}
    (S : SSt K A fe outer B₀ pl ow₀ hE nm ev ρ s.heap) (rm : Room A n) (hs : ev.scope = sc) (x : ExcV K k a hE s.heap (fun v => v = .none) false) (hd : HdOf nm.vs sc (.ExceptHandler (some t) name body pos) (.raiseStr i c)) :
    EndsP K A fe outer B₀ pl ow₀ hE nm ev (hdAns ρ k (.raiseStr i c)) s (Suite K A ev a name body pos s) := by
  have e0 : hdAns ρ k (.raiseStr i c) = if strOk k.cls c && unb ρ i then (match k.msg with | some x => .exc ⟨c, some x⟩ ρ | Option.none => .no) else .no := rfl
  rw [e0]
  split
  case isFalse => trivial
  rename_i hc
  rw [Bool.and_eq_true] at hc
  obtain ⟨hc, hu⟩ := hc
  unfold strOk at hc
  rw [Bool.and_eq_true] at hc
  have hk' : k.cls = .blt "ValueError" := eq_of_beq hc.1
  have hc' : c = .own 104 := eq_of_beq hc.2
  subst hc'
  cases hmsg : k.msg with
  | none => trivial
  | some y =>
  cases hd with
  | raiseStr q1 q2 q3 q4 q5 =>
    rename_i n1 p1 p2 p3 p4 p5 p6 kk b
    cases q3 with
    | own gb kb =>
      rename_i nb pb
      intro Q E hQ
      have hlk : ev.kindOf n1 = some .local := by unfold Env.kindOf; rw [hs]; exact q2
      have hA' : (A.mark (some (.ref a))).frames = some (fe :: outer) := by
        obtain ⟨_, _, _, _, _, st⟩ := S.st
        exact st.I.frs
      obtain ⟨C, hC0, O⟩ := own104_ok Bs
      obtain ⟨tl, N, nm0, q, bs, hdct, sn, sub, ab, col, dd, k0, k1, k2, k3, k5, mN, hC, hN, hni, T⟩ := O.obj
      refine codeAny_handlers_suite_as (flight_ok S x fun h' S' x' => ?_)
      obtain ⟨ow, m, cm, h1, h2, st⟩ := S'.st
      have hp : (ev.scope.kind == .class || (ev.scope.kind == .module && ev.locals != ev.globals)) = false := by rw [st.W.kind]; rfl
      refine wpAny_storeName_local hlk st.R.fr.ns (fun h₂ hn₂ hs₂ => ?_) hp
      have S₂ := S'.junk h1 h2 st q1 hu hs₂ hn₂
      have x₂ := x'.junk st.R.fr.ns hs₂
      have nc := noCtx_of hk' x₂
      have st₂ : K.base.StaysIn h₂ := by
        obtain ⟨_, _, _, _, _, z⟩ := S₂.st
        exact z.I.stay
      -- raise C(str(exc)) from None
      refine wpAny_execs_cons ?_
      rw [arm_exec_Raise]
      refine wpAny_bind (wpAny_standAt (raiseStmt_from (C := C) (nm := nm0) (q := q) (N := N) (bs := bs) (bm := tl) (hdct := hdct) (sn := sn) (sub := sub) (ab := ab) (col := col) (dd := dd) (k0 := k0) (k1 := k1) (k2 := k2) (k3 := k3) (k5 := k5) (newId := "Exception.__new__") (a := a) (T.hasType (by decide)) rfl (fun s' Q' q' => wpAny_bind (wpAny_of_eq (a := Value.none) rfl (wpAny_bind (wpAny_standAt (wpAny_pure q'))))) ?_))
      refine wpAny_bind (inv_call Bs rfl (fun Q' hq => ?_) ?_)
      · obtain ⟨z, ez, rz⟩ := gt_ok Bs _ _ gb
        exact Calls.Name_function_global st.W.kind (by unfold Env.kindOf; rw [hs]; exact kb) (Calls.loadGlobal_global (mg := K.mg) (by rw [st.W.gl]; exact Bs.g.keeps st₂) ez (hq z rz)) (by
          cases hd : (nb == ("__debug__" : Str)) with
          | false => rfl
          | true =>
            rw [eq_of_beq hd] at gb
            have : (gtab ("__debug__" : Str)).isNone = true := by decide
            rw [gb] at this
            cases this)
      · -- str(exc)
        have es : eval (.Call (.Name (Str.ofString "str") p1) [.Name n1 p2] [] p3) ev = (eval (.Name (Str.ofString "str") p1) ev >>= fun g => callWith p3 g [] (backTo p3 (starEach [.Name n1 p2] ev)) (backToKw p3 (keywordEach [] ev))) := rfl
        rw [es]
        have hbs : btab (Str.ofString "str") = some (.type "str") := by decide
        obtain ⟨u1, u2⟩ := bt_ok Bs _ _ hbs
        refine wpAny_bind (Calls.Name_function_global st.W.kind (by unfold Env.kindOf; rw [hs]; exact q4) (Calls.loadGlobal_builtin (mg := K.mg) (mb := K.mb) (by rw [st.W.gl]; exact Bs.g.keeps st₂) u1 (by rw [st.W.bl]; exact Bs.b.keeps st₂) u2 ?_) (by decide))
        have hsv : starEach [.Name n1 p2] ev = [(false, eval (.Name n1 p2) ev)] := by rw [star_plain rfl]; rfl
        refine callWith_of (P := fun _ => True) (by rw [hsv]; rfl) (fun _ _ => ⟨.machine, .inr (.inl rfl), Looks.of_pure rfl⟩) ?_
        rw [hsv]
        obtain ⟨n1', tt, tb, cx, c3, c4, c5, sl, dd', ea, qa, ca, ma⟩ := id x₂
        obtain ⟨hEt, tk1, ot, hot, hoc, nn1, hod⟩ := ma y hmsg
        refine Calls.evalArgs_plain (Calls.spliced_cons (wpAny_Name (wpAny_loadName_local st.W.kind hlk hn₂ (if_pos rfl) (Calls.spliced_nil ⟨trivial, ?_⟩)) q5))
        have hX : (⟨h₂, s.gens, s.drawn, s.toks + 1, s.os⟩ : Shared).heap.ExcAt a "ValueError" (.ref tt) := ⟨_, _, ea, by show clsV K k.cls = _; rw [hk']; rfl, rfl, rfl⟩
        refine P.str_of_exc_one (s := ⟨h₂, s.gens, s.drawn, s.toks + 1, s.os⟩) F.excStr_ValueError (by have := rm.units; show A.units + 2 < 9900; omega) hX ⟨ot, nn1, hot, hoc, hod⟩ ?_
        refine ⟨st₂, fun h₃ e hmk => wpAny_bind (wpAny_standAt (wpAny_pure ?_))⟩
        obtain ⟨te, he3, hten, hte⟩ := hmk.there
        have hea : a ≠ e := fun z => by
          have := hmk.new
          rw [← z] at this
          have e2 : h₂.get? a = _ := ea
          rw [show h₂.get? a = none from this] at e2; cases e2
        have hCe : C ≠ e := fun z => by
          have := st₂ _ _ hC
          rw [z] at this
          have q' : h₂.get? e = none := hmk.new
          rw [q'] at this; cases this
        refine ⟨e, te, rfl, hea, hCe, hmk.keeps _ _ (st₂ _ _ hC), ?_, by rw [hC0] at he3; exact he3, fun h₄ k4a k4b => ?_⟩
        · obtain ⟨ca', da', sla', ta', tba', c3a', c4a', c5a', ha'⟩ := nc
          exact ⟨ca', da', sla', ta', tba', c3a', c4a', c5a', hmk.keeps _ _ ha'⟩
        have up4 : ∀ b o, h₂.get? b = some o → h₄.get? b = some o := fun b o z => k4a b o (fun z' => by
          rw [z'] at z
          have q' : h₂.get? e = none := hmk.new
          rw [q'] at z; cases z) (hmk.keeps b o z)
        have S₄ : SSt K A fe outer B₀ pl ow₀ hE nm ev ρ h₄ := S₂.step0 (Kp.of_keep up4)
        have hete : te ≠ e := fun z => by
          rw [z, he3] at hte
          have q := congrArg (fun o => o.data) (Option.some.inj hte)
          cases q
        have x₄ : ExcS K fe ⟨.own 104, some y⟩ e hE h₄ := ⟨gone S₂.kp hmk.new, te, .none, .ref a, .none, .bool true, .none, #[], Option.none, (by
            show h₄.get? e = some ⟨K.G 104, Option.none, .fields #[.ref te, .none, .ref a, .none, .bool true, .none], #[]⟩
            rw [hC0]; exact k4b), .inl rfl, fun n z => (by cases z), fun z hz => by
              cases hz
              exact ⟨gone S₂.kp hten, tk1, _, k4a _ _ hete hte, rfl, _, rfl⟩⟩
        -- the frame is noted, the name goes, the exception passes on
        refine note_okA (s := { s with heap := h₄, toks := s.toks + 1 }) hA' S₄ x₄ fun h₅ S₅ x₅ => ?_
        obtain ⟨ow5, m5, cm5, h15, h25, st5⟩ := S₅.st
        refine wpAny_nameGoes_keeps (s := { s with heap := h₅, toks := s.toks + 1 }) hlk st5.R.fr.ns hp fun h₆ v hn₆ hs₆ => ?_
        have S₆ := S₅.junk h15 h25 st5 q1 hu hs₆ hn₆
        have x₆ := x₅.junk st5.R.fr.ns hs₆
        refine passOn_ok (s := { s with heap := h₆, toks := s.toks + 1 + 1 }) S₆ x₆ fun h₇ S₇ x₇ => ?_
        unfold notedBy
        obtain ⟨_, _, _, _, _, st7⟩ := S₇.st
        refine note_again (s := { s with heap := h₇, toks := s.toks + 1 + 1 }) st7.W.frame x₇ ?_
        exact cameBack_ok (s := { s with heap := h₇, toks := s.toks + 1 + 1 }) S₇ x₇ fun h₈ S₈ x₈ => hQ e h₈ _ S₈ x₈
theorem ok3_of (Bs : Base K) : Ok3 K where
  own104 := by
    obtain ⟨C, hC, O⟩ := own104_ok Bs
    exact ⟨_, C, _, _, _, _, hC, O, PySem.F.excBase_Exception⟩
  match104 := fun hm ho hc st hq => match104_ok Bs hm ho hc st hq
  strH := fun S rm hs x hd => strH_ok Bs S rm hs x hd
  unkH := fun S rm hs x hd => unkH_ok Bs S rm hs x hd
end
end Mine
end

section
open PySem
namespace Mine

section
variable {a b i n : Int} {p q : List UInt8} {x y : Str} {l m : List FV} {v w : FV} {d : List (Str × FV)} {B : Bool}
@[simp] theorem pP1 : evP .add [.int a, .int b] = .ok (.int (a + b)) := nr rfl
@[simp] theorem pP2 : evP .add [.bytes p, .bytes q] = okBytes (p ++ q) := nr rfl
@[simp] theorem pP3 : evP .add [.str x, .str y] = okStr (x ++ y) := nr rfl
@[simp] theorem pP4 : evP .sub [.int a, .int b] = .ok (.int (a - b)) := nr rfl
@[simp] theorem pP5 : evP .mul [.int a, .int b] = if smallInt b then .ok (.int (a * b)) else .no := nr rfl
@[simp] theorem pP6 : evP .mul [.bytes p, .int n] = if decide (p.length ≤ 16) && !p.isEmpty && decide (0 ≤ n) && decide (n ≤ 1000) then .ok (.bytes (List.replicate n.toNat p).flatten) else .no := nr rfl
@[simp] theorem pP7 : evP .mul [.str x, .int n] = if decide (x.length = 1) && decide (0 ≤ n) && decide (n ≤ 1000) then .ok (.str (repStr x n.toNat)) else .no := nr rfl
@[simp] theorem pP8 : evP .div [.int a, .int b] = if decide (0 < b) && decide (b < 2 ^ 29) then .ok (.int (a.fdiv b)) else .no := nr rfl
@[simp] theorem pP9 : evP .mod [.int a, .int b] = if decide (0 < b) && decide (b < 2 ^ 33) then .ok (.int (a.fmod b)) else .no := nr rfl
@[simp] theorem pP10 : evP .lt [.int a, .int b] = .ok (.bool (decide (a < b))) := nr rfl
@[simp] theorem pP11 : evP .le [.int a, .int b] = .ok (.bool (decide (a ≤ b))) := nr rfl
@[simp] theorem pP12 : evP .gt [.int a, .int b] = .ok (.bool (decide (a > b))) := nr rfl
@[simp] theorem pP13 : evP .ge [.int a, .int b] = .ok (.bool (decide (a ≥ b))) := nr rfl
@[simp] theorem pP14 : evP .eq [.int a, .int b] = .ok (.bool (decide (a = b))) := nr rfl
@[simp] theorem pP15 : evP .ne [.int a, .int b] = .ok (.bool (!decide (a = b))) := nr rfl
@[simp] theorem pP16 : evP .eq [.bytes p, .bytes q] = .ok (.bool (p == q)) := nr rfl
@[simp] theorem pP17 : evP .ne [.bytes p, .bytes q] = .ok (.bool (p != q)) := nr rfl
@[simp] theorem pP18 : evP .eq [.str x, .str y] = .ok (.bool (decide (x = y))) := nr rfl
@[simp] theorem pP19 : evP .ne [.str x, .str y] = .ok (.bool (!decide (x = y))) := nr rfl
@[simp] theorem pP20 : evP .eq [.code x, .code y] = .ok (.bool (decide (x = y))) := nr rfl
@[simp] theorem pP21 : evP .eq [.lst l, .lst m] = match allStrs l, allStrs m with
    | some x, some y => .ok (.bool (decide (x = y)))
    | _, _ => match allBools l, allBools m with
      | some x, some y => .ok (.bool (decide (x = y)))
      | _, _ => .no := nr rfl
@[simp] theorem pP22 : evP .inn [.str x, .str y] = if decide (x.length = 1) then .ok (.bool (y.cps.toList.contains (x.cps.toList.headD 0))) else .no := nr rfl
@[simp] theorem pP23 : evP .inn [.int a, .tup l] = match allInts l with | some is => .ok (.bool (is.contains a)) | Option.none => .no := nr rfl
@[simp] theorem pP24 : evP .inn [.str x, .dct d] = .ok (.bool (dctGet d x).isSome) := nr rfl
@[simp] theorem pP25 : evP .not [v] = match v.truth with | some b => .ok (.bool !b) | Option.none => .no := nr rfl
@[simp] theorem pP26 : evP .len [.bytes p] = .ok (.int p.length) := nr rfl
@[simp] theorem pP27 : evP .len [.str x] = .ok (.int x.length) := nr rfl
@[simp] theorem pP28 : evP .len [.lst l] = .ok (.int l.length) := nr rfl
@[simp] theorem pP29 : evP .len [.tup l] = .ok (.int l.length) := nr rfl
@[simp] theorem pP30 : evP .idx [.tup l, .int i] = if decide (0 ≤ i) then (match l[i.toNat]? with | some v => .ok v | Option.none => .no) else .no := nr rfl
@[simp] theorem pP31 : evP .idx [.lst l, .int i] = if decide (0 ≤ i) then (match l[i.toNat]? with | some v => .ok v | Option.none => .no) else .no := nr rfl
@[simp] theorem pP32 : evP .idx [.bytes p, .int i] = if decide (0 ≤ i) then (match p[i.toNat]? with | some v => .ok (.int v.toNat) | Option.none => .no) else .no := nr rfl
@[simp] theorem pP33 : evP .idx [.gl 101, .int i] = match getterOf i with | some r => r | Option.none => .exc ⟨.blt "KeyError", Option.none⟩ := nr rfl
@[simp] theorem pP34 : evP .idx [.dct d, .str x] = match dctGet d x with | some v => .ok v | Option.none => .no := nr rfl
@[simp] theorem pP35 : evP .slAB [.bytes p, .int a, .int b] = if decide (0 ≤ a) && decide (0 ≤ b) && smallInt a && smallInt b then .ok (.bytes ((p.take b.toNat).drop a.toNat)) else .no := nr rfl
@[simp] theorem pP36 : evP .slA [.bytes p, .int a] = if decide (0 ≤ a) && smallInt a then .ok (.bytes (p.drop a.toNat)) else .no := nr rfl
@[simp] theorem pP37 : evP .slB [.bytes p, .int b] = if decide (0 ≤ b) && smallInt b then .ok (.bytes (p.take b.toNat)) else .no := nr rfl
@[simp] theorem pP38 : evP .slB [.lst l, .int b] = if decide (0 ≤ b) && smallInt b then .ok (.lst (l.take b.toNat)) else .no := nr rfl
@[simp] theorem pP39 : evP .mkTup l = if l.length ≤ 1000 then .ok (.tup l) else .no := nr rfl
@[simp] theorem pP40 : evP .mkLst l = if l.length ≤ 1000 then .ok (.lst l) else .no := nr rfl
@[simp] theorem pP41 {cs : List FV} : evP (.isi cs) [v] = match isiAny v cs with | some b => .ok (.bool b) | Option.none => .no := nr rfl
@[simp] theorem pP42 : evP .min2 [.int a, .int b] = .ok (.int (if b < a then b else a)) := nr rfl
@[simp] theorem pP43 : evP .max2 [.int a, .int b] = .ok (.int (if b > a then b else a)) := nr rfl
@[simp] theorem pP44 : evP .sum [.lst l] = match allInts l with | some is => .ok (.int is.sum) | Option.none => .no := nr rfl
@[simp] theorem pP45 : evP .all [.lst l] = match allBools l with | some bs => .ok (.bool (bs.all id)) | Option.none => .no := nr rfl
@[simp] theorem pP46 : evP .strInt [.int i] = if decide (0 ≤ i) && decide (i < 1000) then .ok (.str ⟨(digitsOf i.toNat).toArray⟩) else .no := nr rfl
@[simp] theorem pP47 : evP .tupleOf [.lst l] = .ok (.tup l) := nr rfl
@[simp] theorem pP48 : evP .listOf [.dct d] = if d.all (fun p => decide (p.1.length ≤ 1000)) then .ok (.lst (d.map fun p => .str p.1)) else .no := nr rfl
@[simp] theorem pP49 : evP .bytesOf [.lst l] = match allInts l with
    | some is => if is.all (fun i => decide (0 ≤ i) && decide (i < 256)) then .ok (.bytes (is.map fun i => i.toNat.toUInt8)) else .no
    | Option.none => .no := nr rfl
@[simp] theorem pP50 : evP .join [.lst l] = match allBytes l with | some bs => okBytes bs.flatten | Option.none => .no := nr rfl
@[simp] theorem pP51 : evP .enc [.str x] = match encSigns x.cps.toList with | some b => okBytes b | Option.none => .no := nr rfl
@[simp] theorem pP52 : evP .dec [.bytes p] = match decSigns p with | some x => okStr ⟨x.toArray⟩ | Option.none => .no := nr rfl
@[simp] theorem pP53 : evP (.toB true) [.int i] = if decide (-2147483648 ≤ i) && decide (i < 2147483648) then .ok (.bytes (le4 i)) else .no := nr rfl
@[simp] theorem pP54 : evP (.toB false) [.int i] = if decide (0 ≤ i) && decide (i < 4294967296) then .ok (.bytes (le4 i)) else .no := nr rfl
@[simp] theorem pP55 : evP .fromB [.bytes p, .bool B] = if decide (p.length ≤ 8) then .ok (.int (ofLE p B)) else .no := nr rfl
@[simp] theorem pP56 : evP .get [.dct d, .str x] = .ok ((dctGet d x).getD .none) := nr rfl
@[simp] theorem pP57 : evP (.attr "text") [.code x] = .ok (.str x) := nr rfl
@[simp] theorem pP58 : evP (.attr "scope") [.code x] = .ok .none := nr rfl
@[simp] theorem pP59 : evP (.attr "unicode_decode_error_handler") [.gl 102] = .ok (.str (Str.ofString "strict")) := nr rfl
@[simp] theorem pP60 : evP .mkCode [.str x] = .ok (.code x) := nr rfl
@[simp] theorem pP61 : evP .isNone [.none] = .ok (.bool true) := nr rfl
@[simp] theorem pP62 : evP .isNone [.int i] = .ok (.bool false) := nr rfl
@[simp] theorem pP63 : evP .isNone [.str x] = .ok (.bool false) := nr rfl
@[simp] theorem pP64 : evP .isNone [.bytes p] = .ok (.bool false) := nr rfl
@[simp] theorem pP65 : evP .isNone [.lst l] = .ok (.bool false) := nr rfl
@[simp] theorem pP66 : evP .isNone [.tup l] = .ok (.bool false) := nr rfl
@[simp] theorem pP67 : evP .isNone [.dct d] = .ok (.bool false) := nr rfl
@[simp] theorem pP68 : evP .isNone [.code x] = .ok (.bool false) := nr rfl
@[simp] theorem tr1 : (FV.bool B).truth = some B := nr rfl
@[simp] theorem tr2 : (FV.int i).truth = some (i != 0) := nr rfl
@[simp] theorem tr3 : FV.none.truth = some false := nr rfl
end

section
variable {C : CallT} {ρ : Env'} {γ : List FV}
theorem app_ok {C : CallT} : ∀ {a b : List CS} {ρ ρ' : Env'}, exSs C ρ a = .ok .next ρ' → exSs C ρ (a ++ b) = exSs C ρ' b
  | [], b, ρ, ρ', h => by rw [exSs] at h; cases h; rfl
  | s :: a, b, ρ, ρ', h => by
    rw [exSs] at h
    rw [List.cons_append, exSs]
    cases hs : exS C ρ s with
    | no => rw [hs] at h; cases h
    | exc e ρ1 => rw [hs] at h; cases h
    | ok f ρ1 =>
      rw [hs] at h
      cases f with
      | ret v => cases h
      | next => exact app_ok h
theorem mod_ok {x b : Int} (h1 : 0 < b) (h2 : b < 2 ^ 33) : evP .mod [.int x, .int b] = .ok (.int (x.fmod b)) := by
  rw [pP9, decide_eq_true h1, decide_eq_true h2]; rfl
theorem div_ok {x b : Int} (h1 : 0 < b) (h2 : b < 2 ^ 29) : evP .div [.int x, .int b] = .ok (.int (x.fdiv b)) := by
  rw [pP8, decide_eq_true h1, decide_eq_true h2]; rfl
theorem mul_ok {x b : Int} (h : smallInt b = true) : evP .mul [.int x, .int b] = .ok (.int (x * b)) := by
  rw [pP5, if_pos h]
@[simp] theorem eE1 {v : FV} : evE C ρ γ (.k v) = .ok v := by rw [evE]; try rfl
@[simp] theorem eE2 {i : Nat} : evE C ρ γ (.v i) = getV ρ i := by rw [evE]; try rfl
@[simp] theorem eE3 {i : Nat} : evE C ρ γ (.c i) = match γ[i]? with | some v => .ok v | Option.none => .no := by rw [evE]; try rfl
@[simp] theorem eE4 {i : Nat} : evE C ρ γ (.lenv i) = match getL ρ i with | some l => .ok (.int l.length) | Option.none => .no := by rw [evE]; try rfl
@[simp] theorem eE5 {f : Prim} {as : List CE} : evE C ρ γ (.p f as) = (evEs C ρ γ as).bind (evP f) := by rw [evE]; try rfl
@[simp] theorem eE6 {a b : CE} : evE C ρ γ (.and a b) = (evE C ρ γ a).bind fun v => match v.truth with | some true => evE C ρ γ b | some false => .ok v | Option.none => .no := by rw [evE]; try rfl
@[simp] theorem eE7 {a b : CE} : evE C ρ γ (.or a b) = (evE C ρ γ a).bind fun v => match v.truth with | some true => .ok v | some false => evE C ρ γ b | Option.none => .no := by rw [evE]; try rfl
@[simp] theorem eE8 {t a b : CE} : evE C ρ γ (.ife t a b) = (evE C ρ γ t).bind fun v => match v.truth with | some true => evE C ρ γ a | some false => evE C ρ γ b | Option.none => .no := by rw [evE]; try rfl
@[simp] theorem eE9 {a b c : CE} {o₁ o₂ : Prim} : evE C ρ γ (.chn a o₁ b o₂ c) = (evE C ρ γ a).bind fun x => (evE C ρ γ b).bind fun y => (evP o₁ [x, y]).bind fun r => match r with
      | .bool true => (evE C ρ γ c).bind fun z => evP o₂ [y, z]
      | .bool false => .ok (.bool false)
      | _ => .no := by rw [evE]; try rfl
theorem eE10 {f : CE} {as : List CE} : evE C ρ γ (.call f as) = (evE C ρ γ f).bind fun g => (evEs C ρ γ as).bind fun vs => (C g (vs.map .fv)).bind fun r => .ok r.1 := by rw [evE]; try rfl
theorem eE11 {e : CE} {m : Nat} {s : Src} {as : List CE} : evE C ρ γ (.comp e m s as) = (evEs C ρ γ as).bind fun vs => (srcItems s vs).bind fun xs => if 1000000 < xs.length then .no else
      match mapRes (fun x => match spread m x with | some γ' => evE C ρ γ' e | Option.none => .no) xs with | .ok ys => .ok (.lst ys) | _ => .no := by rw [evE]; try rfl
@[simp] theorem eL1 : evEs C ρ γ [] = .ok [] := by rw [evEs]; try rfl
@[simp] theorem eL2 {e : CE} {r : List CE} : evEs C ρ γ (e :: r) = (evE C ρ γ e).bind fun v => (evEs C ρ γ r).bind fun vs => .ok (v :: vs) := by rw [evEs]; try rfl
@[simp] theorem sS1 {e : CE} : exS C ρ (.ex e) = thenE (evE C ρ [] e) ρ fun _ => .ok .next ρ := by rw [exS]; try rfl
@[simp] theorem sS2 {i : Nat} {e : CE} : exS C ρ (.set i e) = thenE (evE C ρ [] e) ρ fun v => .ok .next (setV ρ i (.fv v)) := by rw [exS]; try rfl
@[simp] theorem sS3 {i : Nat} : exS C ρ (.ml0 i) = .ok .next (setV ρ i (.ml [])) := by rw [exS]; try rfl
@[simp] theorem sS4 {i : Nat} : exS C ρ (.md0 i) = .ok .next (setV ρ i (.md [])) := by rw [exS]; try rfl
@[simp] theorem sS5 {i j : Nat} : exS C ρ (.ml2 i j) = .ok .next (setV (setV ρ i (.ml [])) j (.ml [])) := by rw [exS]; try rfl
@[simp] theorem sS6 {is : List Nat} {e : CE} : exS C ρ (.un is e) = thenE (evE C ρ [] e) ρ fun v => match spread is.length v with
      | some vs => .ok .next (setAll ρ is vs)
      | Option.none => .no := by rw [exS]; try rfl
@[simp] theorem sS7 {i : Nat} {e : CE} : exS C ρ (.app i e) = match getL ρ i with
      | some l => thenE (evE C ρ [] e) ρ fun v => if l.length < 1000000 then .ok .next (setV ρ i (.ml (l ++ [v]))) else .no
      | Option.none => .no := by rw [exS]; try rfl
@[simp] theorem sS8 {i : Nat} {k e : CE} : exS C ρ (.put i k e) = match getD' ρ i with
      | some l => thenE (evE C ρ [] e) ρ fun v => thenE (evE C ρ [] k) ρ fun q => match q with
        | .str x => if l.length < 1000 then .ok .next (setV ρ i (.md (dctPut l x v))) else .no
        | _ => .no
      | Option.none => .no := by rw [exS]; try rfl
@[simp] theorem sS9 {f : Prim} {i : Nat} {e : CE} : exS C ρ (.aug f i e) = thenE (getV ρ i) ρ fun a => match a with
      | .int _ => thenE (evE C ρ [] e) ρ fun b => thenE (evP f [a, b]) ρ fun v => .ok .next (setV ρ i (.fv v))
      | _ => .no := by rw [exS]; try rfl
@[simp] theorem sS10 {t : CE} {a b : List CS} : exS C ρ (.ite t a b) = thenE (evE C ρ [] t) ρ fun v => match v.truth with
      | some true => exSs C ρ a
      | some false => exSs C ρ b
      | Option.none => .no := by rw [exS]; try rfl
@[simp] theorem sS11 {t : CE} {b : List CS} : exS C ρ (.whl t b) = whlGo (fun ρ => evE C ρ [] t) (fun ρ => exSs C ρ b) whlTurns ρ := by rw [exS]; try rfl
@[simp] theorem sS12 {is : List Nat} {s : Src} {as : List CE} {b : List CS} : exS C ρ (.for is s as b) = match (evEs C ρ [] as).bind (srcItems s) with
      | .ok xs => forGo (fun ρ => exSs C ρ b) is (if is.length = 1 then 0 else is.length) xs ρ
      | .exc e => .exc e ρ
      | .no => .no := by rw [exS]; try rfl
@[simp] theorem sS13 {e : CE} : exS C ρ (.ret e) = thenE (evE C ρ [] e) ρ fun v => .ok (.ret v) ρ := by rw [exS]; try rfl
@[simp] theorem sS14 : exS C ρ .ret0 = .ok (.ret .none) ρ := by rw [exS]; try rfl
@[simp] theorem sS15 {c : EC} {e : CE} : exS C ρ (.rs c e) = thenE (evE C ρ [] e) ρ fun v => match v with
      | .str x => .exc ⟨c, some x⟩ ρ
      | _ => .no := by rw [exS]; try rfl
theorem sS16 {i : Nat} {l : List FV} (h : ρ[i]? = some (some (.ml l))) : exS C ρ (.frz i) = .ok .next (setV ρ i (.fv (.lst l))) := by rw [exS, h]
theorem sS17 {i : Nat} {l : List (Str × FV)} (h : ρ[i]? = some (some (.md l))) : exS C ρ (.frz i) = .ok .next (setV ρ i (.fv (.dct l))) := by rw [exS, h]
theorem sS18 {b : List CS} {hs : List (EC × Hd)} {fl : Fl} {ρ' : Env'} (h : exSs C ρ b = .ok fl ρ') : exS C ρ (.try b hs) = .ok fl ρ' := by rw [exS, h]
@[simp] theorem bB1 : exSs C ρ [] = .ok .next ρ := by rw [exSs]; try rfl
@[simp] theorem bB2 {s : CS} {r : List CS} : exSs C ρ (s :: r) = match exS C ρ s with
    | .ok .next ρ' => exSs C ρ' r
    | o => o := by rw [exSs]; try rfl
@[simp] theorem tE1 {v : FV} {f : FV → SR} : thenE (.ok v) ρ f = f v := nr rfl
@[simp] theorem tE2 {e : EK} {f : FV → SR} : thenE (.exc e) ρ f = .exc e ρ := nr rfl
end
abbrev T (n : Nat) : CallT := callN fnT n
theorem call_eq {i : Nat} {f : Fn} {n : Nat} {args : List LV} (h : fnT i = some f) : T (n + 1) (.gl i) args = runFn (T n) f args := by
  show (match fnT i with | some f => runFn (callN fnT n) f args | Option.none => .no) = _
  rw [h]
theorem sI1 {n : Int} : srcItems .rng1 [.int n] = if smallInt n then .ok ((List.range n.toNat).map fun (i : Nat) => FV.int (i : Int)) else .no := nr rfl
theorem sI2 {a b : Int} : srcItems .rng2 [.int a, .int b] = if smallInt a && smallInt b then .ok ((List.range (b - a).toNat).map fun (i : Nat) => FV.int (a + (i : Int))) else .no := nr rfl
theorem sI3 {l : List FV} : srcItems .lst [.lst l] = .ok l := nr rfl
theorem sI4 {l : List FV} : srcItems .lst [.tup l] = .ok l := nr rfl
theorem sI5 {l : List FV} : srcItems .enum [.lst l] = .ok (l.zipIdx.map fun p => .tup [.int p.2, p.1]) := nr rfl
theorem sI6 {l : List FV} : srcItems .enum [.tup l] = .ok (l.zipIdx.map fun p => .tup [.int p.2, p.1]) := nr rfl
theorem sI7 {l : List (Str × FV)} : srcItems .items [.dct l] = if l.all (fun p => decide (p.1.length ≤ 1000)) then .ok (l.map fun p => .tup [.str p.1, p.2]) else .no := nr rfl
theorem mapRes_ok {α β : Type} {f : α → Res β} {g : α → β} : ∀ {xs : List α}, (∀ x ∈ xs, f x = .ok (g x)) → mapRes f xs = .ok (xs.map g)
  | [], _ => rfl
  | x :: r, h => by
    unfold mapRes
    rw [h x (by simp), mapRes_ok (fun y hy => h y (List.mem_cons_of_mem _ hy))]
    rfl
theorem mapRes_map {α β γ : Type} {f : β → Res γ} {i : α → β} : ∀ {xs : List α}, mapRes f (xs.map i) = mapRes (fun a => f (i a)) xs
  | [] => rfl
  | x :: r => by rw [List.map_cons, mapRes, mapRes, mapRes_map]
theorem comp_ok {C : CallT} {ρ : Env'} {γ : List FV} {e : CE} {m : Nat} {s : Src} {as : List CE} {α : Type} {vs : List FV} {xs : List α} (item val : α → FV) (h1 : evEs C ρ γ as = .ok vs) (h2 : srcItems s vs = .ok (xs.map item)) (hl : xs.length ≤ 1000000)
    (he : ∀ x ∈ xs, ∃ γ', spread m (item x) = some γ' ∧ evE C ρ γ' e = .ok (val x)) : evE C ρ γ (.comp e m s as) = .ok (.lst (xs.map val)) := by
  rw [eE11, h1, Res.bind_ok, h2, Res.bind_ok, if_neg (by rw [List.length_map]; omega), mapRes_map, mapRes_ok (g := val) (fun x hx => ?_)]
  obtain ⟨γ', h3, h4⟩ := he x hx
  rw [h3]
  exact h4
/-- what a call gives back, the lists that were handed over left aside -/
def cv (n i : Nat) (vs : List FV) : Res FV := (T n (.gl i) (vs.map .fv)).bind fun r => .ok r.1
def resV : SR → Res FV
  | .ok (.ret v) _ => .ok v
  | .ok .next _ => .ok .none
  | .exc e _ => .exc e
  | .no => .no
theorem cv_eq {i n : Nat} {f : Fn} {vs : List FV} {ρ : Env'} (h : fnT i = some f) (h2 : fillArgs f (vs.map .fv) = some ρ) : cv (n + 1) i vs = resV (exSs (T n) ρ f.body) := by
  unfold cv
  rw [call_eq h]
  unfold runFn
  rw [h2]
  dsimp only
  cases exSs (T n) ρ f.body with
  | ok f ρ' => cases f <;> rfl
  | exc e ρ' => rfl
  | no => rfl
@[simp] theorem eE12 {n i : Nat} {ρ : Env'} {γ : List FV} {as : List CE} : evE (T n) ρ γ (.call (.k (.gl i)) as) = (evEs (T n) ρ γ as).bind fun vs => cv n i vs := by
  rw [eE10, eE1]; rfl
@[simp] theorem rV1 {v : FV} {ρ : Env'} : resV (.ok (.ret v) ρ) = .ok v := nr rfl
@[simp] theorem rV2 {ρ : Env'} : resV (.ok .next ρ) = .ok .none := nr rfl
@[simp] theorem rV3 {e : EK} {ρ : Env'} : resV (.exc e ρ) = .exc e := nr rfl
end Mine
end

section
open PySem
namespace Mine
theorem fmod_nn {a b : Int} (h : 0 < b) : 0 ≤ a.fmod b ∧ a.fmod b < b := ⟨Int.fmod_nonneg_of_pos a h, Int.fmod_lt_of_pos a h⟩
theorem le4_mod {x : Int} : le4 (x.fmod 4294967296) = le4 x := by
  unfold le4
  have : x.fmod 4294967296 % 4294967296 = x % 4294967296 := by
    rw [Int.fmod_eq_emod_of_nonneg x (by decide)]
    exact Int.emod_emod_of_dvd x (Int.dvd_refl _)
  rw [this]
-- _law_four
theorem four_ok {n : Nat} {x : Int} : cv (n + 1) 1 [.int x] = .ok (.bytes (le4 x)) := by
  have h := @fmod_nn x 4294967296 (by decide)
  rw [cv_eq (ρ := [some (.fv (.int x))]) rfl rfl]
  simp [f1, getV, h.1, h.2, le4_mod]
/-- the figures of a number -/
def digB (k : Nat) : List UInt8 := if k < 10 then [(48 + k).toUInt8] else if k < 100 then [(48 + k / 10).toUInt8, (48 + k % 10).toUInt8] else [(48 + k / 100).toUInt8, (48 + k / 10 % 10).toUInt8, (48 + k % 10).toUInt8]
-- _law_digits
theorem dig1 {n k : Nat} (h : k < 10) : cv (n + 1) 0 [.int k] = .ok (.bytes [(48 + k).toUInt8]) := by
  rw [cv_eq (ρ := [some (.fv (.int k))]) rfl rfl]
  have h1 : ((k : Int) < 10) := by omega
  have h2 : (0 : Int) ≤ 48 + k := by omega
  have h3 : (48 : Int) + k < 256 := by omega
  have h4 : ((48 : Int) + k).toNat = 48 + k := by omega
  simp [f0, getV, h1, allInts, h2, h3, h4]
theorem dig2 {n k : Nat} {b : List UInt8} (h : 10 ≤ k) (hk : k < 1000) (hb : cv n 0 [.int (k / 10 : Nat)] = .ok (.bytes b)) (hl : b.length ≤ 100) : cv (n + 1) 0 [.int k] = .ok (.bytes (b ++ [(48 + k % 10).toUInt8])) := by
  rw [cv_eq (ρ := [some (.fv (.int k))]) rfl rfl]
  have h1 : ¬ ((k : Int) < 10) := by omega
  have e1 : (k : Int).fdiv 10 = ((k / 10 : Nat) : Int) := by rw [Int.fdiv_eq_ediv_of_nonneg _ (by decide)]; omega
  have e2 : (k : Int).fmod 10 = ((k % 10 : Nat) : Int) := by rw [Int.fmod_eq_emod_of_nonneg _ (by decide)]; omega
  have h2 : (0 : Int) ≤ 48 + ((k % 10 : Nat) : Int) := by omega
  have h3 : (48 : Int) + ((k % 10 : Nat) : Int) < 256 := by omega
  have h4 : ((48 : Int) + ((k % 10 : Nat) : Int)).toNat = 48 + k % 10 := by omega
  have h5 : b.length + 1 ≤ big := by unfold big; omega
  simp [-Int.natCast_ediv, -Int.natCast_emod, f0, getV, h1, e1, e2, hb, allInts, h2, h3, h4, okBytes, h5]
theorem digB_len (k : Nat) : (digB k).length ≤ 3 := by
  unfold digB
  split
  · simp
  · split <;> simp
theorem digits_ok {n k : Nat} (h : k < 1000) : cv (n + 3) 0 [.int k] = .ok (.bytes (digB k)) := by
  unfold digB
  split
  · exact dig1 ‹_›
  · split
    · rw [dig2 (b := [(48 + k / 10).toUInt8]) (by omega) h (dig1 (by omega)) (by simp)]; rfl
    · have e : cv (n + 2) 0 [.int (k / 10 : Nat)] = .ok (.bytes [(48 + k / 100).toUInt8, (48 + k / 10 % 10).toUInt8]) := by
        rw [dig2 (b := [(48 + k / 10 / 10).toUInt8]) (by omega) (by omega) (dig1 (by omega)) (by simp)]
        rw [Nat.div_div_eq_div_mul]; rfl
      rw [dig2 (by omega) h e (by simp)]; rfl

/-! ## what is built -/
mutual
inductive Nd where
  | num (i : Int)
  | raw (c : Nat)
  | txt (code : Bool) (u c : Nat)
  | box (doc : Bool) (ps : Nds)
inductive Nds where
  | nil
  | cons (k : List UInt8) (d : Nd) (r : Nds)
end
mutual
def Nd.size : Nd → Nat
  | .num _ => 4
  | .raw c => 5 + c
  | .txt _ u c => 5 + (u + 1) * c
  | .box _ ps => 5 + ps.size
def Nds.size : Nds → Nat
  | .nil => 0
  | .cons k d r => 2 + k.length + d.size + r.size
end
def Nd.kind : Nd → Nat
  | .num _ => 16
  | .raw _ => 5
  | .txt b _ _ => if b then 13 else 2
  | .box b _ => if b then 3 else 4
mutual
def Nd.fv : Nd → FV
  | .num i => .tup [.int 16, .int i, .int 4]
  | .raw c => .tup [.int 5, .tup [.int 0, .int c], .int ((5 + c : Nat))]
  | .txt b u c => .tup [.int (if b then 13 else 2), .tup [.int u, .int c], .int ((5 + (u + 1) * c : Nat))]
  | .box b ps => .tup [.int (if b then 3 else 4), .lst ps.fvs, .int ((5 + ps.size : Nat))]
def Nds.fvs : Nds → List FV
  | .nil => []
  | .cons k d r => .tup [.bytes k, d.fv] :: r.fvs
end
def Nds.ofL : Nat → List Nd → Nds
  | _, [] => .nil
  | i, d :: r => .cons (digB i) d (.ofL (i + 1) r)
def arr (l : List Nd) : Nd := .box false (.ofL 0 l)
theorem fv_size (d : Nd) : ∃ a b, d.fv = .tup [a, b, .int d.size] := by
  cases d with
  | num i => exact ⟨_, _, by rw [Nd.fv, Nd.size]; rfl⟩
  | raw c => exact ⟨_, _, by rw [Nd.fv, Nd.size]⟩
  | txt b u c => exact ⟨_, _, by rw [Nd.fv, Nd.size]⟩
  | box b ps => exact ⟨_, _, by rw [Nd.fv, Nd.size]⟩
theorem idx2 (d : Nd) : evP .idx [d.fv, .int 2] = .ok (.int d.size) := by
  obtain ⟨a, b, e⟩ := fv_size d
  rw [e, pP30]; rfl

theorem small_nat {c : Nat} (h : c ≤ 1000000) : smallInt (c : Int) = true := by
  unfold smallInt
  rw [Bool.and_eq_true, decide_eq_true_eq, decide_eq_true_eq]
  constructor <;> omega
theorem txt_fv {b : Bool} {u c : Nat} : (Nd.txt b u c).fv = .tup [.int (if b then 13 else 2), .tup [.int u, .int c], .int (5 + (u + 1) * c)] := by
  rw [Nd.fv]
  push_cast
  rfl
-- _law_text
theorem text_ok' {n : Nat} {k u c : Int} (h : smallInt c = true) : cv (n + 1) 2 [.int k, .int u, .int c] = .ok (.tup [.int k, .tup [.int u, .int c], .int (5 + (u + 1) * c)]) := by
  rw [cv_eq (ρ := [some (.fv (.int k)), some (.fv (.int u)), some (.fv (.int c))]) rfl rfl]
  simp [f2, getV, h]
theorem text_ok {n : Nat} {b : Bool} {u c : Nat} (h : c ≤ 1000000) : cv (n + 1) 2 [.int (if b then 13 else 2), .int u, .int c] = .ok (Nd.txt b u c).fv := by
  rw [text_ok' (small_nat h), txt_fv]

theorem spread2 {a b : FV} : spread 2 (.tup [a, b]) = some [a, b] := rfl
/-- what a pair adds to a box -/
def pairFV : List UInt8 × Nd → FV := fun p => .tup [.bytes p.1, p.2.fv]
def Nds.toL : Nds → List (List UInt8 × Nd)
  | .nil => []
  | .cons k d r => (k, d) :: r.toL
theorem fvs_toL : ∀ ps : Nds, ps.fvs = ps.toL.map pairFV
  | .nil => by rw [Nds.fvs, Nds.toL]; rfl
  | .cons k d r => by rw [Nds.fvs, Nds.toL, List.map_cons, fvs_toL r]; rfl
theorem allInts_map {l : List Int} : allInts (l.map .int) = some l := by
  induction l with
  | nil => rfl
  | cons a r ih => rw [List.map_cons, allInts, ih]; rfl
theorem size_sum : ∀ ps : Nds, ((ps.toL.map fun p => (2 + p.1.length + p.2.size : Int)).sum) = (ps.size : Int)
  | .nil => by rw [Nds.size, Nds.toL]; rfl
  | .cons k d r => by
    rw [Nds.toL, List.map_cons, List.sum_cons, size_sum r, Nds.size]
    push_cast
    rfl
-- _law_box
theorem box_ok' {n : Nat} {k : Int} {ps : Nds} (h : ps.toL.length ≤ 1000000) : cv (n + 1) 3 [.int k, .lst ps.fvs] = .ok (.tup [.int k, .lst ps.fvs, .int (5 + ps.size)]) := by
  rw [cv_eq (ρ := [some (.fv (.int k)), some (.fv (.lst ps.fvs))]) rfl rfl]
  have key : evE (T n) [some (.fv (.int k)), some (.fv (.lst ps.fvs))] [] (.comp (.p .add [.p .add [I' 2, .p .len [.c 0]], .p .idx [.c 1, I' 2]]) 2 .lst [.v 1]) = .ok (.lst ((ps.toL.map fun p => (2 + p.1.length + p.2.size : Int)).map .int)) := by
    rw [List.map_map]
    refine comp_ok (vs := [.lst ps.fvs]) (xs := ps.toL) pairFV _ (by simp [getV]) (by rw [fvs_toL]; rfl) h fun p _ => ⟨[.bytes p.1, p.2.fv], rfl, ?_⟩
    simp [idx2]
  simp [-List.map_map, f3, getV, key, allInts_map, size_sum]
theorem box_ok {n : Nat} {b : Bool} {ps : Nds} (h : ps.toL.length ≤ 1000000) : cv (n + 1) 3 [.int (if b then 3 else 4), .lst ps.fvs] = .ok (Nd.box b ps).fv := by
  rw [box_ok' h, Nd.fv]
  push_cast
  rfl
theorem ofL_toL : ∀ (i : Nat) (l : List Nd), (Nds.ofL i l).toL = (l.zipIdx i).map fun p => (digB p.2, p.1)
  | _, [] => by rw [Nds.ofL, Nds.toL]; rfl
  | i, d :: r => by rw [Nds.ofL, Nds.toL, ofL_toL (i + 1) r, List.zipIdx_cons, List.map_cons]
theorem fv_getElem {l : List Nd} {i : Nat} (h : i < l.length) : evP .idx [.lst (l.map Nd.fv), .int i] = .ok (l[i]).fv := by
  rw [pP31]
  simp [h]
-- _law_list
theorem list_ok {n : Nat} {l : List Nd} (h : l.length ≤ 500) : cv (n + 4) 4 [.lst (l.map Nd.fv)] = .ok (arr l).fv := by
  rw [cv_eq (ρ := [some (.fv (.lst (l.map Nd.fv)))]) rfl rfl]
  have key : evE (T (n + 3)) [some (.fv (.lst (l.map Nd.fv)))] [] (.comp (.p .mkTup [.call (G' 0) [.c 0], .p .idx [.v 0, .c 0]]) 0 .rng1 [.p .len [.v 0]]) = .ok (.lst (Nds.ofL 0 l).fvs) := by
    rw [fvs_toL, ofL_toL, List.map_map]
    have e : ∀ p ∈ l.zipIdx 0, ∃ γ', spread 0 (FV.int (p.2 : Int)) = some γ' ∧ evE (T (n + 3)) [some (.fv (.lst (l.map Nd.fv)))] γ' (.p .mkTup [.call (G' 0) [.c 0], .p .idx [.v 0, .c 0]]) = .ok (pairFV (digB p.2, p.1)) := fun p hp => by
      refine ⟨[.int (p.2 : Int)], rfl, ?_⟩
      have hp' := List.mem_zipIdx hp
      have hi : p.2 < l.length := by simpa using hp'.2.1
      have hd : p.1 = l[p.2] := by simpa using hp'.2.2
      have h1 := @digits_ok n p.2 (by omega)
      have h2 := fv_getElem hi
      simp only [eE5, eL2, eL1, eE3, eE12, eE2, getV, Res.bind_ok, List.getElem?_cons_zero, h1, h2, pP39, List.length_cons, List.length_nil]
      rw [hd]
      rfl
    refine comp_ok (vs := [.int l.length]) (xs := l.zipIdx 0) (fun p => FV.int (p.2 : Int)) _ (by simp [getV]) ?_ (by rw [List.length_zipIdx]; omega) e
    rw [sI1, if_pos (small_nat (by omega))]
    congr 1
    apply List.ext_getElem
    · simp
    · intro i h1 h2; simp
  have hb : cv (n + 3) 3 [.int 4, .lst (Nds.ofL 0 l).fvs] = .ok (arr l).fv := box_ok (b := false) (ps := Nds.ofL 0 l) (by rw [ofL_toL]; simp; omega)
  simp [f4, getV, key, hb]
end Mine
end

section
open PySem
namespace Mine
def countsL : List Nat := [3, 12, 104, 11, 1, 0, 27]
def numsOf (m : Int) (c : Nat) : List Nd := (List.range c).map fun (k : Nat) => Nd.num ((m * ((k : Int) + 1)).fmod 4294967296 - 2147483648)
def txtsOf (m : Int) (c : Nat) : List Nd := (List.range c).map fun (k : Nat) => Nd.txt false (k % 4) ((m + 37 * (k : Int)).fmod 150).toNat
def cnt0 (m : Int) (budget : Nat) : Nat := min budget (countsL.getD (m.fmod 7).toNat 0)
def cnt4 (m : Int) (budget : Nat) : Nat := min budget (m.fmod 14).toNat
def baseNd (pick : Nat) (m : Int) (budget : Nat) : Nd := match pick with
  | 0 => arr (numsOf m (cnt0 m budget))
  | 1 => .txt false (m.fmod 4).toNat ((m * 61).fmod 331).toNat
  | 2 => .raw ((m * 61).fmod 700).toNat
  | 3 => .txt true (m.fmod 4).toNat ((m * 61).fmod 331).toNat
  | _ => arr (txtsOf m (cnt4 m budget))
def wrap1 (m : Int) (d : Nd) (k : Nat) : Nd := if ((k : Int) + m).fmod 2 ≠ 0 then arr [d] else .box true (.cons [102] d .nil)
def mkNd (pick : Nat) (m : Int) (budget : Nat) : Nd := (List.range ((m.fdiv 7).fmod 4).toNat).foldl (wrap1 m) (baseNd pick m budget)

theorem fm {a : Int} {b : Nat} (h : 0 < b) : a.fmod b = ((a.fmod b).toNat : Int) ∧ (a.fmod b).toNat < b := by
  have h1 := @fmod_nn a b (by omega)
  omega
theorem doc1_ok {n : Nat} {d : Nd} : cv (n + 1) 3 [.int 3, .lst [.tup [.bytes [102], d.fv]]] = .ok (Nd.box true (.cons [102] d .nil)).fv := by
  have := @box_ok n true (.cons [102] d .nil) (by simp [Nds.toL])
  rw [Nds.fvs, Nds.fvs] at this
  exact this
theorem arr1_ok {n : Nat} {d : Nd} : cv (n + 4) 4 [.lst [d.fv]] = .ok (arr [d]).fv := list_ok (l := [d]) (by simp)

abbrev wrapB : List CS := [.set 3 (.ife (.p .mod [.p .add [.v 4, .v 1], I' 2]) (.call (G' 4) [.p .mkLst [.v 3]]) (.call (G' 3) [I' 3, .p .mkLst [.p .mkTup [B' [102], .v 3]]]))]
theorem wrap_loop {n : Nat} {p m b : Int} : ∀ (xs : List Nat) (d : Nd) (o : Option LV), ∃ o', forGo (fun ρ => exSs (T (n + 4)) ρ wrapB) [4] 0 (xs.map fun (k : Nat) => FV.int (k : Int)) [some (.fv (.int p)), some (.fv (.int m)), some (.fv (.int b)), some (.fv d.fv), o] =
    .ok .next [some (.fv (.int p)), some (.fv (.int m)), some (.fv (.int b)), some (.fv (xs.foldl (wrap1 m) d).fv), o']
  | [], d, o => ⟨o, rfl⟩
  | k :: r, d, o => by
    obtain ⟨o', ih⟩ := wrap_loop (n := n) (p := p) (m := m) (b := b) r (wrap1 m d k) (some (.fv (.int (k : Int))))
    refine ⟨o', ?_⟩
    rw [List.map_cons, forGo, List.foldl_cons]
    have e0 : spread 0 (FV.int (k : Int)) = some [.int (k : Int)] := rfl
    rw [e0]
    have key : exSs (T (n + 4)) (setAll [some (.fv (.int p)), some (.fv (.int m)), some (.fv (.int b)), some (.fv d.fv), o] [4] [.int (k : Int)]) wrapB = .ok .next [some (.fv (.int p)), some (.fv (.int m)), some (.fv (.int b)), some (.fv (wrap1 m d k).fv), some (.fv (.int (k : Int)))] := by
      have hd : decide ((0 : Int) < 2) = true := by decide
      have h33 : decide ((2 : Int) < 2 ^ 33) = true := by decide
      unfold wrap1
      by_cases h : ((k : Int) + m).fmod 2 = 0
      · simp [setAll, setV, getV, h, @doc1_ok (n + 3) d]
      · have hb : (((k : Int) + m).fmod 2 != 0) = true := by simpa using h
        simp [setAll, setV, getV, h, hb, @arr1_ok n d]
    dsimp only
    rw [key]
    exact ih

theorem ife_min {a b : Nat} : (if (b : Int) < (a : Int) then (b : Int) else a) = ((min a b : Nat) : Int) := by
  split <;> omega
theorem counts_idx {m : Int} : evP .idx [.tup [.int 3, .int 12, .int 104, .int 11, .int 1, .int 0, .int 27], .int (m.fmod 7)] = .ok (.int ((countsL.getD (m.fmod 7).toNat 0 : Nat) : Int)) := by
  obtain ⟨h1, h2⟩ := @fm m 7 (by decide)
  replace h1 : m.fmod 7 = ((m.fmod 7).toNat : Int) := h1
  replace h2 : (m.fmod 7).toNat < 7 := h2
  rw [h1]
  simp only [Int.toNat_natCast]
  generalize (m.fmod 7).toNat = k at *
  match k, h2 with
  | 0, _ => rfl
  | 1, _ => rfl
  | 2, _ => rfl
  | 3, _ => rfl
  | 4, _ => rfl
  | 5, _ => rfl
  | 6, _ => rfl
theorem min_ok {a b : Nat} : evP .min2 [.int a, .int b] = .ok (.int ((min a b : Nat) : Int)) := by rw [pP42, ife_min]
theorem rngNat {c : Nat} (h : c ≤ 1000000) : srcItems .rng1 [.int c] = .ok ((List.range c).map fun (k : Nat) => FV.int (k : Int)) := by
  rw [sI1, if_pos (small_nat h)]; rfl
theorem small_k {k : Nat} (h : k ≤ 1000) : smallInt ((k : Int) + 1) = true := by
  have := @small_nat (k + 1) (by omega)
  push_cast at this
  exact this
theorem cnt0_le {m : Int} {b : Nat} (h : b ≤ 104) : cnt0 m b ≤ 104 := by unfold cnt0; omega
theorem cnt4_le {m : Int} {b : Nat} (h : b ≤ 104) : cnt4 m b ≤ 104 := by unfold cnt4; omega
end Mine
end

section
open PySem
namespace Mine
-- the five kinds
theorem make0 {n : Nat} {m : Int} {b : Nat} (hb : b ≤ 104) : evE (T (n + 4)) [some (.fv (.int 0)), some (.fv (.int m)), some (.fv (.int b)), Option.none, Option.none] [] (.call (G' 4) [.comp (.p .mkTup [I' 16, .p .sub [.p .mod [.p .mul [.v 1, .p .add [.c 0, I' 1]], I' 4294967296], I' 2147483648], I' 4]) 0 .rng1
      [.p .min2 [.v 2, .p .idx [counts, .p .mod [.v 1, I' 7]]]]]) = .ok (baseNd 0 m b).fv := by
  have hc := @cnt0_le m b hb
  have h7 : evP .mod [.int m, .int 7] = .ok (.int (m.fmod 7)) := mod_ok (by omega) (by omega)
  have key : evE (T (n + 4)) [some (.fv (.int 0)), some (.fv (.int m)), some (.fv (.int b)), Option.none, Option.none] [] (.comp (.p .mkTup [I' 16, .p .sub [.p .mod [.p .mul [.v 1, .p .add [.c 0, I' 1]], I' 4294967296], I' 2147483648], I' 4]) 0 .rng1
      [.p .min2 [.v 2, .p .idx [counts, .p .mod [.v 1, I' 7]]]]) = .ok (.lst ((numsOf m (cnt0 m b)).map Nd.fv)) := by
    unfold numsOf
    rw [List.map_map]
    refine comp_ok (vs := [.int (cnt0 m b : Nat)]) (xs := List.range (cnt0 m b)) (fun k => FV.int (k : Int)) _ ?_ (rngNat (by omega)) (by rw [List.length_range]; omega) fun k hk => ⟨[.int (k : Int)], rfl, ?_⟩
    · simp only [eL2, eL1, eE5, eE2, eE1, getV, List.getElem?_cons_zero, List.getElem?_cons_succ, Res.bind_ok, h7, counts_idx, min_ok]
      rfl
    · have hk' : k < 1000 := by have := List.mem_range.mp hk; omega
      have e : (∀ x : Int, evP .mod [.int x, .int 4294967296] = .ok (.int (x.fmod 4294967296))) := fun x => mod_ok (by omega) (by omega)
      have em : ∀ x : Int, evP .mul [.int x, .int ((k : Int) + 1)] = .ok (.int (x * (k + 1))) := fun x => mul_ok (small_k (by omega))
      simp only [eL2, eL1, eE5, eE3, eE2, eE1, getV, List.getElem?_cons_zero, List.getElem?_cons_succ, Res.bind_ok, pP1, em, e, pP4, pP39, List.length_cons, List.length_nil]
      rw [if_pos (by omega)]
      rw [Function.comp, Nd.fv]
  have hl := @list_ok n (numsOf m (cnt0 m b)) (by unfold numsOf; simp; omega)
  rw [eE12]
  simp only [eL2, eL1, key, Res.bind_ok, hl]
  rfl
theorem modNat {k : Nat} {b : Nat} (h : 0 < b) : ((k : Int)).fmod (b : Int) = ((k % b : Nat) : Int) := by
  rw [Int.fmod_eq_emod_of_nonneg _ (by omega)]; rfl
theorem make4 {n : Nat} {p m : Int} {b : Nat} (hb : b ≤ 104) : evE (T (n + 4)) [some (.fv (.int p)), some (.fv (.int m)), some (.fv (.int b)), Option.none, Option.none] [] (.call (G' 4) [.comp (.call (G' 2) [I' 2, .p .mod [.c 0, I' 4], .p .mod [.p .add [.v 1, .p .mul [I' 37, .c 0]], I' 150]]) 0 .rng1 [.p .min2 [.v 2, .p .mod [.v 1, I' 14]]]]) = .ok (baseNd 4 m b).fv := by
  have hc := @cnt4_le m b hb
  have h14 : evP .mod [.int m, .int 14] = .ok (.int ((m.fmod 14).toNat : Nat)) := by
    rw [mod_ok (by omega) (by omega)]
    have := (@fm m 14 (by decide)).1
    rw [show ((14 : Nat) : Int) = 14 from rfl] at this
    rw [← this]
  have key : evE (T (n + 4)) [some (.fv (.int p)), some (.fv (.int m)), some (.fv (.int b)), Option.none, Option.none] [] (.comp (.call (G' 2) [I' 2, .p .mod [.c 0, I' 4], .p .mod [.p .add [.v 1, .p .mul [I' 37, .c 0]], I' 150]]) 0 .rng1 [.p .min2 [.v 2, .p .mod [.v 1, I' 14]]]) = .ok (.lst ((txtsOf m (cnt4 m b)).map Nd.fv)) := by
    unfold txtsOf
    rw [List.map_map]
    refine comp_ok (vs := [.int (cnt4 m b : Nat)]) (xs := List.range (cnt4 m b)) (fun k => FV.int (k : Int)) _ ?_ (rngNat (by omega)) (by rw [List.length_range]; omega) fun k hk => ⟨[.int (k : Int)], rfl, ?_⟩
    · simp only [eL2, eL1, eE5, eE2, eE1, getV, List.getElem?_cons_zero, List.getElem?_cons_succ, Res.bind_ok, h14, min_ok]
      rfl
    · have hk' : k < 1000 := by have := List.mem_range.mp hk; omega
      have e4 : evP .mod [.int (k : Int), .int 4] = .ok (.int ((k % 4 : Nat) : Int)) := by
        rw [mod_ok (by omega) (by omega)]
        have := @modNat k 4 (by decide)
        rw [show ((4 : Nat) : Int) = 4 from rfl] at this
        rw [this]
      have e37 : evP .mul [.int 37, .int (k : Int)] = .ok (.int (37 * (k : Int))) := mul_ok (small_nat (by omega))
      have hf := @fm (m + 37 * (k : Int)) 150 (by decide)
      rw [show ((150 : Nat) : Int) = 150 from rfl] at hf
      have e150 : evP .mod [.int (m + 37 * (k : Int)), .int 150] = .ok (.int (((m + 37 * (k : Int)).fmod 150).toNat : Nat)) := by
        rw [mod_ok (by omega) (by omega), ← hf.1]
      have ht := @text_ok (n + 3) false (k % 4) ((m + 37 * (k : Int)).fmod 150).toNat (by omega)
      replace ht : cv (n + 4) 2 [.int 2, .int ((k % 4 : Nat) : Int), .int (((m + 37 * (k : Int)).fmod 150).toNat : Nat)] = .ok (Nd.txt false (k % 4) ((m + 37 * (k : Int)).fmod 150).toNat).fv := ht
      simp only [eE12, eL2, eL1, eE5, eE3, eE2, eE1, getV, List.getElem?_cons_zero, List.getElem?_cons_succ, Res.bind_ok, e4, e37, pP1, e150, ht]
      rfl
  have hl := @list_ok n (txtsOf m (cnt4 m b)) (by unfold txtsOf; simp; omega)
  rw [eE12]
  simp only [eL2, eL1, key, Res.bind_ok, hl]
  rfl
theorem modC {m : Int} {c : Nat} (h : 0 < c) (h2 : c < 1000000) : evP .mod [.int m, .int (c : Int)] = .ok (.int ((m.fmod c).toNat : Nat)) := by
  rw [mod_ok (by omega) (by omega), ← (fm h).1]
/-- what is made first -/
abbrev makeA : CS := .ite (.p .eq [.v 0, I' 0]) [.set 3 (.call (G' 4) [.comp (.p .mkTup [I' 16, .p .sub [.p .mod [.p .mul [.v 1, .p .add [.c 0, I' 1]], I' 4294967296], I' 2147483648], I' 4]) 0 .rng1
      [.p .min2 [.v 2, .p .idx [.k (.tup [.int 3, .int 12, .int 104, .int 11, .int 1, .int 0, .int 27]), .p .mod [.v 1, I' 7]]]]])]
    [.ite (.p .eq [.v 0, I' 1]) [.set 3 (.call (G' 2) [I' 2, .p .mod [.v 1, I' 4], .p .mod [.p .mul [.v 1, I' 61], I' 331]])]
      [.ite (.p .eq [.v 0, I' 2]) [.set 3 (.p .mkTup [I' 5, .p .mkTup [I' 0, .p .mod [.p .mul [.v 1, I' 61], I' 700]], .p .add [I' 5, .p .mod [.p .mul [.v 1, I' 61], I' 700]]])]
        [.ite (.p .eq [.v 0, I' 3]) [.set 3 (.call (G' 2) [I' 13, .p .mod [.v 1, I' 4], .p .mod [.p .mul [.v 1, I' 61], I' 331]])]
          [.set 3 (.call (G' 4) [.comp (.call (G' 2) [I' 2, .p .mod [.c 0, I' 4], .p .mod [.p .add [.v 1, .p .mul [I' 37, .c 0]], I' 150]]) 0 .rng1 [.p .min2 [.v 2, .p .mod [.v 1, I' 14]]]])]]]]
theorem makeA_ok {n p : Nat} {m : Int} {b : Nat} (hp : p < 5) (hb : b ≤ 104) : exS (T (n + 4)) [some (.fv (.int p)), some (.fv (.int m)), some (.fv (.int b)), Option.none, Option.none] makeA = .ok .next [some (.fv (.int p)), some (.fv (.int m)), some (.fv (.int b)), some (.fv (baseNd p m b).fv), Option.none] := by
  have m4 : evP .mod [.int m, .int 4] = .ok (.int ((m.fmod 4).toNat : Nat)) := modC (c := 4) (by decide) (by decide)
  have m61 : evP .mul [.int m, .int 61] = .ok (.int (m * 61)) := mul_ok (by decide)
  have m331 : evP .mod [.int (m * 61), .int 331] = .ok (.int (((m * 61).fmod 331).toNat : Nat)) := modC (c := 331) (by decide) (by decide)
  have m700 : evP .mod [.int (m * 61), .int 700] = .ok (.int (((m * 61).fmod 700).toNat : Nat)) := modC (c := 700) (by decide) (by decide)
  have l331 : ((m * 61).fmod 331).toNat < 331 := (@fm (m * 61) 331 (by decide)).2
  have t1 : cv (n + 4) 2 [.int 2, .int ((m.fmod 4).toNat : Nat), .int (((m * 61).fmod 331).toNat : Nat)] = .ok (Nd.txt false (m.fmod 4).toNat ((m * 61).fmod 331).toNat).fv := @text_ok (n + 3) false _ _ (by omega)
  have t3 : cv (n + 4) 2 [.int 13, .int ((m.fmod 4).toNat : Nat), .int (((m * 61).fmod 331).toNat : Nat)] = .ok (Nd.txt true (m.fmod 4).toNat ((m * 61).fmod 331).toNat).fv := @text_ok (n + 3) true _ _ (by omega)
  match p, hp with
  | 0, _ =>
    have k0 := @make0 n m b hb
    simp only [sS10, eE5, eL2, eL1, eE2, eE1, getV, List.getElem?_cons_zero, List.getElem?_cons_succ, Res.bind_ok, pP14, tE1, tr1]
    simp only [bB2, bB1, sS2]
    replace k0 : evE (T (n + 4)) [some (.fv (.int ((0 : Nat) : Int))), some (.fv (.int m)), some (.fv (.int b)), Option.none, Option.none] [] (.call (G' 4) [.comp (.p .mkTup [I' 16, .p .sub [.p .mod [.p .mul [.v 1, .p .add [.c 0, I' 1]], I' 4294967296], I' 2147483648], I' 4]) 0 .rng1
      [.p .min2 [.v 2, .p .idx [counts, .p .mod [.v 1, I' 7]]]]]) = .ok (baseNd 0 m b).fv := k0
    rw [k0]
    rfl
  | 1, _ =>
    simp only [sS10, bB2, bB1, eE5, eL2, eL1, eE2, eE1, getV, List.getElem?_cons_zero, List.getElem?_cons_succ, Res.bind_ok, pP14, tE1, tr1, show decide (((1 : Nat) : Int) = 0) = false from by decide, show decide (((1 : Nat) : Int) = 1) = true from by decide]
    simp only [sS2, eE12, eL2, eL1, eE5, eE2, eE1, getV, List.getElem?_cons_zero, List.getElem?_cons_succ, Res.bind_ok, m4, m61, m331, t1, tE1]
    rfl
  | 2, _ =>
    simp only [sS10, bB2, bB1, eE5, eL2, eL1, eE2, eE1, getV, List.getElem?_cons_zero, List.getElem?_cons_succ, Res.bind_ok, pP14, tE1, tr1, show decide (((2 : Nat) : Int) = 0) = false from by decide, show decide (((2 : Nat) : Int) = 1) = false from by decide, show decide (((2 : Nat) : Int) = 2) = true from by decide]
    simp only [sS2, eE5, eL2, eL1, eE2, eE1, getV, List.getElem?_cons_zero, List.getElem?_cons_succ, Res.bind_ok, m61, m700, pP39, pP1, List.length_cons, List.length_nil, tE1]
    simp only [show (0 + 1 + 1 ≤ 1000) = True from by simp, show (0 + 1 + 1 + 1 ≤ 1000) = True from by simp, if_true, Res.bind_ok, eL2, eL1, eE5, eE2, eE1, pP1, pP39, List.length_cons, List.length_nil, tE1]
    have e2 : (baseNd 2 m b).fv = .tup [.int 5, .tup [.int 0, .int (((m * 61).fmod 700).toNat : Nat)], .int (5 + (((m * 61).fmod 700).toNat : Nat))] := by
      show (Nd.raw ((m * 61).fmod 700).toNat).fv = _
      rw [Nd.fv]
      push_cast
      rfl
    rw [e2]
    rfl
  | 3, _ =>
    simp only [sS10, bB2, bB1, eE5, eL2, eL1, eE2, eE1, getV, List.getElem?_cons_zero, List.getElem?_cons_succ, Res.bind_ok, pP14, tE1, tr1, show decide (((3 : Nat) : Int) = 0) = false from by decide, show decide (((3 : Nat) : Int) = 1) = false from by decide, show decide (((3 : Nat) : Int) = 2) = false from by decide, show decide (((3 : Nat) : Int) = 3) = true from by decide]
    simp only [sS2, eE12, eL2, eL1, eE5, eE2, eE1, getV, List.getElem?_cons_zero, List.getElem?_cons_succ, Res.bind_ok, m4, m61, m331, t3, tE1]
    rfl
  | 4, _ =>
    simp only [sS10, bB2, bB1, eE5, eL2, eL1, eE2, eE1, getV, List.getElem?_cons_zero, List.getElem?_cons_succ, Res.bind_ok, pP14, tE1, tr1, show decide (((4 : Nat) : Int) = 0) = false from by decide, show decide (((4 : Nat) : Int) = 1) = false from by decide, show decide (((4 : Nat) : Int) = 2) = false from by decide, show decide (((4 : Nat) : Int) = 3) = false from by decide]
    have k4 := @make4 n ((4 : Nat) : Int) m b hb
    simp only [sS2, tE1]
    rw [k4]
    rfl
theorem make_body {n p : Nat} {m : Int} {b : Nat} (hp : p < 5) (hb : b ≤ 104) : cv (n + 5) 5 [.int p, .int m, .int b] = .ok (mkNd p m b).fv := by
  rw [cv_eq (ρ := [some (.fv (.int p)), some (.fv (.int m)), some (.fv (.int b)), Option.none, Option.none]) rfl rfl]
  have hA := @makeA_ok n p m b hp hb
  have h7 : evP .div [.int m, .int 7] = .ok (.int (m.fdiv 7)) := div_ok (by omega) (by omega)
  have h4 : evP .mod [.int (m.fdiv 7), .int 4] = .ok (.int (((m.fdiv 7).fmod 4).toNat : Nat)) := modC (c := 4) (by decide) (by decide)
  have l4 : ((m.fdiv 7).fmod 4).toNat < 4 := (@fm (m.fdiv 7) 4 (by decide)).2
  obtain ⟨o', hl⟩ := @wrap_loop n (p : Int) m (b : Int) (List.range ((m.fdiv 7).fmod 4).toNat) (baseNd p m b) Option.none
  have hs : (evEs (T (n + 4)) [some (.fv (.int p)), some (.fv (.int m)), some (.fv (.int b)), some (.fv (baseNd p m b).fv), Option.none] [] [.p .mod [.p .div [.v 1, I' 7], I' 4]]).bind (srcItems .rng1) = .ok ((List.range ((m.fdiv 7).fmod 4).toNat).map fun (k : Nat) => FV.int (k : Int)) := by
    simp only [eL2, eL1, eE5, eE2, eE1, getV, List.getElem?_cons_zero, List.getElem?_cons_succ, Res.bind_ok, h7, h4]
    exact rngNat (by omega)
  show resV (exSs (T (n + 4)) _ [makeA, .for [4] .rng1 [.p .mod [.p .div [.v 1, I' 7], I' 4]] wrapB, .ret (.v 3)]) = _
  rw [bB2, hA]
  dsimp only
  rw [bB2, sS12, hs]
  dsimp only
  rw [show (if [4].length = 1 then 0 else [4].length) = 0 from rfl, hl]
  dsimp only
  simp only [bB2, sS13, eE2, getV, List.getElem?_cons_zero, List.getElem?_cons_succ, tE1]
  rfl
end Mine
end

section
open PySem
namespace Mine
def unitS : Nat → Str
  | 0 => ⟨#[97]⟩ | 1 => ⟨#[233]⟩ | 2 => ⟨#[8364]⟩ | _ => ⟨#[128512]⟩
def unitB : Nat → List UInt8
  | 0 => [97] | 1 => [195, 169] | 2 => [226, 130, 172] | _ => [240, 159, 152, 128]
def repB (c : Nat) (b : List UInt8) : List UInt8 := (List.replicate c b).flatten
def nmS (k : List UInt8) : Str := ⟨(k.map (·.toNat)).toArray⟩
mutual
def Nd.val : Nd → FV
  | .num i => .int i
  | .raw c => .bytes (repB c [102])
  | .txt b u c => if b then .code (repStr (unitS u) c) else .str (repStr (unitS u) c)
  | .box b ps => if b then .dct ps.dvals else if (5 + ps.size) % 2 = 1 then .tup ps.vals else .lst ps.vals
def Nds.vals : Nds → List FV
  | .nil => []
  | .cons _ d r => d.val :: r.vals
def Nds.dvals : Nds → List (Str × FV)
  | .nil => []
  | .cons k d r => (nmS k, d.val) :: r.dvals
end
mutual
def Nd.dep : Nd → Nat
  | .num _ => 0
  | .raw _ => 0
  | .txt _ _ _ => 0
  | .box _ ps => 1 + ps.dep
def Nds.dep : Nds → Nat
  | .nil => 0
  | .cons _ d r => max d.dep r.dep
end
def nmOk (k : List UInt8) : Prop := k.length ≤ 10 ∧ ∀ x ∈ k, 0 < x.toNat ∧ x.toNat < 128
mutual
def Nd.Ok : Nd → Prop
  | .num i => -2147483648 ≤ i ∧ i < 2147483648
  | .raw c => c ≤ 700
  | .txt _ u c => u < 4 ∧ c ≤ 330
  | .box b ps => ps.Ok ∧ ps.toL.length ≤ 104 ∧ (b = true → (ps.toL.map fun p => nmS p.1).Nodup)
def Nds.Ok : Nds → Prop
  | .nil => True
  | .cons k d r => nmOk k ∧ d.Ok ∧ r.Ok
end
theorem mem_ok : ∀ {ps : Nds}, ps.Ok → ∀ p ∈ ps.toL, nmOk p.1 ∧ p.2.Ok ∧ p.2.dep ≤ ps.dep
  | .nil, _, p, hp => by rw [Nds.toL] at hp; cases hp
  | .cons k d r, h, p, hp => by
    rw [Nds.Ok] at h
    rw [Nds.toL] at hp
    rw [Nds.dep]
    rcases List.mem_cons.mp hp with rfl | hp
    · exact ⟨h.1, h.2.1, by show d.dep ≤ max d.dep r.dep; omega⟩
    · obtain ⟨a, b, c⟩ := mem_ok h.2.2 p hp
      exact ⟨a, b, by omega⟩
theorem vals_toL : ∀ ps : Nds, ps.vals = ps.toL.map fun p => p.2.val
  | .nil => by rw [Nds.vals, Nds.toL]; rfl
  | .cons k d r => by rw [Nds.vals, Nds.toL, List.map_cons, vals_toL r]
theorem dvals_toL : ∀ ps : Nds, ps.dvals = ps.toL.map fun p => (nmS p.1, p.2.val)
  | .nil => by rw [Nds.dvals, Nds.toL]; rfl
  | .cons k d r => by rw [Nds.dvals, Nds.toL, List.map_cons, dvals_toL r]
theorem decSigns_ascii : ∀ {k : List UInt8}, (∀ x ∈ k, x.toNat < 128) → decSigns k = some (k.map (·.toNat))
  | [], _ => by rw [decSigns]; rfl
  | a :: r, h => by
    have h1 : a < 128 := by have := h a (by simp); exact UInt8.lt_iff_toNat_lt.mpr this
    have ih := decSigns_ascii (fun x hx => h x (List.mem_cons_of_mem _ hx))
    rw [decSigns.eq_def]
    simp [h1, ih]
theorem dec_name {k : List UInt8} (h : nmOk k) : evP .dec [.bytes k] = .ok (.str (nmS k)) := by
  rw [pP52, decSigns_ascii fun x hx => (h.2 x hx).2]
  dsimp only
  unfold okStr
  rw [if_pos]
  · rfl
  · have : (⟨(k.map (·.toNat)).toArray⟩ : Str).length = k.length := by show ((k.map (·.toNat)).toArray).size = _; simp
    rw [this]
    have := h.1
    unfold big; omega
theorem dctPut_new {l : List (Str × FV)} {k : Str} {v : FV} (h : k ∉ l.map (·.1)) : dctPut l k v = l ++ [(k, v)] := by
  induction l with
  | nil => rfl
  | cons p r ih =>
    rw [List.map_cons, List.mem_cons, not_or] at h
    unfold dctPut
    rw [if_neg (by simpa using fun e => h.1 e.symm), ih h.2]
    rfl
theorem units_idx {u : Nat} (h : u < 4) : evP .idx [.tup [.str ⟨#[97]⟩, .str ⟨#[233]⟩, .str ⟨#[8364]⟩, .str ⟨#[128512]⟩], .int u] = .ok (.str (unitS u)) := by
  match u, h with
  | 0, _ => rfl
  | 1, _ => rfl
  | 2, _ => rfl
  | 3, _ => rfl
theorem unitS_len (u : Nat) : (unitS u).length = 1 := by unfold unitS; split <;> rfl
theorem mulStr {u c : Nat} (hc : c ≤ 1000) : evP .mul [.str (unitS u), .int c] = .ok (.str (repStr (unitS u) c)) := by
  rw [pP7, unitS_len]
  rw [if_pos (by simp; omega)]
  rfl
theorem mulB {c : Nat} {b : List UInt8} (hb : b.length ≤ 16) (hn : b ≠ []) (hc : c ≤ 1000) : evP .mul [.bytes b, .int c] = .ok (.bytes (repB c b)) := by
  rw [pP6, if_pos]
  · rfl
  · simp [hb, hn]; omega

theorem eqI {a b : Int} : evP .eq [.int a, .int b] = .ok (.bool (decide (a = b))) := pP14
/-- the frame of _law_value once the node is taken apart -/
abbrev vEnv (d k h s : FV) : Env' := [some (.fv d), some (.fv k), some (.fv h), some (.fv s), Option.none, Option.none, Option.none, Option.none]
theorem val_num {n : Nat} {i : Int} : cv (n + 1) 6 [(Nd.num i).fv] = .ok (Nd.num i).val := by
  rw [cv_eq (ρ := [some (.fv (Nd.num i).fv), Option.none, Option.none, Option.none, Option.none, Option.none, Option.none, Option.none]) rfl rfl, Nd.val]
  show resV (exSs (T n) _ (.un [1, 2, 3] (.v 0) :: _)) = _
  rw [bB2, sS6, eE2]
  simp only [getV, List.getElem?_cons_zero, List.getElem?_cons_succ, tE1]
  rw [Nd.fv]
  rw [show spread [1, 2, 3].length (.tup [.int 16, .int i, .int 4]) = some [.int 16, .int i, .int 4] from rfl]
  dsimp only
  rw [bB2, sS10]
  simp [setAll, setV, getV]

abbrev vEnv0 (d : FV) : Env' := [some (.fv d), Option.none, Option.none, Option.none, Option.none, Option.none, Option.none, Option.none]
theorem idxT1 {x y : FV} : evP .idx [.tup [x, y], .int 1] = .ok y := nr rfl
theorem idxT0 {x y : FV} : evP .idx [.tup [x, y], .int 0] = .ok x := nr rfl
theorem val_raw {n c : Nat} (h : c ≤ 700) : cv (n + 1) 6 [(Nd.raw c).fv] = .ok (Nd.raw c).val := by
  rw [cv_eq (ρ := vEnv0 (Nd.raw c).fv) rfl rfl, Nd.val, Nd.fv]
  have hm := @mulB c [102] (by decide) (by decide) (by omega)
  simp [f6, getV, spread, setAll, setV, idxT1, hm, -pP6, -pP30]
theorem val_txt {n u c : Nat} {b : Bool} (hu : u < 4) (h : c ≤ 330) : cv (n + 1) 6 [(Nd.txt b u c).fv] = .ok (Nd.txt b u c).val := by
  rw [cv_eq (ρ := vEnv0 (Nd.txt b u c).fv) rfl rfl, Nd.val, Nd.fv]
  have hm := @mulStr u c (by omega)
  have hi := units_idx hu
  cases b
  · simp [f6, getV, spread, setAll, setV, idxT1, idxT0, hm, hi, -pP7, -pP30]
  · simp [f6, getV, spread, setAll, setV, idxT1, idxT0, hm, hi, -pP7, -pP30]
theorem val_arr {n : Nat} {ps : Nds} (hl : ps.toL.length ≤ 1000) (hc : ∀ p ∈ ps.toL, cv n 6 [p.2.fv] = .ok p.2.val) : cv (n + 1) 6 [(Nd.box false ps).fv] = .ok (Nd.box false ps).val := by
  rw [cv_eq (ρ := vEnv0 (Nd.box false ps).fv) rfl rfl, Nd.val, Nd.fv]
  have key : ∀ ρ : Env', ρ[2]? = some (some (.fv (.lst ps.fvs))) → evE (T n) ρ [] (.comp (.call (G' 6) [.c 1]) 2 .lst [.v 2]) = .ok (.lst ps.vals) := fun ρ hρ => by
    rw [vals_toL]
    refine comp_ok (vs := [.lst ps.fvs]) (xs := ps.toL) pairFV _ (by simp [getV, hρ]) (by rw [fvs_toL]; rfl) (by omega) fun p hp => ⟨[.bytes p.1, p.2.fv], rfl, ?_⟩
    simp [hc p hp]
  have hm : evP .mod [.int ((5 + ps.size : Nat) : Int), .int 2] = .ok (.int (((5 + ps.size) % 2 : Nat) : Int)) := by
    rw [mod_ok (by omega) (by omega)]
    have := @modNat (5 + ps.size) 2 (by decide)
    rw [show ((2 : Nat) : Int) = 2 from rfl] at this
    rw [this]
  rcases Nat.mod_two_eq_zero_or_one (5 + ps.size) with h | h
  · rw [h] at hm
    have hm' : evP .mod [.int (5 + (ps.size : Int)), .int 2] = .ok (.int 0) := by have := hm; push_cast at this; exact this
    simp [f6, getV, spread, setAll, setV, key, hm', h, -pP9]
  · rw [h] at hm
    have hm' : evP .mod [.int (5 + (ps.size : Int)), .int 2] = .ok (.int 1) := by have := hm; push_cast at this; exact this
    simp [f6, getV, spread, setAll, setV, key, hm', h, -pP9]

abbrev docB : List CS := [.put 5 (.p .dec [.v 6]) (.call (G' 6) [.v 7])]
theorem doc_loop {n : Nat} {w x y z : Option LV} {i4 : Option LV} : ∀ (ps : List (List UInt8 × Nd)) (acc : List (Str × FV)) (o1 o2 : Option LV), (∀ p ∈ ps, nmOk p.1 ∧ cv n 6 [p.2.fv] = .ok p.2.val) → ((acc.map (·.1)) ++ ps.map fun p => nmS p.1).Nodup → acc.length + ps.length ≤ 1000 →
    ∃ o1' o2', forGo (fun ρ => exSs (T n) ρ docB) [6, 7] 2 (ps.map pairFV) [w, x, y, z, i4, some (.md acc), o1, o2] = .ok .next [w, x, y, z, i4, some (.md (acc ++ ps.map fun p => (nmS p.1, p.2.val))), o1', o2']
  | [], acc, o1, o2, _, _, _ => ⟨o1, o2, by rw [List.map_nil, List.map_nil, List.append_nil]; rfl⟩
  | p :: r, acc, o1, o2, h, hn, hl => by
    obtain ⟨h1, h2⟩ := h p (by simp)
    have hnk : nmS p.1 ∉ acc.map (·.1) := fun q => by
      have := (List.nodup_append.mp hn).2.2 _ q (nmS p.1) (by simp)
      exact this rfl
    obtain ⟨o1', o2', ih⟩ := doc_loop (n := n) (w := w) (x := x) (y := y) (z := z) (i4 := i4) r (acc ++ [(nmS p.1, p.2.val)]) (some (.fv (.bytes p.1))) (some (.fv p.2.fv)) (fun q hq => h q (List.mem_cons_of_mem _ hq)) (by
      rw [List.map_append, List.append_assoc]; exact hn) (by simp only [List.length_append, List.length_cons, List.length_nil] at hl ⊢; omega)
    refine ⟨o1', o2', ?_⟩
    rw [List.map_cons, forGo]
    rw [show spread 2 (pairFV p) = some [.bytes p.1, p.2.fv] from rfl]
    have key : exSs (T n) (setAll [w, x, y, z, i4, some (.md acc), o1, o2] [6, 7] [.bytes p.1, p.2.fv]) docB = .ok .next [w, x, y, z, i4, some (.md (acc ++ [(nmS p.1, p.2.val)])), some (.fv (.bytes p.1)), some (.fv p.2.fv)] := by
      have hd := dec_name h1
      have hlt : acc.length < 1000 := by simp only [List.length_cons] at hl; omega
      simp [setAll, setV, getV, getD', h2, hd, -pP52, hlt, dctPut_new hnk]
    dsimp only
    rw [key]
    dsimp only
    rw [ih, List.append_assoc]
    rfl
theorem val_doc {n : Nat} {ps : Nds} (hl : ps.toL.length ≤ 1000) (hc : ∀ p ∈ ps.toL, nmOk p.1 ∧ cv n 6 [p.2.fv] = .ok p.2.val) (hn : (ps.toL.map fun p => nmS p.1).Nodup) : cv (n + 1) 6 [(Nd.box true ps).fv] = .ok (Nd.box true ps).val := by
  rw [cv_eq (ρ := vEnv0 (Nd.box true ps).fv) rfl rfl, Nd.val, Nd.fv]
  obtain ⟨o1, o2, hloop⟩ := doc_loop (n := n) (w := some (.fv (.tup [.int 3, .lst ps.fvs, .int ((5 + ps.size : Nat))]))) (x := some (.fv (.int 3))) (y := some (.fv (.lst ps.fvs))) (z := some (.fv (.int ((5 + ps.size : Nat))))) (i4 := Option.none) ps.toL [] Option.none Option.none hc (by simpa using hn) (by simpa using hl)
  rw [← fvs_toL, List.nil_append, ← dvals_toL] at hloop
  have hpre : exSs (T n) (vEnv0 (.tup [.int 3, .lst ps.fvs, .int ((5 + ps.size : Nat))])) (f6.body.take 7) = .ok .next [some (.fv (.tup [.int 3, .lst ps.fvs, .int ((5 + ps.size : Nat))])), some (.fv (.int 3)), some (.fv (.lst ps.fvs)), some (.fv (.int ((5 + ps.size : Nat)))), Option.none, some (.md []), Option.none, Option.none] := by
    simp [f6, getV, spread, setAll, setV]
  show resV (exSs (T n) (vEnv0 (.tup [.int 3, .lst ps.fvs, .int ((5 + ps.size : Nat))])) (f6.body.take 7 ++ [.for [6, 7] .lst [.v 2] docB, .frz 5, .ret (.v 5)])) = _
  rw [app_ok hpre, bB2, sS12]
  have hs : (evEs (T n) [some (.fv (.tup [.int 3, .lst ps.fvs, .int ((5 + ps.size : Nat))])), some (.fv (.int 3)), some (.fv (.lst ps.fvs)), some (.fv (.int ((5 + ps.size : Nat)))), Option.none, some (.md []), Option.none, Option.none] [] [.v 2]).bind (srcItems .lst) = .ok ps.fvs := by
    simp [getV, sI3]
  rw [hs]
  dsimp only
  rw [show (if [6, 7].length = 1 then 0 else [6, 7].length) = 2 from rfl, hloop]
  dsimp only
  rw [bB2, sS17 (l := ps.dvals) rfl]
  simp [setV, getV]
theorem val_ok : ∀ {n : Nat} {d : Nd}, d.Ok → d.dep ≤ n → cv (n + 1) 6 [d.fv] = .ok d.val
  | n, .num i, _, _ => val_num
  | n, .raw c, h, _ => val_raw (by rw [Nd.Ok] at h; exact h)
  | n, .txt b u c, h, _ => by rw [Nd.Ok] at h; exact val_txt h.1 h.2
  | n, .box b ps, h, hd => by
    rw [Nd.Ok] at h
    rw [Nd.dep] at hd
    cases n with
    | zero => omega
    | succ n =>
      have hc : ∀ p ∈ ps.toL, nmOk p.1 ∧ cv (n + 1) 6 [p.2.fv] = .ok p.2.val := fun p hp => by
        obtain ⟨h1, h2, h3⟩ := mem_ok h.1 p hp
        exact ⟨h1, val_ok h2 (by omega)⟩
      cases b
      · exact val_arr (by omega) fun p hp => (hc p hp).2
      · exact val_doc (by omega) hc (h.2.2 rfl)
end Mine
end

section
open PySem
namespace Mine
def Nd.told : Nd → Nat
  | .num _ => 4
  | .raw c => c
  | .txt _ u c => (u + 1) * c + 1
  | .box _ ps => 5 + ps.size
mutual
def Nd.enc : Nd → List UInt8
  | .num i => le4 i
  | .raw c => le4 c ++ (0 :: repB c [102])
  | .txt _ u c => le4 (((u + 1) * c + 1 : Nat)) ++ (repB c (unitB u) ++ [0])
  | .box _ ps => le4 ((5 + ps.size : Nat)) ++ (ps.enc ++ [0])
def Nds.enc : Nds → List UInt8
  | .nil => []
  | .cons k d r => d.kind.toUInt8 :: (k ++ (0 :: (d.enc ++ r.enc)))
end
mutual
def Nd.outs : Nd → List (List UInt8)
  | .num i => [le4 i]
  | .raw c => [le4 c, 0 :: repB c [102]]
  | .txt _ u c => [le4 (((u + 1) * c + 1 : Nat)), repB c (unitB u) ++ [0]]
  | .box _ ps => le4 ((5 + ps.size : Nat)) :: (ps.outs ++ [[0]])
def Nds.outs : Nds → List (List UInt8)
  | .nil => []
  | .cons k d r => (d.kind.toUInt8 :: (k ++ [0])) :: (d.outs ++ r.outs)
end
mutual
def Nd.places : Nat → Nd → List (Nat × Nat)
  | _, .num _ => []
  | at', .raw c => [(at', c)]
  | at', .txt _ u c => [(at', (u + 1) * c + 1)]
  | at', .box _ ps => (at', 5 + ps.size) :: ps.places (at' + 4)
def Nds.places : Nat → Nds → List (Nat × Nat)
  | _, .nil => []
  | at', .cons k d r => d.places (at' + k.length + 2) ++ r.places (at' + k.length + 2 + d.size)
end
mutual
theorem outs_flat : ∀ d : Nd, d.outs.flatten = d.enc
  | .num i => by rw [Nd.outs, Nd.enc]; simp
  | .raw c => by rw [Nd.outs, Nd.enc]; simp
  | .txt _ u c => by rw [Nd.outs, Nd.enc]; simp
  | .box _ ps => by rw [Nd.outs, Nd.enc, List.flatten_cons, List.flatten_append, outsS_flat ps]; simp
theorem outsS_flat : ∀ d : Nds, d.outs.flatten = d.enc
  | .nil => by rw [Nds.outs, Nds.enc]; simp
  | .cons k d r => by rw [Nds.outs, Nds.enc, List.flatten_cons, List.flatten_append, outs_flat d, outsS_flat r]; simp
end
theorem le4_len (x : Int) : (le4 x).length = 4 := rfl
theorem repB_len {c : Nat} {b : List UInt8} : (repB c b).length = c * b.length := by
  unfold repB
  induction c with
  | zero => simp
  | succ c ih => rw [List.replicate_succ, List.flatten_cons, List.length_append, ih]; rw [Nat.succ_mul]; omega
theorem unitB_len {u : Nat} (h : u < 4) : (unitB u).length = u + 1 := by
  match u, h with
  | 0, _ => rfl
  | 1, _ => rfl
  | 2, _ => rfl
  | 3, _ => rfl
mutual
theorem enc_len : ∀ {d : Nd}, d.Ok → d.enc.length = d.size
  | .num i, _ => by rw [Nd.enc, Nd.size]; rfl
  | .raw c, _ => by rw [Nd.enc, Nd.size, List.length_append, List.length_cons, repB_len, le4_len]; simp; omega
  | .txt _ u c, h => by
    rw [Nd.Ok] at h
    rw [Nd.enc, Nd.size, List.length_append, List.length_append, repB_len, unitB_len h.1, le4_len, Nat.mul_comm]; simp; omega
  | .box _ ps, h => by
    rw [Nd.Ok] at h
    rw [Nd.enc, Nd.size, List.length_append, List.length_append, le4_len, encS_len h.1]; simp; omega
theorem encS_len : ∀ {d : Nds}, d.Ok → d.enc.length = d.size
  | .nil, _ => by rw [Nds.enc, Nds.size]; rfl
  | .cons k d r, h => by
    rw [Nds.Ok] at h
    rw [Nds.enc, Nds.size, List.length_cons, List.length_append, List.length_cons, List.length_append, enc_len h.2.1, encS_len h.2.2]; omega
end
mutual
theorem outs_len : ∀ d : Nd, d.outs.length ≤ d.size
  | .num i => by rw [Nd.outs, Nd.size]; simp
  | .raw c => by rw [Nd.outs, Nd.size]; simp; omega
  | .txt _ u c => by rw [Nd.outs, Nd.size]; simp; omega
  | .box _ ps => by have := outsS_len ps; rw [Nd.outs, Nd.size]; simp; omega
theorem outsS_len : ∀ d : Nds, d.outs.length ≤ d.size
  | .nil => by rw [Nds.outs, Nds.size]; simp
  | .cons k d r => by have := outs_len d; have := outsS_len r; rw [Nds.outs, Nds.size]; simp; omega
end
mutual
theorem places_len : ∀ (a : Nat) (d : Nd), (d.places a).length ≤ d.size
  | a, .num i => by rw [Nd.places, Nd.size]; simp
  | a, .raw c => by rw [Nd.places, Nd.size]; simp; omega
  | a, .txt _ u c => by rw [Nd.places, Nd.size]; simp; omega
  | a, .box _ ps => by have := placesS_len (a + 4) ps; rw [Nd.places, Nd.size]; simp; omega
theorem placesS_len : ∀ (a : Nat) (d : Nds), (d.places a).length ≤ d.size
  | a, .nil => by rw [Nds.places, Nds.size]; simp
  | a, .cons k d r => by have := places_len (a + k.length + 2) d; have := placesS_len (a + k.length + 2 + d.size) r; rw [Nds.places, Nds.size]; simp; omega
end
def plFV : Nat × Nat → FV := fun p => .tup [.int p.1, .int p.2]
/-- a call, with the lists that are handed over -/
theorem T_eq {i n : Nat} {f : Fn} {args : List LV} {ρ : Env'} (h : fnT i = some f) (h2 : fillArgs f args = some ρ) : T (n + 1) (.gl i) args = match exSs (T n) ρ f.body with
    | .ok (.ret v) ρ' => .ok (v, ρ'.take args.length)
    | .ok .next ρ' => .ok (.none, ρ'.take args.length)
    | .exc e _ => .exc e
    | .no => .no := by
  rw [call_eq h]
  unfold runFn
  rw [h2]
  all_goals rfl
def LayAt (n : Nat) (d : Nd) : Prop := ∀ (at' : Nat) (out pl : List FV), out.length + d.size ≤ 900000 → pl.length + d.size ≤ 900000 →
  ∃ o0 o1, T n (.gl 7) [.fv d.fv, .fv (.int at'), .ml out, .ml pl] = .ok (.none, [o0, o1, some (.ml (out ++ d.outs.map .bytes)), some (.ml (pl ++ (d.places at').map plFV))])
abbrev lEnv (d : FV) (a : Int) (out pl : List FV) : Env' := [some (.fv d), some (.fv (.int a)), some (.ml out), some (.ml pl), Option.none, Option.none, Option.none, Option.none, Option.none, Option.none]
theorem lay_num {n : Nat} {i : Int} : LayAt (n + 2) (.num i) := fun a out pl h1 h2 => by
  rw [T_eq (ρ := lEnv (Nd.num i).fv a out pl) rfl rfl, Nd.fv, Nd.outs, Nd.places]
  rw [Nd.size] at h1
  have hl : out.length < 1000000 := by omega
  have h4 := @four_ok n i
  simp [f7, getV, getL, spread, setAll, setV, hl, h4]
theorem lay_raw {n c : Nat} (hc : c ≤ 700) : LayAt (n + 2) (.raw c) := fun a out pl h1 h2 => by
  rw [T_eq (ρ := lEnv (Nd.raw c).fv a out pl) rfl rfl, Nd.fv, Nd.outs, Nd.places]
  rw [Nd.size] at h1 h2
  have hl : out.length < 1000000 := by omega
  have hl2 : out.length + 1 < 1000000 := by omega
  have hp : pl.length < 1000000 := by omega
  have hm := @mulB c [102] (by decide) (by decide) (by omega)
  have e5 : (5 : Int) + (c : Int) - 5 = c := by omega
  have h4 := @four_ok n c
  have hb : (repB c [102]).length + 1 ≤ big := by rw [repB_len]; unfold big; simp; omega
  simp [f7, getV, getL, spread, setAll, setV, hl, hl2, hp, h4, e5, idxT1, hm, -pP6, -pP30, okBytes, hb, plFV]
theorem raws_idx {u : Nat} (h : u < 4) : evP .idx [.tup [.bytes [97], .bytes [195, 169], .bytes [226, 130, 172], .bytes [240, 159, 152, 128]], .int u] = .ok (.bytes (unitB u)) := by
  match u, h with
  | 0, _ => rfl
  | 1, _ => rfl
  | 2, _ => rfl
  | 3, _ => rfl
theorem unitB_ne {u : Nat} : unitB u ≠ [] := by unfold unitB; split <;> simp
theorem lay_txt {n u c : Nat} {b : Bool} (hu : u < 4) (hc : c ≤ 330) : LayAt (n + 2) (.txt b u c) := fun a out pl h1 h2 => by
  rw [T_eq (ρ := lEnv (Nd.txt b u c).fv a out pl) rfl rfl, Nd.fv, Nd.outs, Nd.places]
  rw [Nd.size] at h1 h2
  have hl : out.length < 1000000 := by omega
  have hl2 : out.length + 1 < 1000000 := by omega
  have hp : pl.length < 1000000 := by omega
  have hm := @mulB c (unitB u) (by rw [unitB_len hu]; omega) unitB_ne (by omega)
  have hi := raws_idx hu
  have e5 : ((5 + (u + 1) * c : Nat) : Int) - 4 = (((u + 1) * c + 1 : Nat) : Int) := by push_cast; omega
  have h34 : (u + 1) * c ≤ 4 * 330 := Nat.mul_le_mul (by omega) hc
  have hb : (repB c (unitB u)).length + 1 ≤ big := by rw [repB_len, unitB_len hu, Nat.mul_comm]; unfold big; omega
  rw [List.map_cons, List.map_cons, List.map_cons, plFV]
  dsimp only
  generalize ((5 + (u + 1) * c : Nat) : Int) = S at *
  generalize (((u + 1) * c + 1 : Nat) : Int) = t at *
  have h4 := @four_ok n t
  cases b
  · simp [f7, getV, getL, spread, setAll, setV, hl, hl2, hp, h4, e5, idxT1, idxT0, hm, hi, -pP6, -pP30, okBytes, hb]
  · simp [f7, getV, getL, spread, setAll, setV, hl, hl2, hp, h4, e5, idxT1, idxT0, hm, hi, -pP6, -pP30, okBytes, hb]
end Mine
end

section
open PySem
namespace Mine
theorem sS19 {C : CallT} {ρ ρ' : Env'} {f : CE} {as : List CE} {rs : List Nat} {g v : FV} {vs : List FV} {ls : List LV} {outs : List (Option LV)} (h1 : evE C ρ [] f = .ok g) (h2 : evEs C ρ [] as = .ok vs) (h3 : refsOf ρ rs = some ls) (h4 : C g (vs.map .fv ++ ls) = .ok (v, outs)) (h5 : putBack ρ rs (outs.drop vs.length) = some ρ') : exS C ρ (.callR f as rs) = .ok .next ρ' := by
  rw [exS, h1, h2, h3]
  dsimp only
  rw [h4]
  dsimp only
  rw [h5]
theorem fv_kind (d : Nd) : ∃ a b, d.fv = .tup [.int d.kind, a, b] := by
  cases d with
  | num i => exact ⟨_, _, by rw [Nd.fv, Nd.kind]; rfl⟩
  | raw c => exact ⟨_, _, by rw [Nd.fv, Nd.kind]; rfl⟩
  | txt b u c => exact ⟨.tup [.int u, .int c], .int ((5 + (u + 1) * c : Nat)), by rw [Nd.fv, Nd.kind]; cases b <;> rfl⟩
  | box b ps => exact ⟨.lst ps.fvs, .int ((5 + ps.size : Nat)), by rw [Nd.fv, Nd.kind]; cases b <;> rfl⟩
theorem idx0 (d : Nd) : evP .idx [d.fv, .int 0] = .ok (.int d.kind) := by
  obtain ⟨a, b, e⟩ := fv_kind d
  rw [e, pP30]; rfl
theorem kind_lt (d : Nd) : d.kind < 17 := by
  cases d with
  | num i => rw [Nd.kind]; decide
  | raw c => rw [Nd.kind]; decide
  | txt b u c => rw [Nd.kind]; cases b <;> decide
  | box b ps => rw [Nd.kind]; cases b <;> decide
theorem bytesKind {k : Nat} (h : k < 256) : evP .bytesOf [.lst [.int k]] = .ok (.bytes [k.toUInt8]) := by
  rw [pP49]
  have h2 : (k : Int) < 256 := by omega
  simp [allInts, h2]
abbrev layB : List CS := [.app 2 (.p .add [.p .add [.p .bytesOf [.p .mkLst [.p .idx [.v 9, I' 0]]], .v 8], B' [0]]),
         .callR (G' 7) [.v 9, .p .add [.p .add [.v 1, .p .len [.v 8]], I' 2]] [2, 3],
         .set 1 (.p .add [.p .add [.p .add [.v 1, .p .len [.v 8]], I' 2], .p .idx [.v 9, I' 2]])]
abbrev env10 (x0 : Option LV) (a : Int) (out pl : List FV) (x4 x5 x6 x7 x8 x9 : Option LV) : Env' := [x0, some (.fv (.int a)), some (.ml out), some (.ml pl), x4, x5, x6, x7, x8, x9]
theorem layB_ok {n : Nat} {x0 x4 x5 x6 x7 x8 x9 : Option LV} {a : Nat} {out pl : List FV} {k : List UInt8} {d : Nd} (hk : k.length ≤ 10) (hd : LayAt n d) (h1 : out.length + 1 + d.size ≤ 900000) (h2 : pl.length + d.size ≤ 900000) :
    ∃ y8 y9, exSs (T n) (setAll (env10 x0 a out pl x4 x5 x6 x7 x8 x9) [8, 9] [.bytes k, d.fv]) layB =
      .ok .next (env10 x0 ((a + k.length + 2 + d.size : Nat)) (out ++ .bytes (d.kind.toUInt8 :: (k ++ [0])) :: d.outs.map .bytes) (pl ++ (d.places (a + k.length + 2)).map plFV) x4 x5 x6 x7 y8 y9) := by
  obtain ⟨o0, o1, hT⟩ := hd (a + k.length + 2) (out ++ [.bytes (d.kind.toUInt8 :: (k ++ [0]))]) pl (by simp; omega) h2
  refine ⟨some (.fv (.bytes k)), some (.fv d.fv), ?_⟩
  have hi := idx0 d
  have hi2 := idx2 d
  have hb := @bytesKind d.kind (by have := kind_lt d; omega)
  have hl : out.length < 1000000 := by omega
  have hbig : k.length + 1 ≤ big := by unfold big; omega
  have hbig2 : k.length + 1 + 1 ≤ big := by unfold big; omega
  have hc : exS (T n) (env10 x0 a (out ++ [.bytes (d.kind.toUInt8 :: (k ++ [0]))]) pl x4 x5 x6 x7 (some (.fv (.bytes k))) (some (.fv d.fv))) (.callR (G' 7) [.v 9, .p .add [.p .add [.v 1, .p .len [.v 8]], I' 2]] [2, 3]) =
      .ok .next (env10 x0 a (out ++ [.bytes (d.kind.toUInt8 :: (k ++ [0]))] ++ d.outs.map .bytes) (pl ++ (d.places (a + k.length + 2)).map plFV) x4 x5 x6 x7 (some (.fv (.bytes k))) (some (.fv d.fv))) := by
    have hv : evEs (T n) (env10 x0 a (out ++ [.bytes (d.kind.toUInt8 :: (k ++ [0]))]) pl x4 x5 x6 x7 (some (.fv (.bytes k))) (some (.fv d.fv))) [] [.v 9, .p .add [.p .add [.v 1, .p .len [.v 8]], I' 2]] = .ok [d.fv, .int ((a + k.length + 2 : Nat))] := by simp [getV]
    exact sS19 (g := .gl 7) (ls := [LV.ml (out ++ [FV.bytes (d.kind.toUInt8 :: (k ++ [0]))]), LV.ml pl]) eE1 hv rfl hT rfl
  rw [List.append_assoc] at hc
  simp [setAll, setV, getV, getL, hi, hi2, hb, -pP30, -pP49, hl, okBytes, hbig, hbig2, hc]
theorem lay_loop {n : Nat} {x0 x4 x5 x6 x7 : Option LV} : ∀ (ps : Nds) (a : Nat) (out pl : List FV) (x8 x9 : Option LV), (∀ p ∈ ps.toL, p.1.length ≤ 10 ∧ LayAt n p.2) → out.length + ps.size ≤ 900000 → pl.length + ps.size ≤ 900000 →
    ∃ y8 y9, forGo (fun ρ => exSs (T n) ρ layB) [8, 9] 2 ps.fvs (env10 x0 a out pl x4 x5 x6 x7 x8 x9) =
      .ok .next (env10 x0 ((a + ps.size : Nat)) (out ++ ps.outs.map .bytes) (pl ++ (ps.places a).map plFV) x4 x5 x6 x7 y8 y9)
  | .nil, a, out, pl, x8, x9, _, _, _ => ⟨x8, x9, by rw [Nds.fvs, Nds.outs, Nds.places, Nds.size]; simp [forGo]⟩
  | .cons k d r, a, out, pl, x8, x9, h, h1, h2 => by
    rw [Nds.toL] at h
    rw [Nds.size] at h1 h2
    obtain ⟨hk, hd⟩ := h (k, d) (by simp)
    have ho := outs_len d
    have hp := places_len (a + k.length + 2) d
    obtain ⟨y8, y9, e⟩ := @layB_ok n x0 x4 x5 x6 x7 x8 x9 a out pl k d hk hd (by omega) (by omega)
    obtain ⟨z8, z9, ih⟩ := @lay_loop n x0 x4 x5 x6 x7 r (a + k.length + 2 + d.size) (out ++ .bytes (d.kind.toUInt8 :: (k ++ [0])) :: d.outs.map .bytes) (pl ++ (d.places (a + k.length + 2)).map plFV) y8 y9 (fun p hp => h p (List.mem_cons_of_mem _ hp))
      (by simp only [List.length_append, List.length_cons, List.length_map]; omega) (by simp only [List.length_append, List.length_map]; omega)
    refine ⟨z8, z9, ?_⟩
    rw [Nds.fvs, forGo]
    rw [show spread 2 (FV.tup [.bytes k, d.fv]) = some [.bytes k, d.fv] from rfl]
    dsimp only
    rw [e]
    dsimp only
    rw [ih, Nds.outs, Nds.places, Nds.size]
    have e1 : a + k.length + 2 + d.size + r.size = a + (2 + k.length + d.size + r.size) := by omega
    rw [e1]
    simp
theorem lay_box' {n a : Nat} {K S : Int} {ps : Nds} {out pl : List FV} (hK : K = 3 ∨ K = 4) (hS : 5 + (ps.size : Int) = S) (h : ∀ p ∈ ps.toL, p.1.length ≤ 10 ∧ LayAt (n + 1) p.2) (h1 : out.length + (5 + ps.size) ≤ 900000) (h2 : pl.length + (5 + ps.size) ≤ 900000) :
    ∃ o0 o1, T (n + 2) (.gl 7) [.fv (.tup [.int K, .lst ps.fvs, .int S]), .fv (.int a), .ml out, .ml pl] = .ok (.none, [o0, o1, some (.ml (out ++ .bytes (le4 S) :: (ps.outs.map FV.bytes ++ [.bytes [0]]))), some (.ml (pl ++ .tup [.int a, .int S] :: (ps.places (a + 4)).map plFV))]) := by
  rw [T_eq (ρ := lEnv (.tup [.int K, .lst ps.fvs, .int S]) a out pl) rfl rfl]
  have hl : out.length < 1000000 := by omega
  have hp : pl.length < 1000000 := by omega
  have ho := outsS_len ps
  have h4 := @four_ok n S
  obtain ⟨y8, y9, hloop⟩ := @lay_loop (n + 1) (some (.fv (.tup [.int K, .lst ps.fvs, .int S]))) (some (.fv (.int K))) (some (.fv (.lst ps.fvs))) (some (.fv (.int S))) (some (.fv (.int S)))
    ps (a + 4) (out ++ [FV.bytes (le4 S)]) (pl ++ [FV.tup [.int a, .int S]]) Option.none Option.none h (by simp; omega) (by simp; omega)
  have hl2 : (out ++ [FV.bytes (le4 S)] ++ ps.outs.map FV.bytes).length < 1000000 := by simp; omega
  rw [show (((a + 4 : Nat)) : Int) = (a : Int) + 4 from rfl, show (((a + 4 + ps.size : Nat)) : Int) = (a : Int) + 4 + ps.size from rfl] at hloop
  have hs : ∀ ρ : Env', ρ[5]? = some (some (.fv (.lst ps.fvs))) → (evEs (T (n + 1)) ρ [] [.v 5]).bind (srcItems .lst) = .ok ps.fvs := fun ρ h => by
    simp [getV, h, sI3]
  have hpre : exSs (T (n + 1)) (lEnv (.tup [.int K, .lst ps.fvs, .int S]) a out pl) (f7.body.take 5) = .ok .next (env10 (some (.fv (.tup [.int K, .lst ps.fvs, .int S]))) a (out ++ [.bytes (le4 S)]) (pl ++ [.tup [.int a, .int S]]) (some (.fv (.int K))) (some (.fv (.lst ps.fvs))) (some (.fv (.int S))) (some (.fv (.int S))) Option.none Option.none) := by
    rcases hK with rfl | rfl <;> simp [f7, getV, getL, spread, setAll, setV, hl, hp, h4]
  have k5 : decide (K = 5) = false := by rcases hK with rfl | rfl <;> rfl
  have k2 : decide (K = 2) = false := by rcases hK with rfl | rfl <;> rfl
  have k13 : decide (K = 13) = false := by rcases hK with rfl | rfl <;> rfl
  have hlast : exSs (T (n + 1)) (env10 (some (.fv (.tup [.int K, .lst ps.fvs, .int S]))) a (out ++ [.bytes (le4 S)]) (pl ++ [.tup [.int a, .int S]]) (some (.fv (.int K))) (some (.fv (.lst ps.fvs))) (some (.fv (.int S))) (some (.fv (.int S))) Option.none Option.none) (f7.body.drop 5) =
        .ok .next (env10 (some (.fv (.tup [.int K, .lst ps.fvs, .int S]))) ((a : Int) + 4 + ps.size) (out ++ [.bytes (le4 S)] ++ ps.outs.map FV.bytes ++ [.bytes [0]]) (pl ++ [.tup [.int a, .int S]] ++ (ps.places (a + 4)).map plFV) (some (.fv (.int K))) (some (.fv (.lst ps.fvs))) (some (.fv (.int S))) (some (.fv (.int S))) y8 y9) := by
    show exSs (T (n + 1)) _ [.ite _ _ [.ite _ _ [.set 1 _, .for [8, 9] .lst [.v 5] layB, .app 2 (B' [0])]]] = _
    simp only [bB2, bB1, sS10, eE5, eE7, eL2, eL1, eE2, eE1, getV, List.getElem?_cons_succ, List.getElem?_cons_zero, Res.bind_ok, pP14, tE1, tr1, k5, k2, k13, sS2, pP1, setV, List.set_cons_succ, List.set_cons_zero]
    rw [sS12, hs _ rfl]
    dsimp only
    rw [show (if [8, 9].length = 1 then 0 else [8, 9].length) = 2 from rfl, hloop]
    dsimp only
    rw [sS7]
    have hl3 : out.length + (ps.outs.length + 1) < 1000000 := by omega
    simp [getL, setV, hl3]
  rw [← List.take_append_drop 5 f7.body, app_ok hpre, hlast]
  refine ⟨some (.fv (.tup [.int K, .lst ps.fvs, .int S])), some (.fv (.int ((a : Int) + 4 + ps.size))), ?_⟩
  simp
theorem lay_box {n : Nat} {b : Bool} {ps : Nds} (h : ∀ p ∈ ps.toL, p.1.length ≤ 10 ∧ LayAt (n + 1) p.2) : LayAt (n + 2) (.box b ps) := fun a out pl h1 h2 => by
  rw [Nd.size] at h1 h2
  rw [Nd.fv, Nd.outs, Nd.places]
  obtain ⟨o0, o1, e⟩ := @lay_box' n a (if b then 3 else 4) ((5 + ps.size : Nat)) ps out pl (by cases b <;> simp) (by push_cast; rfl) h h1 h2
  refine ⟨o0, o1, ?_⟩
  rw [List.map_cons, List.map_cons, List.map_append]
  exact e
theorem lay_ok : ∀ {n : Nat} {d : Nd}, d.Ok → d.dep ≤ n → LayAt (n + 2) d
  | n, .num i, _, _ => lay_num
  | n, .raw c, h, _ => lay_raw (by rw [Nd.Ok] at h; exact h)
  | n, .txt b u c, h, _ => by rw [Nd.Ok] at h; exact lay_txt h.1 h.2
  | n, .box b ps, h, hd => by
    rw [Nd.Ok] at h
    rw [Nd.dep] at hd
    cases n with
    | zero => omega
    | succ n =>
      exact lay_box fun p hp => by
        obtain ⟨h1, h2, h3⟩ := mem_ok h.1 p hp
        exact ⟨h1.1, lay_ok h2 (by omega)⟩
end Mine
end

section
open PySem
namespace Mine
section
variable {i : Int} {x : Str} {p : List UInt8} {l : List FV} {d : List (Str × FV)}
@[simp] theorem iT1 : isiAny (.int i) [.typ "bool"] = some false := nr rfl
@[simp] theorem iT2 : isiAny (.int i) [.typ "int"] = some true := nr rfl
@[simp] theorem iT3 : isiAny (.int i) [.typ "str"] = some false := nr rfl
@[simp] theorem iT4 : isiAny (.int i) [.typ "bytes"] = some false := nr rfl
@[simp] theorem iT5 : isiAny (.int i) [.typ "dict"] = some false := nr rfl
@[simp] theorem iT6 : isiAny (.int i) [.typ "list"] = some false := nr rfl
@[simp] theorem iT7 : isiAny (.int i) [.typ "list", .typ "tuple"] = some false := nr rfl
@[simp] theorem iT8 : isiAny (.int i) [.gl 100] = some false := nr rfl
@[simp] theorem iT9 : isiAny (.int i) [.gl 105] = some false := nr rfl
@[simp] theorem iT10 : isiAny (.int i) [.gl 106] = some false := nr rfl
@[simp] theorem iT11 : isiAny (.int i) [.gl 107] = some false := nr rfl
@[simp] theorem iT12 : isiAny (.int i) [.gl 108] = some false := nr rfl
@[simp] theorem iT13 : isiAny (.str x) [.typ "bool"] = some false := nr rfl
@[simp] theorem iT14 : isiAny (.str x) [.typ "int"] = some false := nr rfl
@[simp] theorem iT15 : isiAny (.str x) [.typ "str"] = some true := nr rfl
@[simp] theorem iT16 : isiAny (.str x) [.typ "bytes"] = some false := nr rfl
@[simp] theorem iT17 : isiAny (.str x) [.typ "dict"] = some false := nr rfl
@[simp] theorem iT18 : isiAny (.str x) [.typ "list"] = some false := nr rfl
@[simp] theorem iT19 : isiAny (.str x) [.typ "list", .typ "tuple"] = some false := nr rfl
@[simp] theorem iT20 : isiAny (.str x) [.gl 100] = some false := nr rfl
@[simp] theorem iT21 : isiAny (.str x) [.gl 105] = some false := nr rfl
@[simp] theorem iT22 : isiAny (.str x) [.gl 106] = some false := nr rfl
@[simp] theorem iT23 : isiAny (.str x) [.gl 107] = some false := nr rfl
@[simp] theorem iT24 : isiAny (.str x) [.gl 108] = some false := nr rfl
@[simp] theorem iT25 : isiAny (.bytes p) [.typ "bool"] = some false := nr rfl
@[simp] theorem iT26 : isiAny (.bytes p) [.typ "int"] = some false := nr rfl
@[simp] theorem iT27 : isiAny (.bytes p) [.typ "str"] = some false := nr rfl
@[simp] theorem iT28 : isiAny (.bytes p) [.typ "bytes"] = some true := nr rfl
@[simp] theorem iT29 : isiAny (.bytes p) [.typ "dict"] = some false := nr rfl
@[simp] theorem iT30 : isiAny (.bytes p) [.typ "list"] = some false := nr rfl
@[simp] theorem iT31 : isiAny (.bytes p) [.typ "list", .typ "tuple"] = some false := nr rfl
@[simp] theorem iT32 : isiAny (.bytes p) [.gl 100] = some false := nr rfl
@[simp] theorem iT33 : isiAny (.bytes p) [.gl 105] = some false := nr rfl
@[simp] theorem iT34 : isiAny (.bytes p) [.gl 106] = some false := nr rfl
@[simp] theorem iT35 : isiAny (.bytes p) [.gl 107] = some false := nr rfl
@[simp] theorem iT36 : isiAny (.bytes p) [.gl 108] = some false := nr rfl
@[simp] theorem iT37 : isiAny (.tup l) [.typ "bool"] = some false := nr rfl
@[simp] theorem iT38 : isiAny (.tup l) [.typ "int"] = some false := nr rfl
@[simp] theorem iT39 : isiAny (.tup l) [.typ "str"] = some false := nr rfl
@[simp] theorem iT40 : isiAny (.tup l) [.typ "bytes"] = some false := nr rfl
@[simp] theorem iT41 : isiAny (.tup l) [.typ "dict"] = some false := nr rfl
@[simp] theorem iT42 : isiAny (.tup l) [.typ "list"] = some false := nr rfl
@[simp] theorem iT43 : isiAny (.tup l) [.typ "list", .typ "tuple"] = some true := nr rfl
@[simp] theorem iT44 : isiAny (.tup l) [.gl 100] = some false := nr rfl
@[simp] theorem iT45 : isiAny (.tup l) [.gl 105] = some false := nr rfl
@[simp] theorem iT46 : isiAny (.tup l) [.gl 106] = some false := nr rfl
@[simp] theorem iT47 : isiAny (.tup l) [.gl 107] = some false := nr rfl
@[simp] theorem iT48 : isiAny (.tup l) [.gl 108] = some false := nr rfl
@[simp] theorem iT49 : isiAny (.lst l) [.typ "bool"] = some false := nr rfl
@[simp] theorem iT50 : isiAny (.lst l) [.typ "int"] = some false := nr rfl
@[simp] theorem iT51 : isiAny (.lst l) [.typ "str"] = some false := nr rfl
@[simp] theorem iT52 : isiAny (.lst l) [.typ "bytes"] = some false := nr rfl
@[simp] theorem iT53 : isiAny (.lst l) [.typ "dict"] = some false := nr rfl
@[simp] theorem iT54 : isiAny (.lst l) [.typ "list"] = some true := nr rfl
@[simp] theorem iT55 : isiAny (.lst l) [.typ "list", .typ "tuple"] = some true := nr rfl
@[simp] theorem iT56 : isiAny (.lst l) [.gl 100] = some false := nr rfl
@[simp] theorem iT57 : isiAny (.lst l) [.gl 105] = some false := nr rfl
@[simp] theorem iT58 : isiAny (.lst l) [.gl 106] = some false := nr rfl
@[simp] theorem iT59 : isiAny (.lst l) [.gl 107] = some false := nr rfl
@[simp] theorem iT60 : isiAny (.lst l) [.gl 108] = some false := nr rfl
@[simp] theorem iT61 : isiAny (.dct d) [.typ "bool"] = some false := nr rfl
@[simp] theorem iT62 : isiAny (.dct d) [.typ "int"] = some false := nr rfl
@[simp] theorem iT63 : isiAny (.dct d) [.typ "str"] = some false := nr rfl
@[simp] theorem iT64 : isiAny (.dct d) [.typ "bytes"] = some false := nr rfl
@[simp] theorem iT65 : isiAny (.dct d) [.typ "dict"] = some true := nr rfl
@[simp] theorem iT66 : isiAny (.dct d) [.typ "list"] = some false := nr rfl
@[simp] theorem iT67 : isiAny (.dct d) [.typ "list", .typ "tuple"] = some false := nr rfl
@[simp] theorem iT68 : isiAny (.dct d) [.gl 100] = some false := nr rfl
@[simp] theorem iT69 : isiAny (.dct d) [.gl 105] = some false := nr rfl
@[simp] theorem iT70 : isiAny (.dct d) [.gl 106] = some false := nr rfl
@[simp] theorem iT71 : isiAny (.dct d) [.gl 107] = some false := nr rfl
@[simp] theorem iT72 : isiAny (.dct d) [.gl 108] = some false := nr rfl
@[simp] theorem iT73 : isiAny (.code x) [.typ "bool"] = some false := nr rfl
@[simp] theorem iT74 : isiAny (.code x) [.typ "int"] = some false := nr rfl
@[simp] theorem iT75 : isiAny (.code x) [.typ "str"] = some false := nr rfl
@[simp] theorem iT76 : isiAny (.code x) [.typ "bytes"] = some false := nr rfl
@[simp] theorem iT77 : isiAny (.code x) [.typ "dict"] = some false := nr rfl
@[simp] theorem iT78 : isiAny (.code x) [.typ "list"] = some false := nr rfl
@[simp] theorem iT79 : isiAny (.code x) [.typ "list", .typ "tuple"] = some false := nr rfl
@[simp] theorem iT80 : isiAny (.code x) [.gl 100] = some true := nr rfl
@[simp] theorem iT81 : isiAny (.code x) [.gl 105] = some false := nr rfl
@[simp] theorem iT82 : isiAny (.code x) [.gl 106] = some false := nr rfl
@[simp] theorem iT83 : isiAny (.code x) [.gl 107] = some false := nr rfl
@[simp] theorem iT84 : isiAny (.code x) [.gl 108] = some false := nr rfl
@[simp] theorem iT85 : isiAny (.gl 102) [.gl 103] = some true := nr rfl
end
mutual
def Nd.Arr : Nd → Prop
  | .num _ => True
  | .raw _ => True
  | .txt _ _ _ => True
  | .box b ps => (b = false → ps.toL.map (·.1) = (List.range ps.toL.length).map digB) ∧ ps.Arr
def Nds.Arr : Nds → Prop
  | .nil => True
  | .cons _ d r => d.Arr ∧ r.Arr
end
theorem mem_arr : ∀ {ps : Nds}, ps.Arr → ∀ p ∈ ps.toL, p.2.Arr
  | .nil, _, p, hp => by rw [Nds.toL] at hp; cases hp
  | .cons k d r, h, p, hp => by
    rw [Nds.Arr] at h
    rw [Nds.toL] at hp
    rcases List.mem_cons.mp hp with rfl | hp
    · exact h.1
    · exact mem_arr h.2 p hp
theorem mem_size : ∀ {ps : Nds}, ∀ p ∈ ps.toL, p.2.size ≤ ps.size
  | .nil, p, hp => by rw [Nds.toL] at hp; cases hp
  | .cons k d r, p, hp => by
    rw [Nds.toL] at hp
    rw [Nds.size]
    rcases List.mem_cons.mp hp with rfl | hp
    · show d.size ≤ _; omega
    · have := mem_size p hp; omega
def elt (p : List UInt8 × Nd) : List UInt8 := p.2.kind.toUInt8 :: (p.1 ++ [0]) ++ p.2.enc
theorem encS_toL : ∀ ps : Nds, ps.enc = (ps.toL.map elt).flatten
  | .nil => by rw [Nds.enc, Nds.toL]; rfl
  | .cons k d r => by rw [Nds.enc, Nds.toL, List.map_cons, List.flatten_cons, encS_toL r, elt]; simp
theorem encSigns_ascii : ∀ {k : List UInt8}, (∀ x ∈ k, x.toNat < 128) → encSigns (k.map (·.toNat)) = some k
  | [], _ => rfl
  | a :: r, h => by
    have ih := encSigns_ascii (fun x hx => h x (List.mem_cons_of_mem _ hx))
    have h1 : encSign a.toNat = some [a] := by
      unfold encSign
      rw [if_pos (h a (by simp))]
      simp
    rw [List.map_cons, encSigns, h1, ih]
    rfl
theorem encSigns_rep {s : Nat} {b : List UInt8} (h : encSign s = some b) : ∀ c : Nat, encSigns (List.replicate c [s]).flatten = some (repB c b)
  | 0 => rfl
  | c + 1 => by
    rw [List.replicate_succ, List.flatten_cons]
    show (match encSign s, encSigns (List.replicate c [s]).flatten with | some a, some b => some (a ++ b) | _, _ => Option.none) = _
    rw [h, encSigns_rep h c]
    show some (b ++ repB c b) = _
    unfold repB
    rw [List.replicate_succ, List.flatten_cons]
theorem enc_unit {u c : Nat} (hu : u < 4) (hc : c ≤ 330) : evP .enc [.str (repStr (unitS u) c)] = .ok (.bytes (repB c (unitB u))) := by
  have h : encSigns (repStr (unitS u) c).cps.toList = some (repB c (unitB u)) := by
    show encSigns ((List.replicate c (unitS u).cps.toList).flatten) = _
    match u, hu with
    | 0, _ => exact encSigns_rep rfl c
    | 1, _ => exact encSigns_rep rfl c
    | 2, _ => exact encSigns_rep rfl c
    | 3, _ => exact encSigns_rep rfl c
  rw [pP51, h]
  dsimp only
  have hb : (repB c (unitB u)).length ≤ big := by rw [repB_len, unitB_len hu]; have := Nat.mul_le_mul hc (show u + 1 ≤ 4 by omega); unfold big; omega
  unfold okBytes
  rw [if_pos hb]
theorem enc_name {k : List UInt8} (h : nmOk k) : evP .enc [.str (nmS k)] = .ok (.bytes k) := by
  have e : encSigns (nmS k).cps.toList = some k := encSigns_ascii fun x hx => (h.2 x hx).2
  rw [pP51, e]
  dsimp only
  unfold okBytes
  rw [if_pos (by have := h.1; unfold big; omega)]
theorem nul_name {k : List UInt8} (h : nmOk k) : evP .inn [.str ⟨#[0]⟩, .str (nmS k)] = .ok (.bool false) := by
  rw [pP22]
  rw [if_pos (by decide)]
  have : (nmS k).cps.toList.contains 0 = false := by
    show (k.map (·.toNat)).contains 0 = false
    rw [Bool.eq_false_iff, Ne, List.contains_iff_mem, List.mem_map]
    rintro ⟨x, hx, e⟩
    have := (h.2 x hx).1
    omega
  show Res.ok (FV.bool ((nmS k).cps.toList.contains 0)) = _
  rw [this]
theorem digName : ∀ i : Fin 105, encSigns (digitsOf i.val ++ [0]) = some (digB i.val ++ [0]) := by decide +kernel
theorem enc_dig {i : Nat} (h : i < 105) : ∃ s, evP .strInt [.int i] = .ok (.str s) ∧ ∃ s', evP .add [.str s, .str ⟨#[0]⟩] = .ok (.str s') ∧ evP .enc [.str s'] = .ok (.bytes (digB i ++ [0])) := by
  have e := digName ⟨i, h⟩
  have hl : (digitsOf i).length ≤ 3 := by
    have : ∀ i : Fin 105, (digitsOf i.val).length ≤ 3 := by decide +kernel
    exact this ⟨i, h⟩
  refine ⟨⟨(digitsOf i).toArray⟩, ?_, ⟨(digitsOf i ++ [0]).toArray⟩, ?_, ?_⟩
  · rw [pP46]
    have h3 : (i : Int) < 1000 := by omega
    simp [h3]
  · rw [pP3]
    have ha : (⟨(digitsOf i).toArray⟩ : Str) ++ (⟨#[0]⟩ : Str) = ⟨(digitsOf i ++ [0]).toArray⟩ := by
      show (⟨(digitsOf i).toArray ++ #[0]⟩ : Str) = _
      simp
    rw [ha]
    unfold okStr
    rw [if_pos]
    show ((digitsOf i ++ [0]).toArray).size ≤ _
    simp
    unfold big; omega
  · rw [pP51, e]
    dsimp only
    have := digB_len i
    unfold okBytes
    rw [if_pos (by simp; unfold big; omega)]
theorem dig_nm : ∀ i : Fin 105, (digB i.val).length ≤ 10 ∧ ∀ x ∈ digB i.val, 0 < x.toNat ∧ x.toNat < 128 := by decide +kernel
end Mine
end

section
open PySem
namespace Mine
def tryH (hs : List (EC × Hd)) : SR → SR
  | .exc e ρ' => (match pick e.cls hs with
        | some (some (.raiseStr i c)) => if strOk e.cls c && unb ρ' i then (match e.msg with | some x => .exc ⟨c, some x⟩ ρ' | Option.none => .no) else .no
        | some (some (.unk i j)) => if e.cls == .blt "KeyError" then (match getV ρ' i, getV ρ' j with
          | .ok (.int x), .ok (.str y) => if decide (x = 102) && decide (y.length ≤ 1000) then .exc ⟨.own 104, Option.none⟩ ρ' else .no
          | _, _ => .no) else .no
        | some (some .again) => .exc e ρ'
        | some (some (.ret v)) => .ok (.ret v) ρ'
        | some (some .other) => .no
        | some Option.none => .exc e ρ'
        | Option.none => .no)
  | .ok fl ρ' => .ok fl ρ'
  | .no => .no
@[simp] theorem sS20 {C : CallT} {ρ : Env'} {b : List CS} {hs : List (EC × Hd)} : exS C ρ (.try b hs) = tryH hs (exSs C ρ b) := by
  rw [exS]
  cases exSs C ρ b <;> rfl
@[simp] theorem tH1 {hs : List (EC × Hd)} {fl : Fl} {ρ : Env'} : tryH hs (.ok fl ρ) = .ok fl ρ := nr rfl
-- _PACK_INT
theorem pack_ok {n : Nat} {i : Int} (h1 : -2147483648 ≤ i) (h2 : i < 2147483648) : cv (n + 1) 23 [.int i] = .ok (.bytes (le4 i)) := by
  rw [cv_eq (ρ := [some (.fv (.int i))]) rfl rfl]
  simp [f23, getV, h1, h2]
-- _utf_8_encode
theorem utf_ok {n : Nat} {x : Str} {b : List UInt8} (h : evP .enc [.str x] = .ok (.bytes b)) : cv (n + 1) 14 [.str x] = .ok (.tup [.bytes b, .int x.length]) := by
  rw [cv_eq (ρ := [some (.fv (.str x))]) rfl rfl]
  simp [f14, getV, h, -pP51]
-- _make_name
theorem name_ok {n : Nat} {k : List UInt8} (h : nmOk k) : cv (n + 2) 13 [.str (nmS k)] = .ok (.bytes (k ++ [0])) := by
  rw [cv_eq (ρ := [some (.fv (.str (nmS k)))]) rfl rfl]
  have h1 := nul_name h
  have h2 := @utf_ok n _ _ (enc_name h)
  have hb : k.length + 1 ≤ big := by have := h.1; unfold big; omega
  simp [f13, getV, h1, h2, idxT0, -pP30, -pP22, okBytes, hb]
-- _make_c_string
theorem cstr_ok {n : Nat} {x : Str} {b : List UInt8} (h : evP .enc [.str x] = .ok (.bytes b)) (hb : b.length + 1 ≤ big) : cv (n + 2) 22 [.str x] = .ok (.bytes (b ++ [0])) := by
  rw [cv_eq (ρ := [some (.fv (.str x))]) rfl rfl]
  have h2 := @utf_ok n _ _ h
  simp [f22, getV, h2, idxT0, -pP30, okBytes, hb]
def EncAt (n : Nat) (d : Nd) : Prop := ∀ nm : List UInt8, nm.length ≤ 20 → cv n 15 [.bytes nm, d.val, .bool false, .gl 102] = .ok (.bytes (d.kind.toUInt8 :: (nm ++ d.enc)))
theorem i4 {n : Nat} {nm : List UInt8} {i : Int} (hn : nm.length ≤ 20) (h1 : -2147483648 ≤ i) (h2 : i < 2147483648) : cv (n + 2) 16 [.bytes nm, .int i, .bool false, .gl 102] = .ok (.bytes (16 :: (nm ++ le4 i))) := by
  rw [cv_eq (ρ := [some (.fv (.bytes nm)), some (.fv (.int i)), some (.fv (.bool false)), some (.fv (.gl 102))]) rfl rfl]
  have hp := @pack_ok n i h1 h2
  have h3 : i ≤ 2147483647 := by omega
  have hb : nm.length + 1 ≤ big := by unfold big; omega
  have hb4 : nm.length + 4 + 1 ≤ big := by unfold big; omega
  simp [f16, getV, hp, h1, h3, okBytes, hb, hb4, le4_len]
theorem enc_num {n : Nat} {i : Int} (h : (Nd.num i).Ok) : EncAt (n + 3) (.num i) := fun nm hn => by
  rw [Nd.Ok] at h
  rw [Nd.val, Nd.kind, Nd.enc, cv_eq (ρ := [some (.fv (.bytes nm)), some (.fv (.int i)), some (.fv (.bool false)), some (.fv (.gl 102)), some (.fv (.bool false)), Option.none, Option.none]) rfl rfl]
  have e := @i4 n nm i hn h.1 h.2
  simp [f15, getV, setV, e, -pP41, pP41]
theorem enc_raw {n c : Nat} (h : (Nd.raw c).Ok) : EncAt (n + 3) (.raw c) := fun nm hn => by
  rw [Nd.Ok] at h
  have hp := @pack_ok n (c : Int) (by omega) (by omega)
  have hl : (repB c [102]).length = c := by rw [repB_len]; simp
  have e : cv (n + 2) 18 [.bytes nm, .bytes (repB c [102]), .bool false, .gl 102] = .ok (.bytes (5 :: (nm ++ (le4 c ++ 0 :: repB c [102])))) := by
    rw [cv_eq (ρ := [some (.fv (.bytes nm)), some (.fv (.bytes (repB c [102]))), some (.fv (.bool false)), some (.fv (.gl 102))]) rfl rfl]
    have hb : nm.length + 1 ≤ big := by unfold big; omega
    have hb4 : nm.length + 4 + 1 ≤ big := by unfold big; omega
    have hb5 : nm.length + (4 + 1) + 1 ≤ big := by unfold big; omega
    have hb6 : nm.length + (4 + (c + 1)) + 1 ≤ big := by unfold big; omega
    simp [f18, getV, hp, okBytes, hb, hb4, hb5, hb6, le4_len, hl]
  rw [Nd.val, Nd.kind, Nd.enc, cv_eq (ρ := [some (.fv (.bytes nm)), some (.fv (.bytes (repB c [102]))), some (.fv (.bool false)), some (.fv (.gl 102)), some (.fv (.bool false)), Option.none, Option.none]) rfl rfl]
  simp [f15, getV, setV, e]
theorem enc_txt {n u c : Nat} {b : Bool} (h : (Nd.txt b u c).Ok) : EncAt (n + 5) (.txt b u c) := fun nm hn => by
  rw [Nd.Ok] at h
  obtain ⟨hu, hc⟩ := h
  have he := @enc_unit u c hu hc
  have hl : (repB c (unitB u)).length = (u + 1) * c := by rw [repB_len, unitB_len hu, Nat.mul_comm]
  have h34 : (u + 1) * c ≤ 4 * 330 := Nat.mul_le_mul (by omega) hc
  rw [Nd.val, Nd.kind, Nd.enc]
  have hL : (((u + 1) * c + 1 : Nat) : Int) = ((repB c (unitB u)).length : Int) + 1 := by rw [hl]; push_cast; rfl
  rw [hL]
  have hR : (repB c (unitB u)).length ≤ 1320 := by omega
  generalize repB c (unitB u) = R at *
  generalize repStr (unitS u) c = X at *
  have hp := @pack_ok (n + 2) ((R.length : Int) + 1) (by omega) (by omega)
  have hb : nm.length + 1 ≤ big := by unfold big; omega
  have hb4 : nm.length + 4 + 1 ≤ big := by unfold big; omega
  have hb5 : nm.length + (4 + R.length) + 1 ≤ big := by unfold big; omega
  have hb6 : nm.length + (4 + (R.length + 1)) + 1 ≤ big := by unfold big; omega
  cases b
  · have e : cv (n + 4) 17 [.bytes nm, .str X, .bool false, .gl 102] = .ok (.bytes (2 :: (nm ++ (le4 ((R.length : Int) + 1) ++ (R ++ [0]))))) := by
      rw [cv_eq (ρ := [some (.fv (.bytes nm)), some (.fv (.str X)), some (.fv (.bool false)), some (.fv (.gl 102)), Option.none]) rfl rfl]
      have h2 := @utf_ok (n + 2) _ _ he
      simp [f17, getV, setV, h2, idxT0, -pP30, hp, okBytes, hb, hb4, hb5, hb6, le4_len]
    simp only [Bool.false_eq_true, if_false]
    rw [cv_eq (ρ := [some (.fv (.bytes nm)), some (.fv (.str X)), some (.fv (.bool false)), some (.fv (.gl 102)), some (.fv (.bool false)), Option.none, Option.none]) rfl rfl]
    simp [f15, getV, setV, e]
  · have e : cv (n + 4) 21 [.bytes nm, .code X, .bool false, .gl 102] = .ok (.bytes (13 :: (nm ++ (le4 ((R.length : Int) + 1) ++ (R ++ [0]))))) := by
      rw [cv_eq (ρ := [some (.fv (.bytes nm)), some (.fv (.code X)), some (.fv (.bool false)), some (.fv (.gl 102)), Option.none, Option.none, Option.none, Option.none]) rfl rfl]
      have h2 := @cstr_ok (n + 1) _ _ he (by unfold big; omega)
      simp [f21, getV, setV, h2, hp, okBytes, hb, hb4, hb5, hb6, le4_len]
    simp only [if_true]
    rw [cv_eq (ρ := [some (.fv (.bytes nm)), some (.fv (.code X)), some (.fv (.bool false)), some (.fv (.gl 102)), some (.fv (.bool false)), Option.none, Option.none]) rfl rfl]
    simp [f15, getV, setV, e]
theorem allBytes_map {l : List (List UInt8)} : allBytes (l.map .bytes) = some l := by
  induction l with
  | nil => rfl
  | cons a r ih => rw [List.map_cons, allBytes, ih]; rfl
theorem join_ok {l : List (List UInt8)} (h : l.flatten.length ≤ big) : evP .join [.lst (l.map .bytes)] = .ok (.bytes l.flatten) := by
  rw [pP50, allBytes_map]
  show okBytes l.flatten = _
  unfold okBytes
  rw [if_pos h]
-- _element_to_bson
theorem elem_ok {n : Nat} {k : List UInt8} {d : Nd} (hk : nmOk k) (hd : EncAt (n + 2) d) : cv (n + 3) 12 [.str (nmS k), d.val, .bool false, .gl 102] = .ok (.bytes (elt (k, d))) := by
  rw [cv_eq (ρ := [some (.fv (.str (nmS k))), some (.fv d.val), some (.fv (.bool false)), some (.fv (.gl 102)), Option.none]) rfl rfl]
  have h1 := @name_ok n k hk
  have h2 := hd (k ++ [0]) (by have := hk.1; simp; omega)
  have h3 : d.kind.toUInt8 :: (k ++ [0] ++ d.enc) = elt (k, d) := by rw [elt]; simp
  rw [h3] at h2
  simp [f12, getV, setV, h1, h2]
theorem items_ok {ps : Nds} (h : ∀ p ∈ ps.toL, nmOk p.1) : srcItems .items [.dct ps.dvals] = .ok (ps.toL.map fun p => .tup [.str (nmS p.1), p.2.val]) := by
  rw [sI7, dvals_toL]
  rw [if_pos]
  · rw [List.map_map]; rfl
  · rw [List.all_map, List.all_eq_true]
    intro p hp
    have := (h p hp).1
    show decide ((nmS p.1).length ≤ 1000) = true
    rw [decide_eq_true_eq]
    show ((p.1.map (·.toNat)).toArray).size ≤ 1000
    simp; omega
theorem enc_doc {n : Nat} {ps : Nds} (hd : (Nd.box true ps).Ok) (hsz : ps.size ≤ 900000) (h : ∀ p ∈ ps.toL, EncAt (n + 2) p.2) : EncAt (n + 5) (.box true ps) := fun nm hn => by
  rw [Nd.Ok] at hd
  obtain ⟨hok, hlen, _⟩ := hd
  have hnm : ∀ p ∈ ps.toL, nmOk p.1 := fun p hp => (mem_ok hok p hp).1
  have hl := encS_len hok
  have key : ∀ ρ : Env', ρ[1]? = some (some (.fv (.dct ps.dvals))) → ρ[2]? = some (some (.fv (.bool false))) → ρ[3]? = some (some (.fv (.gl 102))) → evE (T (n + 3)) ρ [] (.comp (.call (G' 12) [.c 0, .c 1, .v 2, .v 3]) 2 .items [.v 1]) = .ok (.lst ((ps.toL.map elt).map .bytes)) := fun ρ h1 h2 h3 => by
    rw [List.map_map]
    refine comp_ok (vs := [.dct ps.dvals]) (xs := ps.toL) (fun p => .tup [.str (nmS p.1), p.2.val]) _ (by simp [getV, h1]) (items_ok hnm) (by omega) fun p hp => ⟨[.str (nmS p.1), p.2.val], rfl, ?_⟩
    have := @elem_ok n p.1 p.2 (hnm p hp) (h p hp)
    simp [getV, h2, h3, this]
  have hj : evP .join [.lst ((ps.toL.map elt).map .bytes)] = .ok (.bytes ps.enc) := by
    rw [join_ok (by rw [← encS_toL, hl]; unfold big; omega), encS_toL]
  rw [Nd.val, Nd.kind, Nd.enc]
  simp only [if_true]
  have hL : ((5 + ps.size : Nat) : Int) = (ps.enc.length : Int) + 5 := by rw [hl]; push_cast; omega
  rw [hL]
  have hR : ps.enc.length ≤ 900000 := by omega
  generalize ps.enc = R at *
  have hp := @pack_ok (n + 2) ((R.length : Int) + 5) (by omega) (by omega)
  have hb : nm.length + 1 ≤ big := by unfold big; omega
  have hb4 : nm.length + 4 + 1 ≤ big := by unfold big; omega
  have hb5 : nm.length + (4 + R.length) + 1 ≤ big := by unfold big; omega
  have hb6 : nm.length + (4 + (R.length + 1)) + 1 ≤ big := by unfold big; omega
  have e : cv (n + 4) 19 [.bytes nm, .dct ps.dvals, .bool false, .gl 102] = .ok (.bytes (3 :: (nm ++ (le4 ((R.length : Int) + 5) ++ (R ++ [0]))))) := by
    rw [cv_eq (ρ := [some (.fv (.bytes nm)), some (.fv (.dct ps.dvals)), some (.fv (.bool false)), some (.fv (.gl 102)), Option.none]) rfl rfl]
    simp [-List.map_map, f19, getV, setV, key, -pP50, hj, hp, okBytes, hb, hb4, hb5, hb6, le4_len]
  rw [cv_eq (ρ := [some (.fv (.bytes nm)), some (.fv (.dct ps.dvals)), some (.fv (.bool false)), some (.fv (.gl 102)), some (.fv (.bool false)), Option.none, Option.none]) rfl rfl]
  simp [f15, getV, setV, e]
theorem zip_names {ps : Nds} (h : ps.toL.map (·.1) = (List.range ps.toL.length).map digB) {p : (List UInt8 × Nd) × Nat} (hp : p ∈ ps.toL.zipIdx) : p.1 ∈ ps.toL ∧ p.2 < ps.toL.length ∧ p.1.1 = digB p.2 := by
  have hp' := List.mem_zipIdx hp
  have hi : p.2 < ps.toL.length := by simpa using hp'.2.1
  have hd : p.1 = ps.toL[p.2] := by simpa using hp'.2.2
  refine ⟨hd ▸ List.getElem_mem hi, hi, ?_⟩
  have e : (ps.toL.map (·.1))[p.2]'(by simpa using hi) = ((List.range ps.toL.length).map digB)[p.2]'(by simpa using hi) := by simp only [h]
  rw [List.getElem_map, List.getElem_map, List.getElem_range] at e
  rw [hd, e]
theorem enc_arr {n : Nat} {ps : Nds} (hd : (Nd.box false ps).Ok) (ha : ps.toL.map (·.1) = (List.range ps.toL.length).map digB) (hsz : ps.size ≤ 900000) (h : ∀ p ∈ ps.toL, EncAt (n + 3) p.2) : EncAt (n + 5) (.box false ps) := fun nm hn => by
  rw [Nd.Ok] at hd
  obtain ⟨hok, hlen, _⟩ := hd
  have hnm : ∀ p ∈ ps.toL, nmOk p.1 := fun p hp => (mem_ok hok p hp).1
  have hl := encS_len hok
  have key : ∀ (ρ : Env') (V : FV), ρ[1]? = some (some (.fv V)) → ρ[2]? = some (some (.fv (.bool false))) → ρ[3]? = some (some (.fv (.gl 102))) → srcItems .enum [V] = .ok (ps.vals.zipIdx.map fun p => .tup [.int p.2, p.1]) →
      evE (T (n + 3)) ρ [] (.comp (.call (G' 15) [.p .enc [.p .add [.p .strInt [.c 0], .k (.str ⟨#[0]⟩)]], .c 1, .v 2, .v 3]) 2 .enum [.v 1]) = .ok (.lst ((ps.toL.map elt).map .bytes)) := fun ρ V h1 h2 h3 hV => by
    have hx : (ps.toL.map elt).map FV.bytes = ps.toL.zipIdx.map fun p => FV.bytes (elt p.1) := by
      rw [List.map_map]
      have := List.map_map (l := ps.toL.zipIdx) (f := Prod.fst) (g := fun q => FV.bytes (elt q))
      rw [List.zipIdx_map_fst] at this
      exact this
    rw [hx]
    refine comp_ok (vs := [V]) (xs := ps.toL.zipIdx) (fun p => .tup [.int p.2, p.1.2.val]) _ (by simp [getV, h1]) ?_ (by rw [List.length_zipIdx]; omega) fun p hp => ⟨[.int p.2, p.1.2.val], rfl, ?_⟩
    · rw [hV, vals_toL, List.zipIdx_map, List.map_map]
      rfl
    · obtain ⟨q1, q2, q3⟩ := zip_names ha hp
      obtain ⟨s, e1, s', e2, e3⟩ := @enc_dig p.2 (by omega)
      have hb := h p.1 q1 (digB p.2 ++ [0]) (by have := digB_len p.2; simp; omega)
      have h4 : p.1.2.kind.toUInt8 :: (digB p.2 ++ [0] ++ p.1.2.enc) = elt p.1 := by rw [elt, q3]; simp
      rw [h4] at hb
      simp only [eE12, eL2, eL1, eE5, eE3, eE2, eE1, getV, List.getElem?_cons_zero, List.getElem?_cons_succ, Res.bind_ok, h2, h3, e1, e2, e3, hb]
  have hj : evP .join [.lst ((ps.toL.map elt).map .bytes)] = .ok (.bytes ps.enc) := by
    rw [join_ok (by rw [← encS_toL, hl]; unfold big; omega), encS_toL]
  rw [Nd.val, Nd.kind, Nd.enc]
  simp only [Bool.false_eq_true, if_false]
  have hL : ((5 + ps.size : Nat) : Int) = (ps.enc.length : Int) + 5 := by rw [hl]; push_cast; omega
  rw [hL]
  have hR : ps.enc.length ≤ 900000 := by omega
  generalize ps.enc = R at *
  have hp := @pack_ok (n + 2) ((R.length : Int) + 5) (by omega) (by omega)
  have hb : nm.length + 1 ≤ big := by unfold big; omega
  have hb4 : nm.length + 4 + 1 ≤ big := by unfold big; omega
  have hb5 : nm.length + (4 + R.length) + 1 ≤ big := by unfold big; omega
  have hb6 : nm.length + (4 + (R.length + 1)) + 1 ≤ big := by unfold big; omega
  have e : ∀ V : FV, srcItems .enum [V] = .ok (ps.vals.zipIdx.map fun p => .tup [.int p.2, p.1]) → cv (n + 4) 20 [.bytes nm, V, .bool false, .gl 102] = .ok (.bytes (4 :: (nm ++ (le4 ((R.length : Int) + 5) ++ (R ++ [0]))))) := fun V hV => by
    rw [cv_eq (ρ := [some (.fv (.bytes nm)), some (.fv V), some (.fv (.bool false)), some (.fv (.gl 102)), Option.none]) rfl rfl]
    have key' := fun ρ h1 h2 h3 => key ρ V h1 h2 h3 hV
    simp [-List.map_map, f20, getV, setV, key', -pP50, hj, hp, okBytes, hb, hb4, hb5, hb6, le4_len]
  have e1 := e (.lst ps.vals) sI5
  have e2 := e (.tup ps.vals) sI6
  split
  · rw [cv_eq (ρ := [some (.fv (.bytes nm)), some (.fv (.tup ps.vals)), some (.fv (.bool false)), some (.fv (.gl 102)), some (.fv (.bool false)), Option.none, Option.none]) rfl rfl]
    simp [f15, getV, setV, e2]
  · rw [cv_eq (ρ := [some (.fv (.bytes nm)), some (.fv (.lst ps.vals)), some (.fv (.bool false)), some (.fv (.gl 102)), some (.fv (.bool false)), Option.none, Option.none]) rfl rfl]
    simp [f15, getV, setV, e1]
theorem enc_ok : ∀ {m n : Nat} {d : Nd}, d.Ok → d.Arr → d.size ≤ 900000 → d.dep ≤ m → 3 * m + 5 ≤ n → EncAt n d
  | m, n, .num i, h, _, _, _, hn => by
    obtain ⟨n, rfl⟩ : ∃ k, n = k + 3 := ⟨n - 3, by omega⟩
    exact enc_num h
  | m, n, .raw c, h, _, _, _, hn => by
    obtain ⟨n, rfl⟩ : ∃ k, n = k + 3 := ⟨n - 3, by omega⟩
    exact enc_raw h
  | m, n, .txt b u c, h, _, _, _, hn => by
    obtain ⟨n, rfl⟩ : ∃ k, n = k + 5 := ⟨n - 5, by omega⟩
    exact enc_txt h
  | 0, n, .box b ps, h, _, _, hd, hn => by rw [Nd.dep] at hd; omega
  | m + 1, n, .box b ps, h, ha, hs, hd, hn => by
    have h' := h
    rw [Nd.Ok] at h'
    rw [Nd.dep] at hd
    rw [Nd.size] at hs
    rw [Nd.Arr] at ha
    obtain ⟨n, rfl⟩ : ∃ k, n = k + 5 := ⟨n - 5, by omega⟩
    have hc : ∀ (j : Nat), 3 * m + 5 ≤ j → ∀ p ∈ ps.toL, EncAt j p.2 := fun j hj p hp => by
      obtain ⟨h1, h2, h3⟩ := mem_ok h'.1 p hp
      have := mem_size p hp
      exact enc_ok (m := m) h2 (mem_arr ha.2 p hp) (by omega) (by omega) hj
    cases b
    · exact enc_arr h (ha.1 rfl) (by omega) (hc _ (by omega))
    · exact enc_doc h (by omega) (hc _ (by omega))
end Mine
end

section
open PySem
namespace Mine
theorem idS : Str.ofString "_id" = ⟨#[95, 105, 100]⟩ := by decide +kernel
/-- a name that opens with f -/
def fNm (k : List UInt8) : Prop := ∃ r, k = 102 :: r
theorem ne_id {k : List UInt8} (h : fNm k) : nmS k ≠ Str.ofString "_id" := by
  obtain ⟨r, rfl⟩ := h
  rw [idS]
  intro e
  have := congrArg (fun x : Str => x.cps.toList) e
  simp [nmS] at this
theorem get_id {l : List (Str × FV)} (h : ∀ p ∈ l, p.1 ≠ Str.ofString "_id") : dctGet l (Str.ofString "_id") = Option.none := by
  unfold dctGet
  rw [List.find?_eq_none.mpr]
  · rfl
  · intro p hp
    simpa using h p hp
abbrev topB : List CS := [.ite (.or (.p .not [.v 3]) (.p .ne [.v 5, .k (S' "_id")])) [.try [.app 4 (.call (G' 12) [.v 5, .v 6, .v 1, .v 2])] [(.own 110, .other)]] []]
abbrev env11 (d : FV) (l : List FV) (x5 x6 : Option LV) : Env' := [some (.fv d), some (.fv (.bool false)), some (.fv (.gl 102)), some (.fv (.bool true)), some (.ml l), x5, x6, Option.none, Option.none]
theorem top_loop {n : Nat} {d : FV} : ∀ (ps : List (List UInt8 × Nd)) (l : List FV) (x5 x6 : Option LV), (∀ p ∈ ps, nmOk p.1 ∧ fNm p.1 ∧ EncAt (n + 2) p.2) → l.length + ps.length < 1000000 →
    ∃ y5 y6, forGo (fun ρ => exSs (T (n + 3)) ρ topB) [5, 6] 2 (ps.map fun p => .tup [.str (nmS p.1), p.2.val]) (env11 d l x5 x6) = .ok .next (env11 d (l ++ (ps.map elt).map .bytes) y5 y6)
  | [], l, x5, x6, _, _ => ⟨x5, x6, by simp [forGo]⟩
  | p :: r, l, x5, x6, h, hl => by
    obtain ⟨h1, h2, h3⟩ := h p (by simp)
    obtain ⟨y5, y6, ih⟩ := top_loop (n := n) (d := d) r (l ++ [.bytes (elt p)]) (some (.fv (.str (nmS p.1)))) (some (.fv p.2.val)) (fun q hq => h q (List.mem_cons_of_mem _ hq)) (by simp only [List.length_cons, List.length_append, List.length_nil] at hl ⊢; omega)
    refine ⟨y5, y6, ?_⟩
    rw [List.map_cons, forGo]
    rw [show spread 2 (FV.tup [.str (nmS p.1), p.2.val]) = some [.str (nmS p.1), p.2.val] from rfl]
    have he := @elem_ok n p.1 p.2 h1 h3
    have hne := ne_id h2
    have hl' : l.length < 1000000 := by omega
    have key : exSs (T (n + 3)) (setAll (env11 d l x5 x6) [5, 6] [.str (nmS p.1), p.2.val]) topB = .ok .next (env11 d (l ++ [.bytes (elt p)]) (some (.fv (.str (nmS p.1)))) (some (.fv p.2.val))) := by
      simp [setAll, setV, getV, getL, hne, he, hl']
    dsimp only
    rw [key]
    dsimp only
    rw [ih]
    simp
/-- the root: a document -/
theorem dict_to_bson {n : Nat} {ps : Nds} (hd : (Nd.box true ps).Ok) (hsz : ps.size ≤ 900000) (h : ∀ p ∈ ps.toL, fNm p.1 ∧ EncAt (n + 2) p.2) : cv (n + 5) 10 [(Nd.box true ps).val] = .ok (.bytes (Nd.box true ps).enc) := by
  rw [Nd.Ok] at hd
  obtain ⟨hok, hlen, _⟩ := hd
  have hnm : ∀ p ∈ ps.toL, nmOk p.1 := fun p hp => (mem_ok hok p hp).1
  have hl := encS_len hok
  rw [Nd.val, Nd.enc]
  simp only [if_true]
  have hj : evP .join [.lst ((ps.toL.map elt).map .bytes)] = .ok (.bytes ps.enc) := by
    rw [join_ok (by rw [← encS_toL, hl]; unfold big; omega), encS_toL]
  have hid : dctGet ps.dvals (Str.ofString "_id") = Option.none := get_id fun p hp => by
    rw [dvals_toL, List.mem_map] at hp
    obtain ⟨q, hq, rfl⟩ := hp
    exact ne_id (h q hq).1
  obtain ⟨y5, y6, hloop⟩ := @top_loop n (.dct ps.dvals) ps.toL [] Option.none Option.none (fun p hp => ⟨hnm p hp, h p hp⟩) (by simp; omega)
  have e : cv (n + 4) 11 [.dct ps.dvals, .bool false, .gl 102] = .ok (.bytes (le4 ((5 + ps.size : Nat)) ++ (ps.enc ++ [0]))) := by
    have hL : ((5 + ps.size : Nat) : Int) = (ps.enc.length : Int) + 5 := by rw [hl]; push_cast; omega
    rw [hL]
    have hR : ps.enc.length ≤ 900000 := by omega
    generalize ps.enc = R at *
    have hp := @pack_ok (n + 2) ((R.length : Int) + 5) (by omega) (by omega)
    have hb4 : R.length + 4 ≤ big := by unfold big; omega
    have hb5 : 4 + (R.length + 1) ≤ big := by unfold big; omega
    have hb6 : 4 + R.length ≤ big := by unfold big; omega
    rw [cv_eq (ρ := [some (.fv (.dct ps.dvals)), some (.fv (.bool false)), some (.fv (.gl 102)), some (.fv (.bool true)), Option.none, Option.none, Option.none, Option.none, Option.none]) rfl rfl]
    have hpre : exSs (T (n + 3)) [some (.fv (.dct ps.dvals)), some (.fv (.bool false)), some (.fv (.gl 102)), some (.fv (.bool true)), Option.none, Option.none, Option.none, Option.none, Option.none] (f11.body.take 3) = .ok .next (env11 (.dct ps.dvals) [] Option.none Option.none) := by
      simp [f11, getV, setV, hid]
    rw [← List.take_append_drop 3 f11.body, app_ok hpre]
    show resV (exSs (T (n + 3)) _ (.for [5, 6] .items [.v 0] topB :: _)) = _
    rw [bB2, sS12]
    have hs : (evEs (T (n + 3)) (env11 (.dct ps.dvals) [] Option.none Option.none) [] [.v 0]).bind (srcItems .items) = .ok (ps.toL.map fun p => .tup [.str (nmS p.1), p.2.val]) := by
      simp [getV, items_ok hnm]
    rw [hs]
    dsimp only
    rw [show (if [5, 6].length = 1 then 0 else [5, 6].length) = 2 from rfl, hloop]
    dsimp only
    rw [List.nil_append]
    show resV (exSs _ _ [.frz 4, .set 7 _, .ret _]) = _
    rw [bB2, sS16 (l := (ps.toL.map elt).map .bytes) rfl]
    simp [-List.map_map, -pP50, setV, getV, hj, hp, okBytes, hb4, hb5, hb6, le4_len]
  rw [cv_eq (ρ := [some (.fv (.dct ps.dvals)), some (.fv (.bool false)), some (.fv (.gl 102))]) rfl rfl]
  simp [f10, getV, setV, e]
theorem encode_ok {m n : Nat} {ps : Nds} (hd : (Nd.box true ps).Ok) (ha : ps.Arr) (hf : ∀ p ∈ ps.toL, fNm p.1) (hsz : ps.size ≤ 900000) (hm : ps.dep ≤ m) (hn : 3 * m + 8 ≤ n) : cv n 10 [(Nd.box true ps).val] = .ok (.bytes (Nd.box true ps).enc) := by
  have hd' := hd
  rw [Nd.Ok] at hd'
  obtain ⟨n, rfl⟩ : ∃ k, n = k + 5 := ⟨n - 5, by omega⟩
  exact dict_to_bson hd hsz fun p hp => by
    obtain ⟨h1, h2, h3⟩ := mem_ok hd'.1 p hp
    have := mem_size p hp
    exact ⟨hf p hp, enc_ok (m := m) h2 (mem_arr ha p hp) (by omega) (by omega) (by omega)⟩
end Mine
end

section
open PySem
namespace Mine
mutual
/-- what is read back -/
def Nd.dec : Nd → FV
  | .num i => .int i
  | .raw c => .bytes (repB c [102])
  | .txt b u c => if b then .code (repStr (unitS u) c) else .str (repStr (unitS u) c)
  | .box b ps => if b then .dct ps.ddec else .lst ps.decs
def Nds.decs : Nds → List FV
  | .nil => []
  | .cons _ d r => d.dec :: r.decs
def Nds.ddec : Nds → List (Str × FV)
  | .nil => []
  | .cons k d r => (nmS k, d.dec) :: r.ddec
end
theorem decs_toL : ∀ ps : Nds, ps.decs = ps.toL.map fun p => p.2.dec
  | .nil => by rw [Nds.decs, Nds.toL]; rfl
  | .cons k d r => by rw [Nds.decs, Nds.toL, List.map_cons, decs_toL r]
theorem ddec_toL : ∀ ps : Nds, ps.ddec = ps.toL.map fun p => (nmS p.1, p.2.dec)
  | .nil => by rw [Nds.ddec, Nds.toL]; rfl
  | .cons k d r => by rw [Nds.ddec, Nds.toL, List.map_cons, ddec_toL r]
theorem allBools_map {l : List Bool} : allBools (l.map .bool) = some l := by
  induction l with
  | nil => rfl
  | cons a r ih => rw [List.map_cons, allBools, ih]; rfl
theorem allStrs_map {l : List Str} : allStrs (l.map .str) = some l := by
  induction l with
  | nil => rfl
  | cons a r ih => rw [List.map_cons, allStrs, ih]; rfl
theorem all_true {α : Type} {xs : List α} : evP .all [.lst (xs.map fun _ => .bool true)] = .ok (.bool true) := by
  have : (xs.map fun _ => FV.bool true) = (xs.map fun _ => true).map .bool := by rw [List.map_map]; rfl
  rw [pP45, this, allBools_map]
  simp
theorem eq_strs {l : List Str} : evP .eq [.lst (l.map .str), .lst (l.map .str)] = .ok (.bool true) := by
  rw [pP21, allStrs_map]
  simp
theorem dctGet_at : ∀ {l : List (List UInt8 × Nd)} {i : Nat} (h : i < l.length), (l.map fun p => nmS p.1).Nodup → dctGet (l.map fun p => (nmS p.1, p.2.dec)) (nmS l[i].1) = some l[i].2.dec
  | [], i, h, _ => by cases h
  | p :: r, 0, h, hn => by
    unfold dctGet
    rw [List.map_cons, List.find?_cons_of_pos (by simp)]
    rfl
  | p :: r, i + 1, h, hn => by
    rw [List.map_cons, List.nodup_cons] at hn
    have hi : i < r.length := by simpa using h
    have hne : (nmS p.1 == nmS (r[i]).1) = false := by
      rw [beq_eq_false_iff_ne]
      intro e
      exact hn.1 (e ▸ List.mem_map_of_mem (List.getElem_mem hi))
    unfold dctGet
    rw [List.map_cons, List.find?_cons_of_neg (by simpa using hne)]
    exact dctGet_at hi hn.2
abbrev kEnv (g d : FV) : Env' := [some (.fv g), some (.fv d), Option.none, Option.none, Option.none, Option.none, Option.none]
theorem like_num {n : Nat} {i : Int} : cv (n + 1) 8 [(Nd.num i).dec, (Nd.num i).fv] = .ok (.bool true) := by
  rw [Nd.dec, cv_eq (ρ := kEnv (.int i) (Nd.num i).fv) rfl rfl, Nd.fv]
  simp [f8, getV, spread, setAll, setV]
theorem like_raw {n c : Nat} (h : c ≤ 700) : cv (n + 1) 8 [(Nd.raw c).dec, (Nd.raw c).fv] = .ok (.bool true) := by
  rw [Nd.dec, cv_eq (ρ := kEnv (.bytes (repB c [102])) (Nd.raw c).fv) rfl rfl, Nd.fv]
  have hm := @mulB c [102] (by decide) (by decide) (by omega)
  simp [f8, getV, spread, setAll, setV, idxT1, hm, -pP6, -pP30]
theorem like_txt {n u c : Nat} {b : Bool} (hu : u < 4) (h : c ≤ 330) : cv (n + 1) 8 [(Nd.txt b u c).dec, (Nd.txt b u c).fv] = .ok (.bool true) := by
  rw [Nd.dec]
  have hm := @mulStr u c (by omega)
  have hi := units_idx hu
  cases b
  · simp only [Bool.false_eq_true, if_false]
    rw [cv_eq (ρ := kEnv (.str (repStr (unitS u) c)) (Nd.txt false u c).fv) rfl rfl, Nd.fv]
    simp [f8, getV, spread, setAll, setV, idxT1, idxT0, hm, hi, -pP7, -pP30]
  · simp only [if_true]
    rw [cv_eq (ρ := kEnv (.code (repStr (unitS u) c)) (Nd.txt true u c).fv) rfl rfl, Nd.fv]
    simp [f8, getV, spread, setAll, setV, idxT1, idxT0, hm, hi, -pP7, -pP30]
theorem rng_fin {c : Nat} (h : c ≤ 1000000) : srcItems .rng1 [.int c] = .ok ((List.finRange c).map fun (k : Fin c) => FV.int ((k.val : Nat) : Int)) := by
  rw [rngNat h]
  congr 1
  apply List.ext_getElem
  · simp
  · intro i h1 h2; simp
theorem pair_idx {l : List (List UInt8 × Nd)} {i : Nat} (h : i < l.length) : evP .idx [.lst (l.map pairFV), .int i] = .ok (pairFV l[i]) := by
  rw [pP31]
  simp [h]
theorem dec_idx {l : List (List UInt8 × Nd)} {i : Nat} (h : i < l.length) : evP .idx [.lst (l.map fun p => p.2.dec), .int i] = .ok (l[i]).2.dec := by
  rw [pP31]
  simp [h]
theorem nm_idx {l : List (List UInt8 × Nd)} {i : Nat} (h : i < l.length) : evP .idx [.lst (l.map fun p => .str (nmS p.1)), .int i] = .ok (.str (nmS (l[i]).1)) := by
  rw [pP31]
  simp [h]
theorem like_arr {n : Nat} {ps : Nds} (hl : ps.toL.length ≤ 1000) (hc : ∀ p ∈ ps.toL, cv n 8 [p.2.dec, p.2.fv] = .ok (.bool true)) : cv (n + 1) 8 [(Nd.box false ps).dec, (Nd.box false ps).fv] = .ok (.bool true) := by
  rw [Nd.dec]
  simp only [Bool.false_eq_true, if_false]
  rw [decs_toL, cv_eq (ρ := kEnv (.lst (ps.toL.map fun p => p.2.dec)) (Nd.box false ps).fv) rfl rfl, Nd.fv, fvs_toL]
  have key : ∀ ρ : Env', ρ[0]? = some (some (.fv (.lst (ps.toL.map fun p => p.2.dec)))) → ρ[3]? = some (some (.fv (.lst (ps.toL.map pairFV)))) →
      evE (T n) ρ [] (.comp (.call (G' 8) [.p .idx [.v 0, .c 0], .p .idx [.p .idx [.v 3, .c 0], I' 1]]) 0 .rng1 [.p .len [.v 3]]) = .ok (.lst ((List.finRange ps.toL.length).map fun _ => .bool true)) := fun ρ h0 h3 => by
    refine comp_ok (vs := [.int ps.toL.length]) (xs := List.finRange ps.toL.length) (fun k => FV.int ((k.val : Nat) : Int)) _ (by simp [getV, h3]) (rng_fin (by omega)) (by simp; omega) fun k hk => ⟨[.int ((k.val : Nat) : Int)], rfl, ?_⟩
    have e1 := dec_idx k.isLt
    have e2 := pair_idx k.isLt
    have e3 := hc _ (List.getElem_mem k.isLt)
    simp only [eE12, eL2, eL1, eE5, eE3, eE2, eE1, getV, List.getElem?_cons_zero, List.getElem?_cons_succ, Res.bind_ok, h0, h3, e1, e2, pairFV, idxT1, e3]
  have ha := @all_true _ (List.finRange ps.toL.length)
  simp [f8, getV, spread, setAll, setV, key, -pP45, ha]
theorem like_doc {n : Nat} {ps : Nds} (hl : ps.toL.length ≤ 1000) (hc : ∀ p ∈ ps.toL, nmOk p.1 ∧ cv n 8 [p.2.dec, p.2.fv] = .ok (.bool true)) (hn : (ps.toL.map fun p => nmS p.1).Nodup) : cv (n + 1) 8 [(Nd.box true ps).dec, (Nd.box true ps).fv] = .ok (.bool true) := by
  rw [Nd.dec]
  simp only [if_true]
  rw [ddec_toL, cv_eq (ρ := kEnv (.dct (ps.toL.map fun p => (nmS p.1, p.2.dec))) (Nd.box true ps).fv) rfl rfl, Nd.fv, fvs_toL]
  have key1 : ∀ ρ : Env', ρ[3]? = some (some (.fv (.lst (ps.toL.map pairFV)))) → evE (T n) ρ [] (.comp (.p .dec [.c 0]) 2 .lst [.v 3]) = .ok (.lst (ps.toL.map fun p => .str (nmS p.1))) := fun ρ h3 => by
    refine comp_ok (vs := [.lst (ps.toL.map pairFV)]) (xs := ps.toL) pairFV _ (by simp [getV, h3]) sI3 (by omega) fun p hp => ⟨[.bytes p.1, p.2.fv], rfl, ?_⟩
    simp [-pP52, dec_name (hc p hp).1]
  have key : ∀ ρ : Env', ρ[0]? = some (some (.fv (.dct (ps.toL.map fun p => (nmS p.1, p.2.dec))))) → ρ[3]? = some (some (.fv (.lst (ps.toL.map pairFV)))) → ρ[5]? = some (some (.fv (.lst (ps.toL.map fun p => .str (nmS p.1))))) →
      evE (T n) ρ [] (.comp (.call (G' 8) [.p .idx [.v 0, .p .idx [.v 5, .c 0]], .p .idx [.p .idx [.v 3, .c 0], I' 1]]) 0 .rng1 [.p .len [.v 3]]) = .ok (.lst ((List.finRange ps.toL.length).map fun _ => .bool true)) := fun ρ h0 h3 h5 => by
    refine comp_ok (vs := [.int ps.toL.length]) (xs := List.finRange ps.toL.length) (fun k => FV.int ((k.val : Nat) : Int)) _ (by simp [getV, h3]) (rng_fin (by omega)) (by simp; omega) fun k hk => ⟨[.int ((k.val : Nat) : Int)], rfl, ?_⟩
    have e0 := nm_idx k.isLt
    have e1 : evP .idx [.dct (ps.toL.map fun p => (nmS p.1, p.2.dec)), .str (nmS ps.toL[k.val].1)] = .ok (ps.toL[k.val]).2.dec := by rw [pP34, dctGet_at k.isLt hn]
    have e2 := pair_idx k.isLt
    have e3 := (hc _ (List.getElem_mem k.isLt)).2
    simp only [eE12, eL2, eL1, eE5, eE3, eE2, eE1, getV, List.getElem?_cons_zero, List.getElem?_cons_succ, Res.bind_ok, h0, h3, h5, e0, e1, e2, pairFV, idxT1, e3]
  have ha := @all_true _ (List.finRange ps.toL.length)
  have hlo : evP .listOf [.dct (ps.toL.map fun p => (nmS p.1, p.2.dec))] = .ok (.lst (ps.toL.map fun p => .str (nmS p.1))) := by
    rw [pP48, if_pos]
    · rw [List.map_map]; rfl
    · rw [List.all_map, List.all_eq_true]
      intro p hp
      have := (hc p hp).1.1
      show decide ((nmS p.1).length ≤ 1000) = true
      rw [decide_eq_true_eq]
      show ((p.1.map (·.toNat)).toArray).size ≤ 1000
      simp; omega
  have heq : evP .eq [.lst (ps.toL.map fun p => .str (nmS p.1)), .lst (ps.toL.map fun p => .str (nmS p.1))] = .ok (.bool true) := by
    have := @eq_strs (ps.toL.map fun p => nmS p.1)
    rw [List.map_map] at this
    exact this
  simp [f8, getV, spread, setAll, setV, key1, key, -pP45, ha, -pP48, hlo, -pP21, heq]
theorem like_ok : ∀ {n : Nat} {d : Nd}, d.Ok → d.dep ≤ n → cv (n + 1) 8 [d.dec, d.fv] = .ok (.bool true)
  | n, .num i, _, _ => like_num
  | n, .raw c, h, _ => like_raw (by rw [Nd.Ok] at h; exact h)
  | n, .txt b u c, h, _ => by rw [Nd.Ok] at h; exact like_txt h.1 h.2
  | n, .box b ps, h, hd => by
    rw [Nd.Ok] at h
    rw [Nd.dep] at hd
    cases n with
    | zero => omega
    | succ n =>
      have hc : ∀ p ∈ ps.toL, nmOk p.1 ∧ cv (n + 1) 8 [p.2.dec, p.2.fv] = .ok (.bool true) := fun p hp => by
        obtain ⟨h1, h2, h3⟩ := mem_ok h.1 p hp
        exact ⟨h1, like_ok h2 (by omega)⟩
      cases b
      · exact like_arr (by omega) fun p hp => (hc p hp).2
      · exact like_doc (by omega) hc (h.2.2 rfl)
end Mine
end

section
open PySem
namespace Mine
/-- what lies in the octets from a place on -/
def At (data : List UInt8) (p : Nat) (q : List UInt8) : Prop := ∃ pre post, data = pre ++ (q ++ post) ∧ pre.length = p
section
variable {data : List UInt8} {p : Nat} {q a b : List UInt8} {x : UInt8}
theorem At.le (h : At data p q) : p + q.length ≤ data.length := by
  obtain ⟨pre, post, rfl, rfl⟩ := h
  simp only [List.length_append]; omega
theorem At.left (h : At data p (a ++ b)) : At data p a := by
  obtain ⟨pre, post, rfl, rfl⟩ := h
  exact ⟨pre, b ++ post, by simp, rfl⟩
theorem At.right (h : At data p (a ++ b)) : At data (p + a.length) b := by
  obtain ⟨pre, post, rfl, rfl⟩ := h
  exact ⟨pre ++ a, post, by simp, by simp⟩
theorem At.tail (h : At data p (x :: b)) : At data (p + 1) b := by
  obtain ⟨pre, post, rfl, rfl⟩ := h
  exact ⟨pre ++ [x], post, by simp, by simp⟩
theorem At.get (h : At data p (x :: b)) : data[p]? = some x := by
  obtain ⟨pre, post, rfl, rfl⟩ := h
  simp
theorem At.getI {i : Nat} {y : UInt8} (h : At data p q) (hi : q[i]? = some y) : data[p + i]? = some y := by
  obtain ⟨pre, post, rfl, rfl⟩ := h
  have hl : i < q.length := by
    by_cases c : i < q.length
    · exact c
    · rw [List.getElem?_eq_none (by omega)] at hi; cases hi
  rw [List.getElem?_append_right (by omega), List.getElem?_append_left (by omega)]
  rw [Nat.add_sub_cancel_left]; exact hi
theorem At.slice (h : At data p q) : (data.take (p + q.length)).drop p = q := by
  obtain ⟨pre, post, rfl, rfl⟩ := h
  rw [← List.append_assoc, List.take_append_of_le_length (by simp)]
  rw [List.take_of_length_le (by simp)]
  simp
end
theorem bIdx {data : List UInt8} {p : Nat} {P : Int} {x : UInt8} (h : data[p]? = some x) (hP : P = ((p : Nat) : Int)) : evP .idx [.bytes data, .int P] = .ok (.int x.toNat) := by
  subst hP
  rw [pP32]
  simp [h]
theorem bSl {data q : List UInt8} {p e : Nat} {P E : Int} (h : At data p q) (hd : data.length ≤ 1000000) (hP : P = ((p : Nat) : Int)) (hE : E = ((p + q.length : Nat) : Int)) : evP .slAB [.bytes data, .int P, .int E] = .ok (.bytes q) := by
  subst hP hE
  have := h.le
  rw [pP35, small_nat (by omega), small_nat (by omega)]
  simp only [Int.toNat_natCast, h.slice]
  rw [if_pos (by simp; omega)]
theorem toU8 (n : Nat) : (n.toUInt8).toNat = n % 256 := by simp [UInt8.toNat_ofNat']
theorem unLE_le4 (x : Int) : (unLE (le4 x) : Int) = x % 4294967296 := by
  unfold le4
  simp only [unLE, toU8]
  omega
theorem ofLE_le4 {x : Int} (h1 : -2147483648 ≤ x) (h2 : x < 2147483648) : ofLE (le4 x) true = x := by
  have hu := unLE_le4 x
  unfold ofLE
  rw [le4_len]
  have he : (le4 x).isEmpty = false := rfl
  rw [he]
  by_cases c : 2 * unLE (le4 x) ≥ 256 ^ 4
  · simp [c]; omega
  · simp [c]; omega
-- _unpack
theorem unpack_ok {n : Nat} {data q : List UInt8} {p : Nat} {P S : Int} {B : Bool} (h : At data p q) (hd : data.length ≤ 1000000) (hq : q.length ≤ 8) (hP : P = ((p : Nat) : Int)) (hS : S = q.length) : cv (n + 1) 29 [.bytes data, .int P, .int S, .bool B] = .ok (.int (ofLE q B)) := by
  have hl := h.le
  have hs := @bSl data q p 0 P (P + S) h hd hP (by subst hP hS; push_cast; rfl)
  rw [cv_eq (ρ := [some (.fv (.bytes data)), some (.fv (.int P)), some (.fv (.int S)), some (.fv (.bool B))]) rfl rfl]
  have hc : ¬ ((data.length : Int) < P + S) := by omega
  simp [f29, getV, hc, hs, -pP35, hq]
theorem unpack_no {n : Nat} {data : List UInt8} {S P : Int} {B : Bool} (h : (data.length : Int) < P + S) : cv (n + 1) 29 [.bytes data, .int P, .int S, .bool B] = .exc ⟨.blt "ValueError", some (Str.ofString "unpack_from requires a longer buffer")⟩ := by
  rw [cv_eq (ρ := [some (.fv (.bytes data)), some (.fv (.int P)), some (.fv (.int S)), some (.fv (.bool B))]) rfl rfl]
  simp [f29, getV, h]
-- _UNPACK_INT_FROM
theorem int_ok {n : Nat} {data : List UInt8} {p : Nat} {P x : Int} (h : At data p (le4 x)) (hd : data.length ≤ 1000000) (hP : P = ((p : Nat) : Int)) (h1 : -2147483648 ≤ x) (h2 : x < 2147483648) : cv (n + 2) 28 [.bytes data, .int P] = .ok (.tup [.int x]) := by
  have hu := @unpack_ok n data (le4 x) p P 4 true h hd (by rw [le4_len]; omega) hP (by rw [le4_len]; rfl)
  rw [ofLE_le4 h1 h2] at hu
  rw [cv_eq (ρ := [some (.fv (.bytes data)), some (.fv (.int P))]) rfl rfl]
  simp [f28, getV, hu]
theorem int_no {n : Nat} {data : List UInt8} {P : Int} (h : (data.length : Int) < P + 4) : cv (n + 2) 28 [.bytes data, .int P] = .exc ⟨.blt "ValueError", some (Str.ofString "unpack_from requires a longer buffer")⟩ := by
  have hu := @unpack_no n data 4 P true h
  rw [cv_eq (ρ := [some (.fv (.bytes data)), some (.fv (.int P))]) rfl rfl]
  simp [f28, getV, hu]
-- _UNPACK_LENGTH_SUBTYPE_FROM
theorem lens_ok {n : Nat} {data : List UInt8} {p : Nat} {P x : Int} {s : UInt8} (h : At data p (le4 x ++ [s])) (hd : data.length ≤ 1000000) (hP : P = ((p : Nat) : Int)) (h1 : -2147483648 ≤ x) (h2 : x < 2147483648) : cv (n + 2) 39 [.bytes data, .int P] = .ok (.tup [.int x, .int s.toNat]) := by
  have hu := @unpack_ok n data (le4 x) p P 4 true h.left hd (by rw [le4_len]; omega) hP (by rw [le4_len]; rfl)
  have hu2 := @unpack_ok n data [s] (p + 4) (P + 4) 1 false h.right hd (by simp) (by rw [hP]; push_cast; rfl) (by simp)
  have e1 : ofLE [s] false = s.toNat := by simp [ofLE, unLE]
  rw [ofLE_le4 h1 h2] at hu
  rw [e1] at hu2
  rw [cv_eq (ρ := [some (.fv (.bytes data)), some (.fv (.int P))]) rfl rfl]
  simp [f39, getV, hu, hu2]
theorem forGo_append {b : Env' → SR} {is : List Nat} {m : Nat} : ∀ {xs ys : List FV} {ρ ρ' : Env'}, forGo b is m xs ρ = .ok .next ρ' → forGo b is m (xs ++ ys) ρ = forGo b is m ys ρ'
  | [], ys, ρ, ρ', h => by rw [forGo] at h; cases h; rfl
  | x :: xs, ys, ρ, ρ', h => by
    rw [forGo] at h
    rw [List.cons_append, forGo]
    cases hs : spread m x with
    | none => rw [hs] at h; cases h
    | some vs =>
      rw [hs] at h
      dsimp only at h ⊢
      cases hb : b (setAll ρ is vs) with
      | no => rw [hb] at h; cases h
      | exc e ρ1 => rw [hb] at h; cases h
      | ok f ρ1 =>
        rw [hb] at h
        cases f with
        | ret v => cases h
        | next => exact forGo_append h
abbrev nulB : List CS := [.ite (.p .eq [.p .idx [.v 0, .v 2], I' 0]) [.ret (.v 2)] []]
theorem nul_loop {n : Nat} {data : List UInt8} {P : Int} : ∀ (xs : List Nat) (o : Option LV), (∀ i ∈ xs, ∃ x : UInt8, data[i]? = some x ∧ x.toNat ≠ 0) →
    ∃ o', forGo (fun ρ => exSs (T n) ρ nulB) [2] 0 (xs.map fun (i : Nat) => FV.int (i : Int)) [some (.fv (.bytes data)), some (.fv (.int P)), o] = .ok .next [some (.fv (.bytes data)), some (.fv (.int P)), o']
  | [], o, _ => ⟨o, rfl⟩
  | i :: r, o, h => by
    obtain ⟨x, h1, h2⟩ := h i (by simp)
    obtain ⟨o', ih⟩ := nul_loop (n := n) (P := P) r (some (.fv (.int (i : Int)))) (fun j hj => h j (List.mem_cons_of_mem _ hj))
    refine ⟨o', ?_⟩
    have hi := @bIdx data i i x h1 rfl
    rw [List.map_cons, forGo]
    rw [show spread 0 (FV.int (i : Int)) = some [.int (i : Int)] from rfl]
    have h3 : ¬ (x = 0) := fun e => h2 (by rw [e]; rfl)
    have key : exSs (T n) (setAll [some (.fv (.bytes data)), some (.fv (.int P)), o] [2] [.int (i : Int)]) nulB = .ok .next [some (.fv (.bytes data)), some (.fv (.int P)), some (.fv (.int (i : Int)))] := by
      simp [setAll, setV, getV, hi, -pP32, h2]
    dsimp only
    rw [key]
    exact ih
-- _index_nul
theorem nul_ok {n : Nat} {data k : List UInt8} {p : Nat} {P : Int} (h : At data p (k ++ [0])) (hd : data.length ≤ 1000000) (hk : ∀ x ∈ k, x.toNat ≠ 0) (hP : P = ((p : Nat) : Int)) : cv (n + 1) 33 [.bytes data, .int P] = .ok (.int ((p + k.length : Nat))) := by
  subst hP
  have hle := h.le
  rw [List.length_append, List.length_singleton] at hle
  rw [cv_eq (ρ := [some (.fv (.bytes data)), some (.fv (.int (p : Int))), Option.none]) rfl rfl]
  show resV (exSs (T n) _ (.for [2] .rng2 [.v 1, .p .len [.v 0]] nulB :: _)) = _
  rw [bB2, sS12]
  have hs : (evEs (T n) [some (.fv (.bytes data)), some (.fv (.int (p : Int))), Option.none] [] [.v 1, .p .len [.v 0]]).bind (srcItems .rng2) =
      .ok ((List.range' p k.length).map (fun (i : Nat) => FV.int (i : Int)) ++ FV.int ((p + k.length : Nat)) :: (List.range' (p + k.length + 1) (data.length - (p + k.length + 1))).map (fun (i : Nat) => FV.int (i : Int))) := by
    simp only [eL2, eL1, eE5, eE2, getV, List.getElem?_cons_zero, List.getElem?_cons_succ, Res.bind_ok, pP26]
    rw [sI2, small_nat (by omega), small_nat (by omega)]
    have e : ((data.length : Int) - (p : Int)).toNat = k.length + (1 + (data.length - (p + k.length + 1))) := by omega
    rw [e]
    simp only [Bool.and_self, if_true]
    congr 1
    apply List.ext_getElem
    · simp; omega
    · intro i h1 h2
      simp only [List.getElem_map, List.getElem_range]
      by_cases c : i < k.length
      · rw [List.getElem_append_left (by simpa using c)]
        simp
      · rw [List.getElem_append_right (by simpa using Nat.le_of_not_lt c)]
        by_cases c2 : i = k.length
        · subst c2; simp
        · have : i - (List.map (fun (i : Nat) => FV.int (i : Int)) (List.range' p k.length)).length = (i - k.length - 1) + 1 := by simp; omega
          simp only [this, List.getElem_cons_succ, List.getElem_map, List.getElem_range']
          congr 1; omega
  rw [hs]
  dsimp only
  obtain ⟨o', hl⟩ := @nul_loop n data p (List.range' p k.length) Option.none (fun i hi => by
    rw [List.mem_range'_1] at hi
    have hlt : i - p < k.length := by omega
    refine ⟨k[i - p], ?_, hk _ (List.getElem_mem hlt)⟩
    have := At.getI (i := i - p) (y := k[i - p]) h.left (List.getElem?_eq_getElem hlt)
    rw [show p + (i - p) = i by omega] at this
    exact this)
  rw [show (if [2].length = 1 then 0 else [2].length) = 0 from rfl, forGo_append hl, forGo]
  rw [show ∀ v : FV, spread 0 v = some [v] from fun v => rfl]
  have hz := @bIdx data (p + k.length) ((p + k.length : Nat)) 0 (At.get h.right) rfl
  have hz' : evP .idx [.bytes data, .int ((p : Int) + k.length)] = .ok (.int 0) := hz
  simp [setAll, setV, getV, -pP32, hz']
-- _utf_8_decode
theorem udec_ok {n : Nat} {q : List UInt8} {x : Str} {a b : FV} (h : evP .dec [.bytes q] = .ok (.str x)) : cv (n + 1) 34 [.bytes q, a, b] = .ok (.tup [.str x, .int q.length]) := by
  rw [cv_eq (ρ := [some (.fv (.bytes q)), some (.fv a), some (.fv b)]) rfl rfl]
  simp [f34, getV, h, -pP52]
-- _get_c_string
theorem cname_ok {n : Nat} {data k : List UInt8} {p : Nat} {P : Int} (h : At data p (k ++ [0])) (hd : data.length ≤ 1000000) (hk : nmOk k) (hP : P = ((p : Nat) : Int)) : cv (n + 2) 32 [.bytes data, .bytes data, .int P, .gl 102] = .ok (.tup [.str (nmS k), .int ((p : Int) + k.length + 1)]) := by
  have h1 := @nul_ok n data k p P h hd (fun x hx => by have := (hk.2 x hx).1; omega) hP
  have h2 := @bSl data k p 0 P ((p + k.length : Nat)) h.left hd hP rfl
  have h3 : ∀ a b, cv (n + 1) 34 [.bytes k, a, b] = .ok (.tup [.str (nmS k), .int k.length]) := fun a b => udec_ok (dec_name hk)
  push_cast at h1 h2
  rw [cv_eq (ρ := [some (.fv (.bytes data)), some (.fv (.bytes data)), some (.fv (.int P)), some (.fv (.gl 102)), Option.none]) rfl rfl]
  simp [f32, getV, setV, h1, h2, h3, -pP35, -pP30, idxT0]
end Mine
end

section
open PySem
namespace Mine
def getr : Nd → Nat
  | .num _ => 41
  | .raw _ => 38
  | .txt b _ _ => if b then 40 else 35
  | .box b _ => if b then 36 else 37
/-- an exception of the text's own kind -/
def isBad (r : Res FV) : Prop := ∃ m, r = .exc ⟨.own 104, m⟩
def par (n : Nat) (d : Nd) (data : List UInt8) (P E : Int) (nm : Str) : Res FV := cv n (getr d) [.bytes data, .bytes data, .int P, .int E, .gl 102, .str nm]
theorem get_num {n : Nat} {i : Int} {data : List UInt8} {p : Nat} {P E : Int} {nm : Str} (h : At data p (le4 i)) (hd : data.length ≤ 1000000) (hP : P = ((p : Nat) : Int)) (hk : (Nd.num i).Ok) : par (n + 3) (.num i) data P E nm = .ok (.tup [.int i, .int (P + 4)]) := by
  rw [Nd.Ok] at hk
  unfold par
  rw [getr, cv_eq (ρ := [some (.fv (.bytes data)), some (.fv (.bytes data)), some (.fv (.int P)), some (.fv (.int E)), some (.fv (.gl 102)), some (.fv (.str nm))]) rfl rfl]
  have h1 := @int_ok n data p P i h hd hP hk.1 hk.2
  simp [f41, getV, h1]
/-- octets: a length told, and the end it gives -/
theorem get_raw {n c : Nat} {t : Int} {data q : List UInt8} {p : Nat} {P E : Int} {nm : Str} (h : At data p (le4 t ++ (0 :: q))) (hd : data.length ≤ 1000000) (hP : P = ((p : Nat) : Int)) (ht : -1000 ≤ t) (ht2 : t < 1000000) :
    ((t < 0 ∨ P + 5 + t > E) → isBad (par (n + 3) (.raw c) data P E nm)) ∧ ((0 ≤ t ∧ P + 5 + t ≤ E ∧ P + 5 + t ≤ data.length) → par (n + 3) (.raw c) data P E nm = .ok (.tup [.bytes ((data.take (p + 5 + t.toNat)).drop (p + 5)), .int (P + 5 + t)])) := by
  have h1 := @lens_ok n data p P t 0 (At.left (by simpa using h)) hd hP (by omega) (by omega)
  have hl := h.le
  simp only [List.length_append, List.length_cons, le4_len] at hl
  unfold par
  rw [getr, cv_eq (ρ := [some (.fv (.bytes data)), some (.fv (.bytes data)), some (.fv (.int P)), some (.fv (.int E)), some (.fv (.gl 102)), some (.fv (.str nm)), Option.none, Option.none, Option.none, Option.none, Option.none, Option.none, Option.none]) rfl rfl]
  constructor
  · intro hc
    refine ⟨some (Str.ofString "bad binary object length"), ?_⟩
    by_cases c1 : t < 0
    · simp [f38, getV, setV, setAll, spread, h1, c1]
    · have c2 : E < P + 5 + t := by omega
      simp [f38, getV, setV, setAll, spread, h1, c1, c2]
  · intro hc
    have c1 : ¬ t < 0 := by omega
    have c2 : ¬ E < P + 5 + t := by omega
    have hs : evP .slAB [.bytes data, .int (P + 5), .int (P + 5 + t)] = .ok (.bytes ((data.take (p + 5 + t.toNat)).drop (p + 5))) := by
      rw [pP35]
      have e1 : P + 5 = ((p + 5 : Nat) : Int) := by omega
      have e2 : P + 5 + t = ((p + 5 + t.toNat : Nat) : Int) := by omega
      rw [e2, e1, small_nat (by omega), small_nat (by omega)]
      rw [if_pos (by simp; omega)]
      rfl
    simp [f38, getV, setV, setAll, spread, h1, c1, c2, hs, -pP35, allInts]
/-- a text: a length told -/
theorem get_str {n : Nat} {t : Int} {data q : List UInt8} {p : Nat} {P E : Int} {nm : Str} {b : Bool} {u c : Nat} (h : At data p (le4 t ++ q)) (hd : data.length ≤ 1000000) (hP : P = ((p : Nat) : Int)) (ht : -1000 ≤ t) (ht2 : t < 1000000) :
    ((t < 1 ∨ E - (P + 4) < t) → isBad (par (n + 5) (.txt b u c) data P E nm)) ∧
    (∀ y : UInt8, 1 ≤ t → t ≤ E - (P + 4) → data[p + 3 + t.toNat]? = some y → (y.toNat ≠ 0 → isBad (par (n + 5) (.txt b u c) data P E nm)) ∧
      (y.toNat = 0 → ∀ x : Str, evP .dec [.bytes ((data.take (p + 3 + t.toNat)).drop (p + 4))] = .ok (.str x) → par (n + 5) (.txt b u c) data P E nm = .ok (.tup [if b then .code x else .str x, .int (P + 4 + t)]))) := by
  have h1 := @int_ok (n + 1) data p P t h.left hd hP (by omega) (by omega)
  have hl := h.le
  simp only [List.length_append, le4_len] at hl
  -- the text first
  have key : ∀ k, ((t < 1 ∨ E - (P + 4) < t) → isBad (cv (k + n + 4) 35 [.bytes data, .bytes data, .int P, .int E, .gl 102, .str nm])) ∧
    (∀ y : UInt8, 1 ≤ t → t ≤ E - (P + 4) → data[p + 3 + t.toNat]? = some y → (y.toNat ≠ 0 → isBad (cv (k + n + 4) 35 [.bytes data, .bytes data, .int P, .int E, .gl 102, .str nm])) ∧
      (y.toNat = 0 → ∀ x : Str, evP .dec [.bytes ((data.take (p + 3 + t.toNat)).drop (p + 4))] = .ok (.str x) → cv (k + n + 4) 35 [.bytes data, .bytes data, .int P, .int E, .gl 102, .str nm] = .ok (.tup [.str x, .int (P + 4 + t)]))) := fun k => by
    have h1 := @int_ok (k + n + 1) data p P t h.left hd hP (by omega) (by omega)
    rw [cv_eq (n := k + n + 3) (ρ := [some (.fv (.bytes data)), some (.fv (.bytes data)), some (.fv (.int P)), some (.fv (.int E)), some (.fv (.gl 102)), some (.fv (.str nm)), Option.none, Option.none]) rfl rfl]
    have hi0 : evP .idx [.tup [.int t], .int 0] = .ok (.int t) := nr rfl
    constructor
    · intro hc
      refine ⟨some (Str.ofString "invalid string length"), ?_⟩
      by_cases c1 : t < 1
      · simp [f35, getV, setV, h1, hi0, -pP30, c1]
      · have c2 : E - (P + 4) < t := by omega
        simp [f35, getV, setV, h1, hi0, -pP30, c1, c2]
    · intro y h2 h3 hy
      have c1 : ¬ t < 1 := by omega
      have c2 : ¬ E - (P + 4) < t := by omega
      have e1 : P + 4 + t - 1 = ((p + 3 + t.toNat : Nat) : Int) := by omega
      have hi := @bIdx data (p + 3 + t.toNat) (P + 4 + t - 1) y hy e1
      have hlt : p + 3 + t.toNat < data.length := by
        by_cases q : p + 3 + t.toNat < data.length
        · exact q
        · rw [List.getElem?_eq_none (by omega)] at hy; cases hy
      constructor
      · intro hy0
        refine ⟨some (Str.ofString "invalid end of string"), ?_⟩
        simp [f35, getV, setV, h1, hi0, -pP30, c1, c2, hi, -pP32, hy0]
      · intro hy0 x hx
        have hs : evP .slAB [.bytes data, .int (P + 4), .int (P + 4 + t - 1)] = .ok (.bytes ((data.take (p + 3 + t.toNat)).drop (p + 4))) := by
          have e2 : P + 4 = ((p + 4 : Nat) : Int) := by omega
          rw [pP35, e1, e2, small_nat (by omega), small_nat (by omega)]
          rw [if_pos (by simp; omega)]
          rfl
        have h3 : ∀ a b, cv (k + n + 3) 34 [.bytes ((data.take (p + 3 + t.toNat)).drop (p + 4)), a, b] = .ok (.tup [.str x, .int ((data.take (p + 3 + t.toNat)).drop (p + 4)).length]) := fun a b => udec_ok hx
        have hi2 : ∀ a, evP .idx [.tup [.str x, a], .int 0] = .ok (.str x) := fun a => nr rfl
        simp only [hy0] at hi
        have e5 : P + 4 + t - 1 + 1 = P + 4 + t := by omega
        simp [f35, getV, setV, h1, hi0, -pP30, c1, c2, hi, -pP32, hs, -pP35, h3, hi2, e5]
  unfold par
  cases b
  · have k1 := key 1
    rw [show 1 + n + 4 = n + 5 by omega] at k1
    exact k1
  · have k0 := key 0
    rw [show 0 + n + 4 = n + 4 by omega] at k0
    have e : ∀ r, cv (n + 4) 35 [.bytes data, .bytes data, .int P, .int E, .gl 102, .str nm] = r → (∀ x q, r = .ok (.tup [.str x, .int q]) → cv (n + 5) 40 [.bytes data, .bytes data, .int P, .int E, .gl 102, .str nm] = .ok (.tup [.code x, .int q])) ∧ (isBad r → isBad (cv (n + 5) 40 [.bytes data, .bytes data, .int P, .int E, .gl 102, .str nm])) := fun r hr => by
      rw [cv_eq (ρ := [some (.fv (.bytes data)), some (.fv (.bytes data)), some (.fv (.int P)), some (.fv (.int E)), some (.fv (.gl 102)), some (.fv (.str nm)), Option.none]) rfl rfl]
      constructor
      · rintro x q rfl
        simp [f40, getV, setV, setAll, spread, hr]
      · rintro ⟨m, rfl⟩
        exact ⟨m, by simp [f40, getV, setV, setAll, spread, hr]⟩
    obtain ⟨e1, e2⟩ := e _ rfl
    refine ⟨fun hc => e2 (k0.1 hc), fun y h2 h3 hy => ?_⟩
    obtain ⟨a, b⟩ := k0.2 y h2 h3 hy
    exact ⟨fun q => e2 (a q), fun q x hx => e1 x _ (b q x hx)⟩
end Mine
end

section
open PySem
namespace Mine
mutual
def Nd.Shp : Nd → Prop
  | .num _ => True
  | .raw _ => True
  | .txt _ _ _ => True
  | .box b ps => (b = true → ps.DShp) ∧ (b = false → ps.AShp)
def Nds.DShp : Nds → Prop
  | .nil => True
  | .cons k d r => (fNm k ∧ k.length ≤ 9) ∧ d.Shp ∧ r.DShp
def Nds.AShp : Nds → Prop
  | .nil => True
  | .cons k d r => (r.toL ≠ [] → ∀ c, d ≠ .raw c) ∧ d.Shp ∧ r.AShp
end
theorem mem_dshp : ∀ {ps : Nds}, ps.DShp → ∀ p ∈ ps.toL, fNm p.1 ∧ p.2.Shp
  | .nil, _, p, hp => by rw [Nds.toL] at hp; cases hp
  | .cons k d r, h, p, hp => by
    rw [Nds.DShp] at h
    rw [Nds.toL] at hp
    rcases List.mem_cons.mp hp with rfl | hp
    · exact ⟨h.1.1, h.2.1⟩
    · exact mem_dshp h.2.2 p hp
theorem mem_ashp : ∀ {ps : Nds}, ps.AShp → ∀ p ∈ ps.toL, p.2.Shp
  | .nil, _, p, hp => by rw [Nds.toL] at hp; cases hp
  | .cons k d r, h, p, hp => by
    rw [Nds.AShp] at h
    rw [Nds.toL] at hp
    rcases List.mem_cons.mp hp with rfl | hp
    · exact h.2.1
    · exact mem_ashp h.2.2 p hp
theorem kindB (d : Nd) : (d.kind.toUInt8).toNat = d.kind := by
  rw [toU8]
  have := kind_lt d
  omega
theorem kind_pos (d : Nd) : 0 < d.kind := by
  cases d with
  | num i => rw [Nd.kind]; decide
  | raw c => rw [Nd.kind]; decide
  | txt b u c => rw [Nd.kind]; cases b <;> decide
  | box b ps => rw [Nd.kind]; cases b <;> decide
theorem getter_ok (d : Nd) : evP .idx [.gl 101, .int ((d.kind.toUInt8).toNat : Nat)] = .ok (.gl (getr d)) := by
  rw [kindB]
  cases d with
  | num i => rw [Nd.kind, getr]; rfl
  | raw c => rw [Nd.kind, getr]; rfl
  | txt b u c => rw [Nd.kind, getr]; cases b <;> rfl
  | box b ps => rw [Nd.kind, getr]; cases b <;> rfl
theorem eE13 {n g : Nat} {ρ : Env'} {γ : List FV} {f : CE} {as : List CE} (h : evE (T n) ρ γ f = .ok (.gl g)) : evE (T n) ρ γ (.call f as) = (evEs (T n) ρ γ as).bind fun vs => cv n g vs := by
  rw [eE10, h]; rfl
theorem eE14 {n : Nat} {ρ : Env'} {γ : List FV} {f : CE} {as : List CE} {e : EK} (h : evE (T n) ρ γ f = .exc e) : evE (T n) ρ γ (.call f as) = .exc e := by
  rw [eE10, h]; rfl
theorem tH2 {h : Hd} {m : Option Str} {ρ : Env'} : tryH [(.blt "KeyError", h)] (.exc ⟨.own 104, m⟩ ρ) = .exc ⟨.own 104, m⟩ ρ := rfl
theorem tH3 {i j : Nat} {ρ : Env'} {x : Int} {y : Str} (h1 : getV ρ i = .ok (.int x)) (h2 : getV ρ j = .ok (.str y)) (hx : x = 102) (hy : y.length ≤ 1000) : tryH [(.blt "KeyError", .unk i j)] (.exc ⟨.blt "KeyError", Option.none⟩ ρ) = .exc ⟨.own 104, Option.none⟩ ρ := by
  show (match getV ρ i, getV ρ j with
          | .ok (.int x), .ok (.str y) => if decide (x = 102) && decide (y.length ≤ 1000) then SR.exc ⟨.own 104, Option.none⟩ ρ else .no
          | _, _ => .no) = _
  rw [h1, h2]
  dsimp only
  rw [if_pos (by simp [hx, hy])]
abbrev env31 (data : List UInt8) (P E : Int) (x5 x6 x7 : Option LV) : Env' := [some (.fv (.bytes data)), some (.fv (.bytes data)), some (.fv (.int P)), some (.fv (.int E)), some (.fv (.gl 102)), x5, x6, x7]
/-- one element: its kind, its name, what the getter says -/
theorem elem31 {n : Nat} {data k : List UInt8} {p : Nat} {P E : Int} {ty : UInt8} (h : At data p (ty :: (k ++ [0]))) (hd : data.length ≤ 1000000) (hk : nmOk k) (hP : P = ((p : Nat) : Int)) :
    (∀ g, evP .idx [.gl 101, .int (ty.toNat : Nat)] = .ok (.gl g) → (∀ v q, cv (n + 2) g [.bytes data, .bytes data, .int (P + 1 + k.length + 1), .int E, .gl 102, .str (nmS k)] = .ok (.tup [v, q]) → cv (n + 3) 31 [.bytes data, .bytes data, .int P, .int E, .gl 102] = .ok (.tup [.str (nmS k), v, q])) ∧
      (isBad (cv (n + 2) g [.bytes data, .bytes data, .int (P + 1 + k.length + 1), .int E, .gl 102, .str (nmS k)]) → isBad (cv (n + 3) 31 [.bytes data, .bytes data, .int P, .int E, .gl 102]))) ∧
    (ty = 102 → isBad (cv (n + 3) 31 [.bytes data, .bytes data, .int P, .int E, .gl 102])) := by
  have h1 := @cname_ok n data k (p + 1) (P + 1) h.tail hd hk (by omega)
  have h2 := @bIdx data p P ty h.get hP
  have e0 : cv (n + 3) 31 [.bytes data, .bytes data, .int P, .int E, .gl 102] = resV (exSs (T (n + 2)) (env31 data P E Option.none Option.none Option.none) f31.body) := cv_eq (ρ := env31 data P E Option.none Option.none Option.none) rfl rfl
  have hpos : ((p + 1 : Nat) : Int) + k.length + 1 = P + 1 + k.length + 1 := by omega
  rw [hpos] at h1
  have hpre : exSs (T (n + 2)) (env31 data P E Option.none Option.none Option.none) (f31.body.take 3) = .ok .next (env31 data (P + 1 + k.length + 1) E (some (.fv (.int (ty.toNat : Nat)))) (some (.fv (.str (nmS k)))) Option.none) := by
    simp [f31, getV, setV, setAll, spread, h1, h2, -pP32]
  have e1 : cv (n + 3) 31 [.bytes data, .bytes data, .int P, .int E, .gl 102] = resV (exSs (T (n + 2)) (env31 data (P + 1 + k.length + 1) E (some (.fv (.int (ty.toNat : Nat)))) (some (.fv (.str (nmS k)))) Option.none)
      [.try [.un [7, 2] (.call (.p .idx [G' 101, .v 5]) [.v 0, .v 1, .v 2, .v 3, .v 4, .v 6])] [(.blt "KeyError", .unk 5 6)], .ret (.p .mkTup [.v 6, .v 7, .v 2])]) := by
    rw [e0, ← List.take_append_drop 3 f31.body, app_ok hpre]; rfl
  refine ⟨fun g hg => ⟨fun v q hr => ?_, ?_⟩, ?_⟩
  · have hc : evE (T (n + 2)) (env31 data (P + 1 + k.length + 1) E (some (.fv (.int (ty.toNat : Nat)))) (some (.fv (.str (nmS k)))) Option.none) [] (.call (.p .idx [G' 101, .v 5]) [.v 0, .v 1, .v 2, .v 3, .v 4, .v 6]) = .ok (.tup [v, q]) := by
      rw [eE13 (g := g) (by simp [getV, hg, -pP33])]
      simp [getV, hr]
    rw [e1]
    simp [-eE12, hc, spread, setAll, setV, getV]
  · rintro ⟨m, hr⟩
    have hc : evE (T (n + 2)) (env31 data (P + 1 + k.length + 1) E (some (.fv (.int (ty.toNat : Nat)))) (some (.fv (.str (nmS k)))) Option.none) [] (.call (.p .idx [G' 101, .v 5]) [.v 0, .v 1, .v 2, .v 3, .v 4, .v 6]) = .exc ⟨.own 104, m⟩ := by
      rw [eE13 (g := g) (by simp [getV, hg, -pP33])]
      simp [getV, hr]
    refine ⟨m, ?_⟩
    rw [e1]
    simp [-eE12, hc, tH2]
  · rintro rfl
    have hc : evE (T (n + 2)) (env31 data (P + 1 + k.length + 1) E (some (.fv (.int ((102 : UInt8).toNat : Nat)))) (some (.fv (.str (nmS k)))) Option.none) [] (.call (.p .idx [G' 101, .v 5]) [.v 0, .v 1, .v 2, .v 3, .v 4, .v 6]) = .exc ⟨.blt "KeyError", Option.none⟩ := eE14 (by
      simp only [eE5, eL2, eL1, eE1, eE2, getV, List.getElem?_cons_succ, List.getElem?_cons_zero, Res.bind_ok]
      rfl)
    refine ⟨Option.none, ?_⟩
    rw [e1, bB2, sS20, bB2, sS6, hc, tE2]
    dsimp only
    rw [tH3 (x := 102) (y := nmS k) rfl rfl (by decide) (by have := hk.1; show (k.map (·.toNat)).toArray.size ≤ 1000; simp; omega)]
    rfl
-- _get_object_size
theorem size27 {n : Nat} {data q : List UInt8} {p : Nat} {P E t : Int} (h : At data p (le4 t ++ q)) (hd : data.length ≤ 1000000) (hP : P = ((p : Nat) : Int)) (ht : 0 < t) (ht2 : t < 1000000) :
    (P + t - 1 ≥ E → isBad (cv (n + 3) 27 [.bytes data, .int P, .int E])) ∧
    (∀ y : UInt8, P + t - 1 < E → data[p + t.toNat - 1]? = some y → (y.toNat ≠ 0 → isBad (cv (n + 3) 27 [.bytes data, .int P, .int E])) ∧
      (y.toNat = 0 → (P = 0 → t ≠ E → isBad (cv (n + 3) 27 [.bytes data, .int P, .int E])) ∧ ((P = 0 → t = E) → cv (n + 3) 27 [.bytes data, .int P, .int E] = .ok (.tup [.int t, .int (P + t - 1)])))) := by
  have h1 := @int_ok n data p P t h.left hd hP (by omega) (by omega)
  have hi0 : evP .idx [.tup [.int t], .int 0] = .ok (.int t) := nr rfl
  rw [cv_eq (ρ := [some (.fv (.bytes data)), some (.fv (.int P)), some (.fv (.int E)), Option.none, Option.none, Option.none]) rfl rfl]
  constructor
  · intro hc
    refine ⟨some (Str.ofString "invalid object length"), ?_⟩
    have c1 : E ≤ P + t - 1 := hc
    simp [f27, getV, setV, h1, hi0, -pP30, c1]
  · intro y hc hy
    have c1 : ¬ E ≤ P + t - 1 := by omega
    have hi := @bIdx data (p + t.toNat - 1) (P + t - 1) y hy (by omega)
    constructor
    · intro hy0
      refine ⟨some (Str.ofString "bad eoo"), ?_⟩
      simp [f27, getV, setV, h1, hi0, -pP30, c1, hi, -pP32, hy0]
    · intro hy0
      simp only [hy0] at hi
      constructor
      · intro p0 hE
        refine ⟨some (Str.ofString "invalid object length"), ?_⟩
        subst p0
        rw [Int.zero_add] at hi c1
        simp [f27, getV, setV, h1, hi0, -pP30, c1, hi, -pP32, hE]
      · intro hE
        by_cases p0 : P = 0
        · subst p0
          have := hE rfl
          subst this
          rw [Int.zero_add] at hi c1
          simp [f27, getV, setV, h1, hi0, -pP30, c1, hi, -pP32]
        · simp [f27, getV, setV, h1, hi0, -pP30, c1, hi, -pP32, p0]
theorem size27_no {n : Nat} {data : List UInt8} {E : Int} (h : data.length < 4) : isBad (cv (n + 3) 27 [.bytes data, .int 0, .int E]) := by
  have h1 := @int_no n data 0 (by omega)
  rw [cv_eq (ρ := [some (.fv (.bytes data)), some (.fv (.int 0)), some (.fv (.int E)), Option.none, Option.none, Option.none]) rfl rfl]
  refine ⟨some (Str.ofString "unpack_from requires a longer buffer"), ?_⟩
  have ht : ∀ ρ, unb ρ 5 = true → tryH [(.blt "ValueError", .raiseStr 5 (.own 104))] (.exc ⟨.blt "ValueError", some (Str.ofString "unpack_from requires a longer buffer")⟩ ρ) = .exc ⟨.own 104, some (Str.ofString "unpack_from requires a longer buffer")⟩ ρ := fun ρ hu => by
    show (if strOk (.blt "ValueError") (.own 104) && unb ρ 5 then SR.exc ⟨.own 104, some (Str.ofString "unpack_from requires a longer buffer")⟩ ρ else .no) = _
    rw [hu]; rfl
  have hu : unb [some (.fv (.bytes data)), some (.fv (.int 0)), some (.fv (.int E)), Option.none, Option.none, Option.none] 5 = true := rfl
  show resV (exSs _ _ (.try [.set 3 (.p .idx [.call (G' 28) [.v 0, .v 1], I' 0])] [(.blt "ValueError", .raiseStr 5 (.own 104))] :: _)) = _
  rw [bB2, sS20]
  simp [getV, setV, h1, ht _ hu]
end Mine
end

section
open PySem
namespace Mine
def PAt (n : Nat) (d : Nd) : Prop := ∀ (data : List UInt8) (p : Nat) (P E : Int) (nm : Str), At data p d.enc → data.length ≤ 1000000 → P = ((p : Nat) : Int) → 0 < p →
  par n d data P E nm = .ok (.tup [d.dec, .int (P + d.size)]) ∨ (E < P + d.size ∧ isBad (par n d data P E nm))
abbrev env30 (data : List UInt8) (P E : Int) (acc : List (Str × FV)) (x7 x8 : Option LV) : Env' := [some (.fv (.bytes data)), some (.fv (.bytes data)), some (.fv (.int P)), some (.fv (.int E)), some (.fv (.gl 102)), some (.md acc), some (.fv (.int (E - 1))), x7, x8]
abbrev body30 : List CS := [.un [7, 8, 2] (.call (G' 31) [.v 0, .v 1, .v 2, .v 3, .v 4]), .put 5 (.v 7) (.v 8)]
abbrev whl30 (n : Nat) (m : Nat) (ρ : Env') : SR := whlGo (fun ρ => evE (T n) ρ [] (.p .lt [.v 2, .v 6])) (fun ρ => exSs (T n) ρ body30) m ρ
def badS (r : SR) : Prop := ∃ m ρ, r = .exc ⟨.own 104, m⟩ ρ
theorem step30 {n m : Nat} {data : List UInt8} {P E : Int} {acc : List (Str × FV)} {x7 x8 : Option LV} (hc : P < E - 1) (ha : acc.length < 1000) :
    (∀ x v Q, cv n 31 [.bytes data, .bytes data, .int P, .int E, .gl 102] = .ok (.tup [.str x, v, .int Q]) → whl30 n (m + 1) (env30 data P E acc x7 x8) = whl30 n m (env30 data Q E (dctPut acc x v) (some (.fv (.str x))) (some (.fv v)))) ∧
    (isBad (cv n 31 [.bytes data, .bytes data, .int P, .int E, .gl 102]) → badS (whl30 n (m + 1) (env30 data P E acc x7 x8))) := by
  have hd : decide (P < E - 1) = true := decide_eq_true hc
  have hcond : evE (T n) (env30 data P E acc x7 x8) [] (.p .lt [.v 2, .v 6]) = .ok (.bool true) := by
    simp only [eE5, eL2, eL1, eE2, getV, List.getElem?_cons_succ, List.getElem?_cons_zero, Res.bind_ok, pP10, hd]
  constructor
  · intro x v Q h
    show whlGo _ _ (m + 1) _ = _
    rw [whlGo]
    rw [hcond]
    dsimp only
    rw [tr1]
    have hb : exSs (T n) (env30 data P E acc x7 x8) body30 = .ok .next (env30 data Q E (dctPut acc x v) (some (.fv (.str x))) (some (.fv v))) := by
      simp [getV, setV, setAll, spread, h, getD', ha]
    rw [hb]
  · rintro ⟨k, h⟩
    refine ⟨k, env30 data P E acc x7 x8, ?_⟩
    show whlGo _ _ (m + 1) _ = _
    rw [whlGo, hcond]
    dsimp only
    rw [tr1]
    have hb : exSs (T n) (env30 data P E acc x7 x8) body30 = .exc ⟨.own 104, k⟩ (env30 data P E acc x7 x8) := by
      simp [getV, setV, setAll, spread, h]
    rw [hb]
theorem end30 {n m : Nat} {data : List UInt8} {P E : Int} {acc : List (Str × FV)} {x7 x8 : Option LV} (hc : ¬ P < E - 1) : whl30 n (m + 1) (env30 data P E acc x7 x8) = .ok .next (env30 data P E acc x7 x8) := by
  have hd : decide (P < E - 1) = false := decide_eq_false hc
  show whlGo _ _ (m + 1) _ = _
  rw [whlGo]
  have hcond : evE (T n) (env30 data P E acc x7 x8) [] (.p .lt [.v 2, .v 6]) = .ok (.bool false) := by
    simp only [eE5, eL2, eL1, eE2, getV, List.getElem?_cons_succ, List.getElem?_cons_zero, Res.bind_ok, pP10, hd]
  rw [hcond]
  rfl
/-- an element that is right: read, or refused since the end is too near -/
theorem elem_right {n : Nat} {data k r : List UInt8} {d : Nd} {p : Nat} {P E : Int} (h : At data p (d.kind.toUInt8 :: (k ++ (0 :: (d.enc ++ r))))) (hd : data.length ≤ 1000000) (hk : nmOk k) (hP : P = ((p : Nat) : Int)) (hg : PAt (n + 2) d) :
    cv (n + 3) 31 [.bytes data, .bytes data, .int P, .int E, .gl 102] = .ok (.tup [.str (nmS k), d.dec, .int (P + (2 + k.length + d.size : Nat))]) ∨ (E < P + (2 + k.length + d.size : Nat) ∧ isBad (cv (n + 3) 31 [.bytes data, .bytes data, .int P, .int E, .gl 102])) := by
  have h1 : At data p (d.kind.toUInt8 :: (k ++ [0])) := by
    have := h
    rw [show d.kind.toUInt8 :: (k ++ (0 :: (d.enc ++ r))) = (d.kind.toUInt8 :: (k ++ [0])) ++ (d.enc ++ r) by simp] at this
    exact this.left
  have h2 : At data (p + (2 + k.length)) d.enc := by
    have := h
    rw [show d.kind.toUInt8 :: (k ++ (0 :: (d.enc ++ r))) = (d.kind.toUInt8 :: (k ++ [0])) ++ (d.enc ++ r) by simp] at this
    have := this.right.left
    rw [show (d.kind.toUInt8 :: (k ++ [0])).length = 2 + k.length by simp; omega] at this
    exact this
  obtain ⟨e1, _⟩ := @elem31 n data k p P E d.kind.toUInt8 h1 hd hk hP
  obtain ⟨e2, e3⟩ := e1 (getr d) (getter_ok d)
  have e4 : P + 1 + (k.length : Int) + 1 + d.size = P + (2 + k.length + d.size : Nat) := by push_cast; omega
  rcases hg data (p + (2 + k.length)) (P + 1 + k.length + 1) E (nmS k) h2 hd (by push_cast; omega) (by omega) with q | ⟨q1, q2⟩
  · left
    rw [e4] at q
    exact e2 _ _ q
  · right
    rw [e4] at q1
    exact ⟨q1, e3 q2⟩
theorem size_ge {d : Nd} : 4 ≤ d.size := by
  cases d with
  | num i => rw [Nd.size]; exact Nat.le_refl _
  | raw c => rw [Nd.size]; omega
  | txt b u c => rw [Nd.size]; omega
  | box b ps => rw [Nd.size]; omega
theorem loop30 {n : Nat} {data : List UInt8} {E : Int} (hd : data.length ≤ 1000000) : ∀ (ps : Nds) (p m : Nat) (P : Int) (acc : List (Str × FV)) (x7 x8 : Option LV) (tl : List UInt8), At data p (ps.enc ++ tl) → P = ((p : Nat) : Int) → ps.Ok → (∀ q ∈ ps.toL, PAt (n + 2) q.2) →
    ((acc.map (·.1)) ++ ps.toL.map fun p => nmS p.1).Nodup → acc.length + ps.toL.length ≤ 1000 → P + ps.size ≤ E + 1 →
    (∃ y7 y8, whl30 (n + 3) (m + ps.toL.length) (env30 data P E acc x7 x8) = whl30 (n + 3) m (env30 data (P + ps.size) E (acc ++ ps.ddec) y7 y8)) ∨ (E < P + ps.size ∧ badS (whl30 (n + 3) (m + ps.toL.length) (env30 data P E acc x7 x8)))
  | .nil, p, m, P, acc, x7, x8, tl, h, hP, ok, hg, hn, hl, hE => by
    left
    rw [Nds.toL, Nds.size, Nds.ddec]
    exact ⟨x7, x8, by simp⟩
  | .cons k d r, p, m, P, acc, x7, x8, tl, h, hP, ok, hg, hn, hl, hE => by
    rw [Nds.Ok] at ok
    rw [Nds.enc] at h
    rw [Nds.size] at hE ⊢
    rw [Nds.toL] at hg hn hl ⊢
    rw [Nds.ddec]
    have h' : At data p (d.kind.toUInt8 :: (k ++ (0 :: (d.enc ++ (r.enc ++ tl))))) := by simpa using h
    have hs := @size_ge d
    have hr : At data (p + (2 + k.length + d.size)) (r.enc ++ tl) := by
      have := h'
      rw [show d.kind.toUInt8 :: (k ++ (0 :: (d.enc ++ (r.enc ++ tl)))) = (d.kind.toUInt8 :: (k ++ (0 :: d.enc))) ++ (r.enc ++ tl) by simp] at this
      have := this.right
      rw [show (d.kind.toUInt8 :: (k ++ (0 :: d.enc))).length = 2 + k.length + d.size by simp [enc_len ok.2.1]; omega] at this
      exact this
    rw [List.length_cons] at hl ⊢
    rw [show m + (r.toL.length + 1) = (m + r.toL.length) + 1 by omega]
    obtain ⟨s1, s2⟩ := @step30 (n + 3) (m + r.toL.length) data P E acc x7 x8 (by push_cast at hE; omega) (by omega)
    have hnk : nmS k ∉ acc.map (·.1) := fun q => by
      have := (List.nodup_append.mp hn).2.2 _ q (nmS k) (by simp)
      exact this rfl
    rcases @elem_right n data k (r.enc ++ tl) d p P E h' hd ok.1 hP (hg (k, d) (by simp)) with q | ⟨q1, q2⟩
    · rw [s1 _ _ _ q, dctPut_new hnk]
      have ih := @loop30 n data E hd r (p + (2 + k.length + d.size)) m (P + (2 + k.length + d.size : Nat)) (acc ++ [(nmS k, d.dec)]) (some (.fv (.str (nmS k)))) (some (.fv d.dec)) tl hr (by push_cast; omega) ok.2.2 (fun q hq => hg q (List.mem_cons_of_mem _ hq))
        (by rw [List.map_append, List.append_assoc]; exact hn) (by simp only [List.length_append, List.length_cons, List.length_nil]; omega) (by push_cast at hE ⊢; omega)
      have e1 : P + (2 + k.length + d.size : Nat) + (r.size : Int) = P + ((2 + k.length + d.size + r.size : Nat) : Int) := by push_cast; omega
      rw [e1] at ih
      rw [List.append_assoc] at ih
      exact ih
    · right
      exact ⟨by push_cast at q1 ⊢; omega, s2 q2⟩
end Mine
end

section
open PySem
namespace Mine
abbrev tail30 : List CS := [.ite (.p .ne [.v 2, .v 3]) [.rs (.own 104) (.k (S' "bad object or element length"))] [], .frz 5, .ret (.v 5)]
theorem run30 {n : Nat} {data : List UInt8} {P E : Int} : cv (n + 1) 30 [.bytes data, .bytes data, .int P, .int E, .gl 102] = resV (match whl30 n 400 (env30 data P E [] Option.none Option.none) with
    | .ok .next ρ' => exSs (T n) ρ' tail30
    | o => o) := by
  have hpre : exSs (T n) [some (.fv (.bytes data)), some (.fv (.bytes data)), some (.fv (.int P)), some (.fv (.int E)), some (.fv (.gl 102)), Option.none, Option.none, Option.none, Option.none] (f30.body.take 2) = .ok .next (env30 data P E [] Option.none Option.none) := by
    simp [f30, getV, setV]
  rw [cv_eq (ρ := [some (.fv (.bytes data)), some (.fv (.bytes data)), some (.fv (.int P)), some (.fv (.int E)), some (.fv (.gl 102)), Option.none, Option.none, Option.none, Option.none]) rfl rfl, ← List.take_append_drop 2 f30.body, app_ok hpre]
  show resV (exSs (T n) _ (.whl (.p .lt [.v 2, .v 6]) body30 :: tail30)) = _
  rw [bB2, sS11]
  rfl
theorem fin30 {n : Nat} {data : List UInt8} {P E Q : Int} {acc : List (Str × FV)} {y7 y8 : Option LV} (h : whl30 n 400 (env30 data P E [] Option.none Option.none) = .ok .next (env30 data Q E acc y7 y8)) :
    (Q = E → cv (n + 1) 30 [.bytes data, .bytes data, .int P, .int E, .gl 102] = .ok (.dct acc)) ∧ (Q ≠ E → isBad (cv (n + 1) 30 [.bytes data, .bytes data, .int P, .int E, .gl 102])) := by
  rw [run30, h]
  dsimp only
  constructor
  · intro hq
    have hd : decide (Q = E) = true := decide_eq_true hq
    rw [bB2, sS10]
    simp only [eE5, eL2, eL1, eE2, getV, List.getElem?_cons_succ, List.getElem?_cons_zero, Res.bind_ok, pP15, hd, tE1, Bool.not_true, tr1, bB1]
    rw [bB2, sS17 (l := acc) rfl]
    simp [setV, getV]
  · intro hq
    have hd : decide (Q = E) = false := decide_eq_false hq
    refine ⟨some (Str.ofString "bad object or element length"), ?_⟩
    rw [bB2, sS10]
    simp only [eE5, eL2, eL1, eE2, getV, List.getElem?_cons_succ, List.getElem?_cons_zero, Res.bind_ok, pP15, hd, tE1, Bool.not_false, tr1]
    simp
theorem fin30_bad {n : Nat} {data : List UInt8} {P E : Int} (h : badS (whl30 n 400 (env30 data P E [] Option.none Option.none))) : isBad (cv (n + 1) 30 [.bytes data, .bytes data, .int P, .int E, .gl 102]) := by
  obtain ⟨m, ρ, h⟩ := h
  rw [run30, h]
  exact ⟨m, rfl⟩
theorem at_end {data q : List UInt8} {p : Nat} {T S : Nat} (h : At data p (q ++ [0])) (hq : q.length = S) (hT : T = S + 1) : data[p + T - 1]? = some 0 := by
  subst hq hT
  have := At.get h.right
  rw [show p + (q.length + 1) - 1 = p + q.length by omega]
  exact this
theorem ref_none {ps : Nds} (h : ps.DShp) : dctGet ps.ddec (Str.ofString "$ref") = Option.none := by
  unfold dctGet
  rw [List.find?_eq_none.mpr]
  · rfl
  · intro p hp
    rw [ddec_toL, List.mem_map] at hp
    obtain ⟨q, hq, rfl⟩ := hp
    obtain ⟨r, hr⟩ := (mem_dshp h q hq).1
    have e : Str.ofString "$ref" = ⟨#[36, 114, 101, 102]⟩ := by decide +kernel
    rw [e, hr]
    simp [nmS]
/-- a document's elements, right: a dict -/
theorem dict30 {n : Nat} {data tl : List UInt8} {p : Nat} {P E : Int} {ps : Nds} (h : At data p (ps.enc ++ tl)) (hd : data.length ≤ 1000000) (hP : P = ((p : Nat) : Int)) (ok : (Nd.box true ps).Ok) (hg : ∀ q ∈ ps.toL, PAt (n + 2) q.2) (hE : E = P + ps.size) :
    cv (n + 4) 30 [.bytes data, .bytes data, .int P, .int E, .gl 102] = .ok (.dct ps.ddec) := by
  rw [Nd.Ok] at ok
  have hl := @loop30 n data E hd ps p (400 - ps.toL.length) P [] Option.none Option.none tl h hP ok.1 hg (by simpa using ok.2.2 rfl) (by simp; omega) (by omega)
  rw [show 400 - ps.toL.length + ps.toL.length = 400 by omega] at hl
  rcases hl with ⟨y7, y8, hl⟩ | ⟨q, _⟩
  · obtain ⟨m, hm⟩ : ∃ m, 400 - ps.toL.length = m + 1 := ⟨399 - ps.toL.length, by omega⟩
    rw [hm] at hl
    exact (fin30 (hl.trans (end30 (by omega)))).1 (by omega)
  · omega
theorem get_doc {n : Nat} {ps : Nds} (ok : (Nd.box true ps).Ok) (hs : (Nd.box true ps).Shp) (hz : ps.size ≤ 900000) (hg : ∀ q ∈ ps.toL, PAt (n + 2) q.2) : PAt (n + 5) (.box true ps) := fun data p P E nm h hd hP hp => by
  have ok' := ok
  rw [Nd.Ok] at ok'
  rw [Nd.Shp] at hs
  rw [Nd.enc] at h
  have hlen := h.le
  simp only [List.length_append, le4_len, encS_len ok'.1, List.length_singleton] at hlen
  have hsz := encS_len ok'.1
  have hS : (Nd.box true ps).size = 5 + ps.size := by rw [Nd.size]
  rw [hS, Nd.dec]
  simp only [if_true]
  obtain ⟨S, hSz⟩ : ∃ S : Int, S = ((5 + ps.size : Nat) : Int) := ⟨_, rfl⟩
  rw [← hSz] at h ⊢
  obtain ⟨s1, s2⟩ := @size27 (n + 1) data (ps.enc ++ [0]) p P E S h hd hP (by omega) (by omega)
  have e0 : par (n + 5) (.box true ps) data P E nm = resV (exSs (T (n + 4)) [some (.fv (.bytes data)), some (.fv (.bytes data)), some (.fv (.int P)), some (.fv (.int E)), some (.fv (.gl 102)), some (.fv (.str nm)), Option.none, Option.none, Option.none] f36.body) := by
    unfold par
    rw [getr]
    exact cv_eq (ρ := [some (.fv (.bytes data)), some (.fv (.bytes data)), some (.fv (.int P)), some (.fv (.int E)), some (.fv (.gl 102)), some (.fv (.str nm)), Option.none, Option.none, Option.none]) rfl rfl
  rw [e0]
  by_cases c : P + S - 1 ≥ E
  · right
    refine ⟨by omega, ?_⟩
    obtain ⟨m, hm⟩ := s1 c
    exact ⟨m, by simp [f36, getV, setV, setAll, spread, hm]⟩
  · left
    have hy : data[p + S.toNat - 1]? = some 0 := by
      have h' : At data p ((le4 S ++ ps.enc) ++ [0]) := by
        simpa using h
      exact at_end h' (S := 4 + ps.size) (by simp [le4_len, hsz]) (by omega)
    have s3 := ((s2 0 (by omega) hy).2 rfl).2 (by intro q; omega)
    have h4 : At data (p + 4) (ps.enc ++ [0]) := h.right
    have s4 := @dict30 n data [0] (p + 4) (P + 4) (P + S - 1) ps h4 hd (by omega) ok hg (by omega)
    have hrf := ref_none (hs.1 rfl)
    have hisi : isiAny .none [.typ "str", .gl 100] = some false := rfl
    simp [f36, getV, setV, setAll, spread, s3, s4, hrf, hisi]
end Mine
end

section
open PySem
namespace Mine
abbrev env37 (data : List UInt8) (P E : Int) (nm : Str) (S F : Int) (acc : List FV) (x10 x11 : Option LV) : Env' := [some (.fv (.bytes data)), some (.fv (.bytes data)), some (.fv (.int P)), some (.fv (.int E)), some (.fv (.gl 102)), some (.fv (.str nm)),
  some (.fv (.int S)), some (.fv (.int F)), some (.ml acc), some (.fv (.gl 101)), x10, x11]
abbrev tryB37 : List CS := [.un [11, 2] (.call (.p .idx [.v 9, .v 10]) [.v 0, .v 1, .v 2, .v 3, .v 4, .v 5])]
abbrev body37 : List CS := [.set 10 (.p .idx [.v 0, .v 2]), .set 2 (.p .add [.call (G' 33) [.v 0, .v 2], I' 1]), .try tryB37 [(.blt "KeyError", .unk 10 5)], .app 8 (.v 11)]
abbrev whl37 (n : Nat) (m : Nat) (ρ : Env') : SR := whlGo (fun ρ => evE (T n) ρ [] (.p .lt [.v 2, .v 7])) (fun ρ => exSs (T n) ρ body37) m ρ
theorem step37 {n m g : Nat} {data k : List UInt8} {p : Nat} {P E S F : Int} {nm : Str} {acc : List FV} {x10 x11 : Option LV} {ty : UInt8} (h : At data p (ty :: (k ++ [0]))) (hty : ty.toNat ≠ 0) (hd : data.length ≤ 1000000) (hk : nmOk k) (hP : P = ((p : Nat) : Int)) (hc : P < F) (ha : acc.length < 1000000)
    (hg : evP .idx [.gl 101, .int (ty.toNat : Nat)] = .ok (.gl g)) :
    (∀ v Q, cv (n + 1) g [.bytes data, .bytes data, .int (P + 1 + k.length + 1), .int E, .gl 102, .str nm] = .ok (.tup [v, .int Q]) → ∃ y10 y11, whl37 (n + 1) (m + 1) (env37 data P E nm S F acc x10 x11) = whl37 (n + 1) m (env37 data Q E nm S F (acc ++ [v]) y10 y11)) ∧
    (isBad (cv (n + 1) g [.bytes data, .bytes data, .int (P + 1 + k.length + 1), .int E, .gl 102, .str nm]) → badS (whl37 (n + 1) (m + 1) (env37 data P E nm S F acc x10 x11))) := by
  have hd' : decide (P < F) = true := decide_eq_true hc
  have hcond : evE (T (n + 1)) (env37 data P E nm S F acc x10 x11) [] (.p .lt [.v 2, .v 7]) = .ok (.bool true) := by
    simp only [eE5, eL2, eL1, eE2, getV, List.getElem?_cons_succ, List.getElem?_cons_zero, Res.bind_ok, pP10, hd']
  have h1 := @nul_ok n data (ty :: k) p P (by simpa using h) hd (fun x hx => by
    rcases List.mem_cons.mp hx with rfl | hx
    · exact hty
    · have := (hk.2 x hx).1; omega) hP
  have h2 := @bIdx data p P ty h.get hP
  have e1 : ((p + (ty :: k).length : Nat) : Int) = P + 1 + k.length := by rw [List.length_cons]; push_cast; omega
  rw [e1] at h1
  have hpre : exSs (T (n + 1)) (env37 data P E nm S F acc x10 x11) (body37.take 2) = .ok .next (env37 data (P + 1 + k.length + 1) E nm S F acc (some (.fv (.int (ty.toNat : Nat)))) x11) := by
    simp [getV, setV, setAll, spread, h1, h2, -pP32]
  have hbody : exSs (T (n + 1)) (env37 data P E nm S F acc x10 x11) body37 = exSs (T (n + 1)) (env37 data (P + 1 + k.length + 1) E nm S F acc (some (.fv (.int (ty.toNat : Nat)))) x11) [.try tryB37 [(.blt "KeyError", .unk 10 5)], .app 8 (.v 11)] := by
    rw [← List.take_append_drop 2 body37, app_ok hpre]; rfl
  have hcall : evE (T (n + 1)) (env37 data (P + 1 + k.length + 1) E nm S F acc (some (.fv (.int (ty.toNat : Nat)))) x11) [] (.call (.p .idx [.v 9, .v 10]) [.v 0, .v 1, .v 2, .v 3, .v 4, .v 5]) = cv (n + 1) g [.bytes data, .bytes data, .int (P + 1 + k.length + 1), .int E, .gl 102, .str nm] := by
    rw [eE13 (g := g) (by simp [getV, hg, -pP33])]
    simp [getV]
  constructor
  · intro v Q hr
    refine ⟨some (.fv (.int (ty.toNat : Nat))), some (.fv v), ?_⟩
    show whlGo _ _ (m + 1) _ = _
    rw [whlGo, hcond]
    dsimp only
    rw [tr1]
    have hb : exSs (T (n + 1)) (env37 data P E nm S F acc x10 x11) body37 = .ok .next (env37 data Q E nm S F (acc ++ [v]) (some (.fv (.int (ty.toNat : Nat)))) (some (.fv v))) := by
      rw [hbody, bB2, sS20, bB2, sS6, hcall, hr]
      simp [setAll, setV, spread, getV, getL, ha]
    rw [hb]
  · rintro ⟨e, hr⟩
    refine ⟨e, env37 data (P + 1 + k.length + 1) E nm S F acc (some (.fv (.int (ty.toNat : Nat)))) x11, ?_⟩
    show whlGo _ _ (m + 1) _ = _
    rw [whlGo, hcond]
    dsimp only
    rw [tr1]
    have hb : exSs (T (n + 1)) (env37 data P E nm S F acc x10 x11) body37 = .exc ⟨.own 104, e⟩ (env37 data (P + 1 + k.length + 1) E nm S F acc (some (.fv (.int (ty.toNat : Nat)))) x11) := by
      rw [hbody, bB2, sS20, bB2, sS6, hcall, hr, tE2]
      dsimp only
      rw [tH2]
    rw [hb]
theorem end37 {n m : Nat} {data : List UInt8} {P E S F : Int} {nm : Str} {acc : List FV} {x10 x11 : Option LV} (hc : ¬ P < F) : whl37 n (m + 1) (env37 data P E nm S F acc x10 x11) = .ok .next (env37 data P E nm S F acc x10 x11) := by
  have hd : decide (P < F) = false := decide_eq_false hc
  show whlGo _ _ (m + 1) _ = _
  rw [whlGo]
  have hcond : evE (T n) (env37 data P E nm S F acc x10 x11) [] (.p .lt [.v 2, .v 7]) = .ok (.bool false) := by
    simp only [eE5, eL2, eL1, eE2, getV, List.getElem?_cons_succ, List.getElem?_cons_zero, Res.bind_ok, pP10, hd]
  rw [hcond]
  rfl
theorem at_elem {data k r e : List UInt8} {ty : UInt8} {p : Nat} (h : At data p (ty :: (k ++ (0 :: (e ++ r))))) : At data p (ty :: (k ++ [0])) ∧ At data (p + (2 + k.length)) e ∧ At data (p + (2 + k.length + e.length)) r := by
  rw [show ty :: (k ++ (0 :: (e ++ r))) = (ty :: (k ++ [0])) ++ (e ++ r) by simp] at h
  have h2 := h.right
  rw [show (ty :: (k ++ [0])).length = 2 + k.length by simp; omega] at h2
  have h3 := h2.right
  rw [show p + (2 + k.length) + e.length = p + (2 + k.length + e.length) by omega] at h3
  exact ⟨h.left, h2.left, h3⟩
theorem loop37 {n : Nat} {data : List UInt8} {E S F : Int} {nm : Str} (hd : data.length ≤ 1000000) : ∀ (ps : Nds) (p m : Nat) (P : Int) (acc : List FV) (x10 x11 : Option LV) (tl : List UInt8), At data p (ps.enc ++ tl) → P = ((p : Nat) : Int) → ps.Ok → (∀ q ∈ ps.toL, PAt (n + 1) q.2) →
    acc.length + ps.toL.length ≤ 1000 → P + ps.size ≤ F + 2 →
    (∃ y10 y11, whl37 (n + 1) (m + ps.toL.length) (env37 data P E nm S F acc x10 x11) = whl37 (n + 1) m (env37 data (P + ps.size) E nm S F (acc ++ ps.decs) y10 y11)) ∨ (E < P + ps.size ∧ badS (whl37 (n + 1) (m + ps.toL.length) (env37 data P E nm S F acc x10 x11)))
  | .nil, p, m, P, acc, x10, x11, tl, h, hP, ok, hg, hl, hE => by
    left
    rw [Nds.toL, Nds.size, Nds.decs]
    exact ⟨x10, x11, by simp⟩
  | .cons k d r, p, m, P, acc, x10, x11, tl, h, hP, ok, hg, hl, hE => by
    rw [Nds.Ok] at ok
    rw [Nds.enc] at h
    rw [Nds.size] at hE ⊢
    rw [Nds.toL] at hg hl ⊢
    rw [Nds.decs]
    have h' : At data p (d.kind.toUInt8 :: (k ++ (0 :: (d.enc ++ (r.enc ++ tl))))) := by simpa using h
    obtain ⟨a1, a2, a3⟩ := at_elem h'
    rw [enc_len ok.2.1] at a3
    have hs := @size_ge d
    rw [List.length_cons] at hl ⊢
    rw [show m + (r.toL.length + 1) = (m + r.toL.length) + 1 by omega]
    have hkp := kind_pos d
    obtain ⟨s1, s2⟩ := @step37 n (m + r.toL.length) (getr d) data k p P E S F nm acc x10 x11 d.kind.toUInt8 a1 (by rw [kindB]; omega) hd ok.1 hP (by push_cast at hE; omega) (by omega) (getter_ok d)
    have e4 : P + 1 + (k.length : Int) + 1 + d.size = P + (2 + k.length + d.size : Nat) := by push_cast; omega
    rcases hg (k, d) (by simp) data (p + (2 + k.length)) (P + 1 + k.length + 1) E nm a2 hd (by push_cast; omega) (by omega) with q | ⟨q1, q2⟩
    · rw [e4] at q
      obtain ⟨y10, y11, e⟩ := s1 _ _ q
      rw [e]
      have ih := @loop37 n data E S F nm hd r (p + (2 + k.length + d.size)) m (P + (2 + k.length + d.size : Nat)) (acc ++ [d.dec]) y10 y11 tl a3 (by push_cast; omega) ok.2.2 (fun q hq => hg q (List.mem_cons_of_mem _ hq))
        (by simp only [List.length_append, List.length_cons, List.length_nil]; omega) (by push_cast at hE ⊢; omega)
      have e1 : P + (2 + k.length + d.size : Nat) + (r.size : Int) = P + ((2 + k.length + d.size + r.size : Nat) : Int) := by push_cast; omega
      rw [e1, List.append_assoc] at ih
      exact ih
    · right
      exact ⟨by push_cast at q1 ⊢; omega, s2 q2⟩
abbrev tail37 : List CS := [.ite (.p .ne [.v 2, .p .add [.v 7, I' 1]]) [.rs (.own 104) (.k (S' "bad array length"))] [], .frz 8, .ret (.p .mkTup [.v 8, .p .add [.v 2, I' 1]])]
/-- an array with a length told -/
theorem run37 {n : Nat} {data q : List UInt8} {p : Nat} {P E t : Int} {nm : Str} {ps : Nds} (h : At data p (le4 t ++ q)) (hd : data.length ≤ 1000000) (hP : P = ((p : Nat) : Int)) (ht : 0 < t) (ht2 : t < 1000000) :
    ∀ y : UInt8, data[p + t.toNat - 1]? = some y → (y.toNat ≠ 0 → isBad (par (n + 3) (.box false ps) data P E nm)) ∧
      (y.toNat = 0 → par (n + 3) (.box false ps) data P E nm = resV (match whl37 (n + 2) 400 (env37 data (P + 4) E nm t (P + t - 2) [] Option.none Option.none) with
        | .ok .next ρ' => exSs (T (n + 2)) ρ' tail37
        | o => o)) := fun y hy => by
  have h1 := @int_ok n data p P t h.left hd hP (by omega) (by omega)
  have hi0 : evP .idx [.tup [.int t], .int 0] = .ok (.int t) := nr rfl
  have hi := @bIdx data (p + t.toNat - 1) (P + t - 1) y hy (by omega)
  unfold par
  rw [getr]
  simp only [Bool.false_eq_true, if_false]
  rw [cv_eq (ρ := [some (.fv (.bytes data)), some (.fv (.bytes data)), some (.fv (.int P)), some (.fv (.int E)), some (.fv (.gl 102)), some (.fv (.str nm)), Option.none, Option.none, Option.none, Option.none, Option.none, Option.none]) rfl rfl]
  constructor
  · intro hy0
    refine ⟨some (Str.ofString "bad eoo"), ?_⟩
    simp [f37, getV, setV, h1, hi0, -pP30, hi, -pP32, hy0]
  · intro hy0
    simp only [hy0] at hi
    have e1 : P + t - 1 - 1 = P + t - 2 := by omega
    have hpre : exSs (T (n + 2)) [some (.fv (.bytes data)), some (.fv (.bytes data)), some (.fv (.int P)), some (.fv (.int E)), some (.fv (.gl 102)), some (.fv (.str nm)), Option.none, Option.none, Option.none, Option.none, Option.none, Option.none] (f37.body.take 7) =
        .ok .next (env37 data (P + 4) E nm t (P + t - 2) [] Option.none Option.none) := by
      simp [f37, getV, setV, h1, hi0, -pP30, hi, -pP32, e1]
    rw [← List.take_append_drop 7 f37.body, app_ok hpre]
    show resV (exSs (T (n + 2)) _ (.whl (.p .lt [.v 2, .v 7]) body37 :: tail37)) = _
    rw [bB2, sS11]
    rfl
theorem tail37_ok {n : Nat} {data : List UInt8} {P E S F : Int} {nm : Str} {acc : List FV} {x10 x11 : Option LV} : (P = F + 1 → resV (exSs (T n) (env37 data P E nm S F acc x10 x11) tail37) = .ok (.tup [.lst acc, .int (P + 1)])) ∧ (P ≠ F + 1 → isBad (resV (exSs (T n) (env37 data P E nm S F acc x10 x11) tail37))) := by
  constructor
  · intro hq
    have hd : decide (P = F + 1) = true := decide_eq_true hq
    rw [bB2, sS10]
    simp only [eE5, eL2, eL1, eE2, eE1, getV, List.getElem?_cons_succ, List.getElem?_cons_zero, Res.bind_ok, pP15, pP1, hd, tE1, Bool.not_true, tr1, bB1]
    rw [bB2, sS16 (l := acc) rfl]
    simp [setV, getV]
  · intro hq
    have hd : decide (P = F + 1) = false := decide_eq_false hq
    refine ⟨some (Str.ofString "bad array length"), ?_⟩
    rw [bB2, sS10]
    simp only [eE5, eL2, eL1, eE2, eE1, getV, List.getElem?_cons_succ, List.getElem?_cons_zero, Res.bind_ok, pP15, pP1, hd, tE1, Bool.not_false, tr1]
    simp
theorem get_arr {n : Nat} {ps : Nds} (ok : (Nd.box false ps).Ok) (hz : ps.size ≤ 900000) (hg : ∀ q ∈ ps.toL, PAt (n + 2) q.2) : PAt (n + 3) (.box false ps) := fun data p P E nm h hd hP hp => by
  rw [Nd.Ok] at ok
  rw [Nd.enc] at h
  have hlen := h.le
  have hsz := encS_len ok.1
  simp only [List.length_append, le4_len, hsz, List.length_singleton] at hlen
  have hS : (Nd.box false ps).size = 5 + ps.size := by rw [Nd.size]
  rw [hS, Nd.dec]
  simp only [Bool.false_eq_true, if_false]
  obtain ⟨S, hSz⟩ : ∃ S : Int, S = ((5 + ps.size : Nat) : Int) := ⟨_, rfl⟩
  rw [← hSz] at h ⊢
  have hy : data[p + S.toNat - 1]? = some 0 := by
    have h' : At data p ((le4 S ++ ps.enc) ++ [0]) := by simpa using h
    exact at_end h' (S := 4 + ps.size) (by simp [le4_len, hsz]) (by omega)
  rw [(@run37 n data (ps.enc ++ [0]) p P E S nm ps h hd hP (by omega) (by omega) 0 hy).2 rfl]
  have hl := @loop37 (n + 1) data E S (P + S - 2) nm hd ps (p + 4) (400 - ps.toL.length) (P + 4) [] Option.none Option.none [0] h.right (by push_cast; omega) ok.1 hg (by simp; omega) (by omega)
  rw [show 400 - ps.toL.length + ps.toL.length = 400 by omega] at hl
  rcases hl with ⟨y10, y11, hl⟩ | ⟨q1, q2⟩
  · left
    obtain ⟨m, hm⟩ : ∃ m, 400 - ps.toL.length = m + 1 := ⟨399 - ps.toL.length, by omega⟩
    rw [hm] at hl
    rw [hl.trans (end37 (by omega))]
    dsimp only
    rw [tail37_ok.1 (by omega), List.nil_append]
    rw [show P + 4 + (ps.size : Int) + 1 = P + S by omega]
  · right
    obtain ⟨m, ρ, q2⟩ := q2
    rw [q2]
    exact ⟨by omega, m, rfl⟩
end Mine
end

section
open PySem
namespace Mine
def unitC : Nat → Nat
  | 0 => 97 | 1 => 233 | 2 => 8364 | _ => 128512
theorem decSigns_unit {u : Nat} (h : u < 4) {r : List UInt8} : decSigns (unitB u ++ r) = (decSigns r).map (unitC u :: ·) := by
  match u, h with
  | 0, _ => show decSigns (97 :: r) = _; rw [decSigns.eq_def]; simp [unitC]
  | 1, _ => show decSigns (195 :: 169 :: r) = _; rw [decSigns.eq_def]; simp [unitC]
  | 2, _ => show decSigns (226 :: 130 :: 172 :: r) = _; rw [decSigns.eq_def]; simp [unitC]
  | 3, _ => show decSigns (240 :: 159 :: 152 :: 128 :: r) = _; rw [decSigns.eq_def]; simp [unitC]
theorem decSigns_rep {u : Nat} (h : u < 4) {r : List UInt8} {l : List Nat} (hr : decSigns r = some l) : ∀ c : Nat, decSigns (repB c (unitB u) ++ r) = some (List.replicate c (unitC u) ++ l)
  | 0 => by show decSigns ([] ++ r) = _; simp [hr]
  | c + 1 => by
    have e : repB (c + 1) (unitB u) ++ r = unitB u ++ (repB c (unitB u) ++ r) := by
      unfold repB
      rw [List.replicate_succ, List.flatten_cons, List.append_assoc]
    rw [e, decSigns_unit h, decSigns_rep h hr c]
    rfl
theorem repStr_eq {u : Nat} (h : u < 4) (c : Nat) : repStr (unitS u) c = ⟨(List.replicate c (unitC u)).toArray⟩ := by
  unfold repStr
  have e : (unitS u).cps.toList = [unitC u] := by
    match u, h with
    | 0, _ => rfl
    | 1, _ => rfl
    | 2, _ => rfl
    | 3, _ => rfl
  rw [e]
  congr 2
  induction c with
  | zero => rfl
  | succ c ih => rw [List.replicate_succ, List.flatten_cons, ih, List.replicate_succ]; rfl
theorem dec_unit {u c : Nat} (hu : u < 4) (hc : c ≤ 330) : evP .dec [.bytes (repB c (unitB u))] = .ok (.str (repStr (unitS u) c)) := by
  have h := @decSigns_rep u hu [] [] (by rw [decSigns.eq_def]) c
  rw [List.append_nil, List.append_nil] at h
  rw [pP52, h]
  dsimp only
  rw [repStr_eq hu]
  unfold okStr
  rw [if_pos]
  show ((List.replicate c (unitC u)).toArray).size ≤ big
  simp; unfold big; omega
theorem dec_unit0 {u c : Nat} (hu : u < 4) (hc : c ≤ 330) : ∃ x, evP .dec [.bytes (repB c (unitB u) ++ [0])] = .ok (.str x) := by
  have h := @decSigns_rep u hu [0] [0] (by decide +kernel) c
  refine ⟨⟨(List.replicate c (unitC u) ++ [0]).toArray⟩, ?_⟩
  rw [pP52, h]
  dsimp only
  unfold okStr
  rw [if_pos]
  show ((List.replicate c (unitC u) ++ [0]).toArray).size ≤ big
  simp; unfold big; omega
theorem rd_num {n : Nat} {i : Int} (ok : (Nd.num i).Ok) : PAt (n + 3) (.num i) := fun data p P E nm h hd hP hp => by
  left
  rw [Nd.enc] at h
  rw [get_num h hd hP ok, Nd.dec, Nd.size]
  rfl
theorem rd_raw {n c : Nat} (ok : (Nd.raw c).Ok) : PAt (n + 3) (.raw c) := fun data p P E nm h hd hP hp => by
  rw [Nd.Ok] at ok
  rw [Nd.enc] at h
  have hle := h.le
  have hl : (repB c [102]).length = c := by rw [repB_len]; simp
  simp only [List.length_append, List.length_cons, le4_len, hl] at hle
  obtain ⟨g1, g2⟩ := @get_raw n c (c : Int) data (repB c [102]) p P E nm h hd hP (by omega) (by omega)
  rw [Nd.dec, Nd.size]
  by_cases q : P + 5 + c ≤ E
  · left
    rw [g2 ⟨by omega, q, by omega⟩]
    have hs := At.slice (At.tail (At.right h))
    rw [hl, le4_len] at hs
    rw [show p + 5 + (c : Int).toNat = p + 4 + 1 + c by simp, show p + 5 = p + 4 + 1 from rfl, hs]
    rw [show P + 5 + (c : Int) = P + ((5 + c : Nat) : Int) by omega]
  · right
    exact ⟨by push_cast; omega, g1 (.inr (by omega))⟩
theorem rd_txt {n u c : Nat} {b : Bool} (ok : (Nd.txt b u c).Ok) : PAt (n + 5) (.txt b u c) := fun data p P E nm h hd hP hp => by
  rw [Nd.Ok] at ok
  obtain ⟨hu, hc⟩ := ok
  rw [Nd.enc] at h
  have hle := h.le
  have hl : (repB c (unitB u)).length = (u + 1) * c := by rw [repB_len, unitB_len hu, Nat.mul_comm]
  have h34 : (u + 1) * c ≤ 4 * 330 := Nat.mul_le_mul (by omega) hc
  simp only [List.length_append, le4_len, hl, List.length_singleton] at hle
  rw [Nd.dec, Nd.size]
  obtain ⟨L, hL⟩ : ∃ L, L = (u + 1) * c := ⟨_, rfl⟩
  rw [← hL] at h hle hl h34 ⊢
  obtain ⟨g1, g2⟩ := @get_str n ((L + 1 : Nat) : Int) data (repB c (unitB u) ++ [0]) p P E nm b u c h hd hP (by omega) (by omega)
  by_cases q : ((L + 1 : Nat) : Int) ≤ E - (P + 4)
  · left
    have h4 := At.right h
    rw [le4_len] at h4
    have hz : data[p + 3 + ((L + 1 : Nat) : Int).toNat]? = some 0 := by
      have := At.get (At.right h4)
      rw [hl] at this
      rw [show p + 3 + ((L + 1 : Nat) : Int).toNat = p + 4 + L by simp; omega]
      exact this
    have hs := At.slice (At.left h4)
    rw [hl] at hs
    have e1 : p + 3 + ((L + 1 : Nat) : Int).toNat = p + 4 + L := by simp; omega
    have := (g2 0 (by omega) q hz).2 rfl (repStr (unitS u) c) (by rw [e1, hs]; exact dec_unit hu hc)
    rw [this]
    rw [show P + 4 + ((L + 1 : Nat) : Int) = P + ((5 + L : Nat) : Int) by omega]
  · right
    exact ⟨by push_cast at q ⊢; omega, g1 (.inr (by omega))⟩
theorem rd_ok : ∀ {m n : Nat} {d : Nd}, d.Ok → d.Shp → d.size ≤ 900000 → d.dep ≤ m → 3 * m + 5 ≤ n → PAt n d
  | m, n, .num i, h, _, _, _, hn => by
    obtain ⟨n, rfl⟩ : ∃ k, n = k + 3 := ⟨n - 3, by omega⟩
    exact rd_num h
  | m, n, .raw c, h, _, _, _, hn => by
    obtain ⟨n, rfl⟩ : ∃ k, n = k + 3 := ⟨n - 3, by omega⟩
    exact rd_raw h
  | m, n, .txt b u c, h, _, _, _, hn => by
    obtain ⟨n, rfl⟩ : ∃ k, n = k + 5 := ⟨n - 5, by omega⟩
    exact rd_txt h
  | 0, n, .box b ps, h, _, _, hd, hn => by rw [Nd.dep] at hd; omega
  | m + 1, n, .box b ps, h, hsh, hs, hd, hn => by
    have h' := h
    rw [Nd.Ok] at h'
    rw [Nd.dep] at hd
    rw [Nd.size] at hs
    have hsh' := hsh
    rw [Nd.Shp] at hsh'
    have hc : ∀ (j : Nat), 3 * m + 5 ≤ j → ∀ p ∈ ps.toL, PAt j p.2 := fun j hj p hp => by
      obtain ⟨h1, h2, h3⟩ := mem_ok h'.1 p hp
      have := mem_size p hp
      have hq : p.2.Shp := by
        cases b
        · exact mem_ashp (hsh'.2 rfl) p hp
        · exact (mem_dshp (hsh'.1 rfl) p hp).2
      exact rd_ok (m := m) h2 hq (by omega) (by omega) hj
    cases b
    · obtain ⟨n, rfl⟩ : ∃ k, n = k + 3 := ⟨n - 3, by omega⟩
      exact get_arr h (by omega) (hc _ (by omega))
    · obtain ⟨n, rfl⟩ : ∃ k, n = k + 5 := ⟨n - 5, by omega⟩
      exact get_doc h hsh (by omega) (hc _ (by omega))
/-! ## the whole -/
abbrev env25 (data : List UInt8) (x2 x3 x4 : Option LV) : Env' := [some (.fv (.bytes data)), some (.fv (.gl 102)), x2, x3, x4]
theorem view26 {n : Nat} {data : List UInt8} : cv (n + 1) 26 [.bytes data] = .ok (.tup [.bytes data, .bytes data]) := by
  rw [cv_eq (ρ := [some (.fv (.bytes data))]) rfl rfl]
  simp [f26, getV]
abbrev hs25 : List (EC × Hd) := [(.own 104, .again), (.blt "Exception", .other)]
theorem tH4 {m : Option Str} {ρ : Env'} : tryH hs25 (.exc ⟨.own 104, m⟩ ρ) = .exc ⟨.own 104, m⟩ ρ := rfl
theorem root25 {n : Nat} {data : List UInt8} : cv (n + 2) 25 [.bytes data, .gl 102] = resV (tryH hs25 (exSs (T (n + 1)) (env25 data (some (.fv (.bytes data))) Option.none Option.none) [.un [3, 4] (.call (G' 27) [.v 0, I' 0, .p .len [.v 0]]), .ret (.call (G' 30) [.v 0, .v 2, I' 4, .v 4, .v 1])])) := by
  have h1 := @view26 n data
  have hpre : exSs (T (n + 1)) (env25 data Option.none Option.none Option.none) (f25.body.take 1) = .ok .next (env25 data (some (.fv (.bytes data))) Option.none Option.none) := by
    simp [f25, getV, setV, setAll, spread, h1]
  rw [cv_eq (ρ := env25 data Option.none Option.none Option.none) rfl rfl, ← List.take_append_drop 1 f25.body, app_ok hpre]
  show resV (exSs _ _ [.try _ hs25]) = _
  rw [bB2, sS20]
  cases tryH hs25 (exSs (T (n + 1)) (env25 data (some (.fv (.bytes data))) Option.none Option.none) [.un [3, 4] (.call (G' 27) [.v 0, I' 0, .p .len [.v 0]]), .ret (.call (G' 30) [.v 0, .v 2, I' 4, .v 4, .v 1])]) with
  | no => rfl
  | exc e ρ => rfl
  | ok f ρ => cases f <;> rfl
theorem root25_size {n : Nat} {data : List UInt8} (h : isBad (cv (n + 1) 27 [.bytes data, .int 0, .int data.length])) : isBad (cv (n + 2) 25 [.bytes data, .gl 102]) := by
  obtain ⟨m, h⟩ := h
  refine ⟨m, ?_⟩
  rw [root25]
  simp [getV, h, tH4]
theorem root25_get {n : Nat} {data : List UInt8} {t : Int} (h : cv (n + 1) 27 [.bytes data, .int 0, .int data.length] = .ok (.tup [.int t, .int (t - 1)])) :
    (∀ v, cv (n + 1) 30 [.bytes data, .bytes data, .int 4, .int (t - 1), .gl 102] = .ok v → cv (n + 2) 25 [.bytes data, .gl 102] = .ok v) ∧ (isBad (cv (n + 1) 30 [.bytes data, .bytes data, .int 4, .int (t - 1), .gl 102]) → isBad (cv (n + 2) 25 [.bytes data, .gl 102])) := by
  rw [root25]
  constructor
  · intro v hv
    simp [getV, setAll, setV, spread, h, hv]
  · rintro ⟨m, hv⟩
    exact ⟨m, by simp [getV, setAll, setV, spread, h, hv, tH4]⟩
theorem whole_at {d : Nd} : At d.enc 0 d.enc := ⟨[], [], by simp, rfl⟩
theorem decode_ok {m n : Nat} {ps : Nds} (ok : (Nd.box true ps).Ok) (hs : ps.DShp) (hz : ps.size ≤ 900000) (hm : ps.dep ≤ m) (hn : 3 * m + 12 ≤ n) : cv n 24 [.bytes (Nd.box true ps).enc] = .ok (Nd.box true ps).dec := by
  have ok' := ok
  rw [Nd.Ok] at ok'
  obtain ⟨n, rfl⟩ : ∃ k, n = k + 8 := ⟨n - 8, by omega⟩
  have hsz := encS_len ok'.1
  have hdl : (Nd.box true ps).enc.length = 5 + ps.size := by rw [enc_len ok, Nd.size]
  have h := @whole_at (.box true ps)
  have henc : (Nd.box true ps).enc = le4 ((5 + ps.size : Nat)) ++ (ps.enc ++ [0]) := by rw [Nd.enc]
  have h' : At (Nd.box true ps).enc 0 (le4 ((5 + ps.size : Nat)) ++ (ps.enc ++ [0])) := by rw [← henc]; exact h
  generalize (Nd.box true ps).enc = data at *
  obtain ⟨S, hSz⟩ : ∃ S : Int, S = ((5 + ps.size : Nat) : Int) := ⟨_, rfl⟩
  rw [← hSz] at h'
  have hy : data[0 + S.toNat - 1]? = some 0 := by
    have h2 : At data 0 ((le4 S ++ ps.enc) ++ [0]) := by simpa using h'
    exact at_end h2 (S := 4 + ps.size) (by simp [le4_len, hsz]) (by omega)
  obtain ⟨s1, s2⟩ := @size27 (n + 3) data (ps.enc ++ [0]) 0 0 (data.length : Int) S h' (by omega) rfl (by omega) (by omega)
  have s3 := ((s2 0 (by omega) hy).2 rfl).2 (by intro q; omega)
  rw [Int.zero_add] at s3
  have hg : ∀ q ∈ ps.toL, PAt (n + 4) q.2 := fun q hq => by
    obtain ⟨h1, h2, h3⟩ := mem_ok ok'.1 q hq
    have := mem_size q hq
    exact rd_ok (m := m) h2 (mem_dshp hs q hq).2 (by omega) (by omega) (by omega)
  have s4 := @dict30 (n + 2) data [0] 4 4 (S - 1) ps h'.right (by omega) rfl ok hg (by omega)
  have s5 := (root25_get s3).1 _ s4
  rw [Nd.dec]
  simp only [if_true]
  rw [cv_eq (ρ := [some (.fv (.bytes data)), some (.fv .none), Option.none]) rfl rfl]
  simp [f24, getV, setV, s5, FV.truth]
end Mine
end

section
open PySem
namespace Mine
mutual
/-- the octets with one length told greater or less by one -/
def Tam : Nd → List UInt8 → Prop
  | .num _, _ => False
  | .raw c, e => ∃ t : Int, (t = (c : Int) + 1 ∨ t = (c : Int) - 1) ∧ e = le4 t ++ (0 :: repB c [102])
  | .txt _ u c, e => ∃ t : Int, (t = (((u + 1) * c + 1 : Nat) : Int) + 1 ∨ t = (((u + 1) * c + 1 : Nat) : Int) - 1) ∧ e = le4 t ++ (repB c (unitB u) ++ [0])
  | .box _ ps, e => (∃ t : Int, (t = ((5 + ps.size : Nat) : Int) + 1 ∨ t = ((5 + ps.size : Nat) : Int) - 1) ∧ e = le4 t ++ (ps.enc ++ [0])) ∨ (∃ es, TamS ps es ∧ e = le4 ((5 + ps.size : Nat)) ++ (es ++ [0]))
def TamS : Nds → List UInt8 → Prop
  | .nil, _ => False
  | .cons k d r, e => (∃ x, Tam d x ∧ e = d.kind.toUInt8 :: (k ++ (0 :: (x ++ r.enc)))) ∨ (∃ y, TamS r y ∧ e = d.kind.toUInt8 :: (k ++ (0 :: (d.enc ++ y))))
end
mutual
theorem tam_len : ∀ {d : Nd} {e : List UInt8}, d.Ok → Tam d e → e.length = d.size
  | .num i, e, _, h => by rw [Tam] at h; exact h.elim
  | .raw c, e, ok, h => by
    rw [Tam] at h
    obtain ⟨t, _, rfl⟩ := h
    rw [Nd.size, List.length_append, List.length_cons, repB_len, le4_len]; simp; omega
  | .txt _ u c, e, ok, h => by
    rw [Nd.Ok] at ok
    rw [Tam] at h
    obtain ⟨t, _, rfl⟩ := h
    rw [Nd.size, List.length_append, List.length_append, repB_len, unitB_len ok.1, le4_len, Nat.mul_comm]; simp; omega
  | .box _ ps, e, ok, h => by
    rw [Nd.Ok] at ok
    rw [Tam] at h
    rw [Nd.size]
    rcases h with ⟨t, _, rfl⟩ | ⟨es, h, rfl⟩
    · rw [List.length_append, List.length_append, le4_len, encS_len ok.1]; simp; omega
    · rw [List.length_append, List.length_append, le4_len, tamS_len ok.1 h]; simp; omega
theorem tamS_len : ∀ {d : Nds} {e : List UInt8}, d.Ok → TamS d e → e.length = d.size
  | .nil, e, _, h => by rw [TamS] at h; exact h.elim
  | .cons k d r, e, ok, h => by
    rw [Nds.Ok] at ok
    rw [TamS] at h
    rw [Nds.size]
    rcases h with ⟨x, h, rfl⟩ | ⟨y, h, rfl⟩
    · rw [List.length_cons, List.length_append, List.length_cons, List.length_append, tam_len ok.2.1 h, encS_len ok.2.2]; omega
    · rw [List.length_cons, List.length_append, List.length_cons, List.length_append, enc_len ok.2.1, tamS_len ok.2.2 h]; omega
end
mutual
/-- a place of a length, and what stands about it -/
theorem places_tam : ∀ (d : Nd) (p a t : Nat) (t' : Int), d.Ok → (a, t) ∈ d.places p → (t' = (t : Int) + 1 ∨ t' = (t : Int) - 1) → ∃ u w, d.enc = u ++ (le4 t ++ w) ∧ a = p + u.length ∧ Tam d (u ++ (le4 t' ++ w))
  | .num i, p, a, t, t', ok, h, ht => by rw [Nd.places] at h; cases h
  | .raw c, p, a, t, t', ok, h, ht => by
    rw [Nd.places] at h
    obtain ⟨rfl, rfl⟩ := Prod.mk.inj (List.mem_singleton.mp h)
    exact ⟨[], 0 :: repB t [102], by rw [Nd.enc]; rfl, by simp, by rw [Tam]; exact ⟨t', ht, rfl⟩⟩
  | .txt _ u c, p, a, t, t', ok, h, ht => by
    rw [Nd.places] at h
    obtain ⟨rfl, rfl⟩ := Prod.mk.inj (List.mem_singleton.mp h)
    exact ⟨[], repB c (unitB u) ++ [0], by rw [Nd.enc]; rfl, by simp, by rw [Tam]; exact ⟨t', ht, rfl⟩⟩
  | .box _ ps, p, a, t, t', ok, h, ht => by
    rw [Nd.places] at h
    rcases List.mem_cons.mp h with h | h
    · obtain ⟨rfl, rfl⟩ := Prod.mk.inj h
      exact ⟨[], ps.enc ++ [0], by rw [Nd.enc]; rfl, by simp, by rw [Tam]; exact .inl ⟨t', ht, rfl⟩⟩
    · obtain ⟨u, w, e1, e2, e3⟩ := placesS_tam ps (p + 4) a t t' (by rw [Nd.Ok] at ok; exact ok.1) h ht
      refine ⟨le4 ((5 + ps.size : Nat)) ++ u, w ++ [0], ?_, ?_, ?_⟩
      · rw [Nd.enc, e1]; simp
      · rw [List.length_append, le4_len]; omega
      · rw [Tam]; exact .inr ⟨_, e3, by simp⟩
theorem placesS_tam : ∀ (d : Nds) (p a t : Nat) (t' : Int), d.Ok → (a, t) ∈ d.places p → (t' = (t : Int) + 1 ∨ t' = (t : Int) - 1) → ∃ u w, d.enc = u ++ (le4 t ++ w) ∧ a = p + u.length ∧ TamS d (u ++ (le4 t' ++ w))
  | .nil, p, a, t, t', ok, h, ht => by rw [Nds.places] at h; cases h
  | .cons k d r, p, a, t, t', ok, h, ht => by
    rw [Nds.places] at h
    rcases List.mem_append.mp h with h | h
    · obtain ⟨u, w, e1, e2, e3⟩ := places_tam d _ a t t' (by rw [Nds.Ok] at ok; exact ok.2.1) h ht
      refine ⟨d.kind.toUInt8 :: (k ++ (0 :: u)), w ++ r.enc, ?_, ?_, ?_⟩
      · rw [Nds.enc, e1]; simp
      · simp; omega
      · rw [TamS]; exact .inl ⟨_, e3, by simp⟩
    · have ok' := ok
      rw [Nds.Ok] at ok'
      have hl := enc_len ok'.2.1
      obtain ⟨u, w, e1, e2, e3⟩ := placesS_tam r _ a t t' ok'.2.2 h ht
      refine ⟨d.kind.toUInt8 :: (k ++ (0 :: (d.enc ++ u))), w, ?_, ?_, ?_⟩
      · rw [Nds.enc, e1]; simp
      · simp [hl]; omega
      · rw [TamS]; exact .inr ⟨_, e3, by simp⟩
end
end Mine
end

section
open PySem
namespace Mine
def QAt (n : Nat) (d : Nd) : Prop := ∀ (x data : List UInt8) (p : Nat) (P E : Int) (nm : Str), Tam d x → At data p x → data.length ≤ 1000000 → P = ((p : Nat) : Int) → 0 < p → p + d.size < data.length →
  isBad (par n d data P E nm) ∨ ∃ v Q, par n d data P E nm = .ok (.tup [v, .int Q]) ∧
    (((Q = P + d.size + 1 ∨ (Q = P + d.size - 1 ∧ data[p + d.size - 1]? = some 102)) ∧ ∃ c, d = .raw c) ∨ (Q = P + d.size + 1 ∧ data[p + d.size]? = some 0))
theorem repB_mem {c : Nat} {b : List UInt8} {x : UInt8} (h : x ∈ repB c b) : x ∈ b := by
  unfold repB at h
  rw [List.mem_flatten] at h
  obtain ⟨l, hl, hx⟩ := h
  rw [List.mem_replicate] at hl
  exact hl.2 ▸ hx
theorem unitB_nz {u : Nat} {x : UInt8} (h : x ∈ unitB u) : x.toNat ≠ 0 := by
  have : ∀ u : Fin 4, ∀ x ∈ unitB u.val, x.toNat ≠ 0 := by decide +kernel
  by_cases hu : u < 4
  · exact this ⟨u, hu⟩ x h
  · have e : unitB u = unitB 3 := by
      match u, hu with
      | 0, h => exact absurd (by decide) h
      | 1, h => exact absurd (by decide) h
      | 2, h => exact absurd (by decide) h
      | 3, h => rfl
      | n + 4, _ => rfl
    rw [e] at h
    exact this 3 x h
theorem bad_raw {n c : Nat} (ok : (Nd.raw c).Ok) : QAt (n + 3) (.raw c) := fun x data p P E nm hx h hd hP hp hlt => by
  rw [Nd.Ok] at ok
  rw [Tam] at hx
  obtain ⟨t, ht, rfl⟩ := hx
  rw [Nd.size] at hlt ⊢
  have hl : (repB c [102]).length = c := by rw [repB_len]; simp
  obtain ⟨g1, g2⟩ := @get_raw n c t data (repB c [102]) p P E nm h hd hP (by omega) (by omega)
  by_cases q : t < 0 ∨ P + 5 + t > E
  · exact .inl (g1 q)
  · right
    refine ⟨_, _, g2 ⟨by omega, by omega, by omega⟩, .inl ⟨?_, c, rfl⟩⟩
    rcases ht with rfl | rfl
    · left; push_cast; omega
    · right
      refine ⟨by push_cast; omega, ?_⟩
      have hc : 0 < c := by omega
      have h5 := At.tail (At.right h)
      rw [le4_len] at h5
      have hm : (repB c [102])[c - 1]? = some 102 := by
        have hi : c - 1 < (repB c [102]).length := by omega
        rw [List.getElem?_eq_getElem hi]
        have := repB_mem (List.getElem_mem hi)
        rw [List.mem_singleton] at this
        rw [this]
      have := At.getI h5 hm
      rw [show p + 4 + 1 + (c - 1) = p + (5 + c) - 1 by omega] at this
      exact this
theorem bad_txt {n u c : Nat} {b : Bool} (ok : (Nd.txt b u c).Ok) : QAt (n + 5) (.txt b u c) := fun x data p P E nm hx h hd hP hp hlt => by
  rw [Nd.Ok] at ok
  obtain ⟨hu, hc⟩ := ok
  rw [Tam] at hx
  obtain ⟨t, ht, rfl⟩ := hx
  rw [Nd.size] at hlt ⊢
  have hl : (repB c (unitB u)).length = (u + 1) * c := by rw [repB_len, unitB_len hu, Nat.mul_comm]
  have h34 : (u + 1) * c ≤ 4 * 330 := Nat.mul_le_mul (by omega) hc
  obtain ⟨L, hL⟩ : ∃ L, L = (u + 1) * c := ⟨_, rfl⟩
  rw [← hL] at ht hlt hl h34 ⊢
  obtain ⟨g1, g2⟩ := @get_str n t data (repB c (unitB u) ++ [0]) p P E nm b u c h hd hP (by omega) (by omega)
  by_cases q : t < 1 ∨ E - (P + 4) < t
  · exact .inl (g1 q)
  · have h4 := At.right h
    rw [le4_len] at h4
    rcases ht with rfl | rfl
    · have e1 : p + 3 + (((L + 1 : Nat) : Int) + 1).toNat = p + (5 + L) := by omega
      obtain ⟨y, hy⟩ : ∃ y, data[p + (5 + L)]? = some y := ⟨data[p + (5 + L)], List.getElem?_eq_getElem hlt⟩
      obtain ⟨k1, k2⟩ := g2 y (by omega) (by omega) (by rw [e1]; exact hy)
      by_cases hz : y.toNat = 0
      · right
        have hs := At.slice h4
        simp only [List.length_append, hl, List.length_singleton] at hs
        obtain ⟨x, hx⟩ := @dec_unit0 u c hu hc
        have hy0 : y = 0 := UInt8.toNat_inj.mp (by rw [hz]; rfl)
        refine ⟨_, _, k2 hz x (by rw [e1, show p + (5 + L) = p + 4 + (L + 1) by omega, hs]; exact hx), .inr ⟨by push_cast; omega, hy0 ▸ hy⟩⟩
      · exact .inl (k1 hz)
    · left
      have hL1 : 1 ≤ L := by omega
      have e1 : p + 3 + (((L + 1 : Nat) : Int) - 1).toNat = p + 4 + (L - 1) := by omega
      have hi : L - 1 < (repB c (unitB u)).length := by omega
      have hy := At.getI (At.left h4) (List.getElem?_eq_getElem hi)
      exact (g2 _ (by omega) (by omega) (by rw [e1]; exact hy)).1 (unitB_nz (repB_mem (List.getElem_mem hi)))
theorem dctPut_len {l : List (Str × FV)} {k : Str} {v : FV} : (dctPut l k v).length ≤ l.length + 1 := by
  induction l with
  | nil => exact Nat.le_refl _
  | cons p r ih =>
    unfold dctPut
    split
    · simp
    · simp only [List.length_cons]; omega
theorem at_pre {data q : List UInt8} {p : Nat} {x : UInt8} (h : data[p]? = some x) (h2 : At data (p + 1) q) : At data p (x :: q) := by
  obtain ⟨pre, post, e, hp⟩ := h2
  have hlt : p < data.length := by
    by_cases c : p < data.length
    · exact c
    · rw [List.getElem?_eq_none (by omega)] at h; cases h
  have hx : pre[p]? = some x := by
    rw [e, List.getElem?_append_left (by omega)] at h
    exact h
  refine ⟨pre.take p, post, ?_, by rw [List.length_take]; omega⟩
  have hpre : pre = pre.take p ++ [x] := by
    have e2 := List.take_append_drop p pre
    have e3 : pre.drop p = [x] := by
      apply List.ext_getElem?
      intro i
      rw [List.getElem?_drop]
      cases i with
      | zero => rw [Nat.add_zero, hx]; rfl
      | succ i => rw [List.getElem?_eq_none (by omega)]; rfl
    rw [e3] at e2
    exact e2.symm
  rw [e]
  conv => lhs; rw [hpre]
  simp
/-- an element whose getter stops amiss: what the step after it meets -/
theorem loop30T {n : Nat} {data : List UInt8} {E : Int} (hd : data.length ≤ 1000000) : ∀ (ps : Nds) (p m : Nat) (P : Int) (acc : List (Str × FV)) (x7 x8 : Option LV) (es : List UInt8), TamS ps es → At data p (es ++ [0]) → P = ((p : Nat) : Int) → 0 < p → ps.Ok → ps.DShp → (∀ q ∈ ps.toL, PAt (n + 2) q.2 ∧ QAt (n + 2) q.2) →
    acc.length + ps.toL.length ≤ 999 → P + ps.size = E → 1 ≤ m →
    (∃ Q acc' y7 y8, Q ≠ E ∧ whl30 (n + 3) (m + ps.toL.length) (env30 data P E acc x7 x8) = .ok .next (env30 data Q E acc' y7 y8)) ∨ badS (whl30 (n + 3) (m + ps.toL.length) (env30 data P E acc x7 x8))
  | .nil, p, m, P, acc, x7, x8, es, ht, h, hP, hp, ok, hs, hg, hl, hE, hm => by rw [TamS] at ht; exact ht.elim
  | .cons k d r, p, m, P, acc, x7, x8, es, ht, h, hP, hp, ok, hs, hg, hl, hE, hm => by
    rw [Nds.Ok] at ok
    rw [Nds.DShp] at hs
    rw [TamS] at ht
    rw [Nds.size] at hE
    rw [Nds.toL] at hg hl ⊢
    rw [List.length_cons] at hl ⊢
    have hsz := @size_ge d
    rw [show m + (r.toL.length + 1) = (m + r.toL.length) + 1 by omega]
    obtain ⟨s1, s2⟩ := @step30 (n + 3) (m + r.toL.length) data P E acc x7 x8 (by push_cast at hE; omega) (by omega)
    obtain ⟨g1, g2⟩ : PAt (n + 2) d ∧ QAt (n + 2) d := hg (k, d) (by simp)
    rcases ht with ⟨x, ht, rfl⟩ | ⟨y, ht, rfl⟩
    · -- here
      have hxl := tam_len ok.2.1 ht
      have h' : At data p (d.kind.toUInt8 :: (k ++ (0 :: (x ++ (r.enc ++ [0]))))) := by simpa using h
      obtain ⟨a1, a2, a3⟩ := at_elem h'
      rw [hxl] at a3
      have hle := a3.le
      simp only [List.length_append, List.length_singleton, encS_len ok.2.2] at hle
      obtain ⟨e1, _⟩ := @elem31 n data k p P E d.kind.toUInt8 a1 hd ok.1 hP
      obtain ⟨e2, e3⟩ := e1 (getr d) (getter_ok d)
      have e4 : P + 1 + (k.length : Int) + 1 = P + (2 + k.length : Nat) := by push_cast; omega
      rcases g2 x data (p + (2 + k.length)) (P + 1 + k.length + 1) E (nmS k) ht a2 hd (by push_cast; omega) (by omega) (by omega) with q | ⟨v, Q, q, hQ⟩
      · exact .inr (s2 (e3 q))
      · have hQE : Q = P + 1 + (k.length : Int) + 1 + d.size + 1 ∨ Q = P + 1 + (k.length : Int) + 1 + d.size - 1 := by
          rcases hQ with ⟨q1 | q1, _⟩ | q1
          · exact .inl q1
          · exact .inr q1.1
          · exact .inl q1.1
        rw [s1 _ _ _ (e2 _ _ q)]
        cases r with
        | nil =>
          rw [Nds.toL, List.length_nil, Nat.add_zero]
          rw [Nds.size] at hE
          obtain ⟨m', rfl⟩ : ∃ m', m = m' + 1 := ⟨m - 1, by omega⟩
          left
          refine ⟨Q, _, _, _, by push_cast at hE; omega, end30 (by push_cast at hE; omega)⟩
        | cons k2 d2 r2 =>
          right
          rw [Nds.enc] at a3
          rw [Nds.size] at hE
          rw [Nds.Ok] at ok
          rw [Nds.DShp] at hs
          have hsz2 := @size_ge d2
          have hal := @dctPut_len acc (nmS k) v
          have b1 : At data (p + (2 + k.length + d.size)) ((d2.kind.toUInt8 :: k2) ++ [0]) := by
            have := (at_elem (e := d2.enc) (r := r2.enc ++ [0]) (k := k2) (ty := d2.kind.toUInt8) (p := p + (2 + k.length + d.size)) (data := data) (by simpa using a3)).1
            simpa using this
          have hk2 := ok.2.2.1
          have hlen2 : (2 : Int) + k2.length + d2.size ≥ 6 := by omega
          rw [Nds.toL, List.length_cons]
          rw [show m + (r2.toL.length + 1) = (m + r2.toL.length) + 1 by omega]
          obtain ⟨t1, t2⟩ := @step30 (n + 3) (m + r2.toL.length) data Q E (dctPut acc (nmS k) v) (some (.fv (.str (nmS k)))) (some (.fv v)) (by push_cast at hE; omega) (by omega)
          rcases hQ with ⟨q1 | q1, c, rfl⟩ | q1
          · -- one too far: the kind read is the first sign of a name
            obtain ⟨r', hr'⟩ := hs.2.2.1.1
            have b2 := b1.tail
            rw [hr'] at b2 hk2
            have hk3 : nmOk r' := ⟨by have := hk2.1; simp at this; omega, fun x hx => hk2.2 x (List.mem_cons_of_mem _ hx)⟩
            exact t2 ((@elem31 n data r' _ Q E 102 b2 hd hk3 (by push_cast; omega)).2 rfl)
          · -- one too near: the kind read is an octet's f
            have e5 : p + (2 + k.length) + (Nd.raw c).size - 1 = p + (2 + k.length + (Nd.raw c).size) - 1 := by omega
            have q2 := q1.2
            rw [e5] at q2
            have b3 : At data (p + (2 + k.length + (Nd.raw c).size) - 1 + 1) ((d2.kind.toUInt8 :: k2) ++ [0]) := by
              rw [show p + (2 + k.length + (Nd.raw c).size) - 1 + 1 = p + (2 + k.length + (Nd.raw c).size) by omega]
              exact b1
            have b2 := at_pre q2 b3
            have hk3 : nmOk (d2.kind.toUInt8 :: k2) := ⟨by have := hs.2.2.1.2; simp; omega, fun x hx => by
              rcases List.mem_cons.mp hx with rfl | hx
              · rw [kindB]; have := kind_pos d2; have := kind_lt d2; omega
              · exact hk2.2 x hx⟩
            exact t2 ((@elem31 n data (d2.kind.toUInt8 :: k2) _ Q E 102 b2 hd hk3 (by push_cast; omega)).2 rfl)
          · have := b1.get
            have e5 : p + (2 + k.length) + d.size = p + (2 + k.length + d.size) := by omega
            have q2 := q1.2
            rw [e5, this] at q2
            have := congrArg UInt8.toNat (Option.some.inj q2)
            rw [kindB] at this
            have := kind_pos d2
            simp at *
            omega
    · -- behind it
      have h' : At data p (d.kind.toUInt8 :: (k ++ (0 :: (d.enc ++ (y ++ [0]))))) := by simpa using h
      obtain ⟨a1, a2, a3⟩ := at_elem h'
      rw [enc_len ok.2.1] at a3
      rcases @elem_right n data k (y ++ [0]) d p P E h' hd ok.1 hP g1 with q | ⟨_, q2⟩
      · rw [s1 _ _ _ q]
        have hal := @dctPut_len acc (nmS k) d.dec
        exact @loop30T n data E hd r (p + (2 + k.length + d.size)) m (P + (2 + k.length + d.size : Nat)) _ _ _ y ht a3 (by push_cast; omega) (by omega) ok.2.2 hs.2.2 (fun q hq => hg q (List.mem_cons_of_mem _ hq)) (by omega) (by push_cast at hE ⊢; omega) hm
      · exact .inr (s2 q2)
end Mine
end

section
open PySem
namespace Mine
theorem loop37T {n : Nat} {data : List UInt8} {E S F : Int} {nm : Str} (hd : data.length ≤ 1000000) : ∀ (ps : Nds) (p m : Nat) (P : Int) (acc : List FV) (x10 x11 : Option LV) (es : List UInt8), TamS ps es → At data p (es ++ [0]) → P = ((p : Nat) : Int) → 0 < p → ps.Ok → ps.AShp → (∀ q ∈ ps.toL, PAt (n + 1) q.2 ∧ QAt (n + 1) q.2) →
    acc.length + ps.toL.length ≤ 999 → P + ps.size = F + 1 → 1 ≤ m →
    (∃ Q acc' y10 y11, Q ≠ F + 1 ∧ whl37 (n + 1) (m + ps.toL.length) (env37 data P E nm S F acc x10 x11) = .ok .next (env37 data Q E nm S F acc' y10 y11)) ∨ badS (whl37 (n + 1) (m + ps.toL.length) (env37 data P E nm S F acc x10 x11))
  | .nil, p, m, P, acc, x10, x11, es, ht, h, hP, hp, ok, hs, hg, hl, hE, hm => by rw [TamS] at ht; exact ht.elim
  | .cons k d r, p, m, P, acc, x10, x11, es, ht, h, hP, hp, ok, hs, hg, hl, hE, hm => by
    rw [Nds.Ok] at ok
    rw [Nds.AShp] at hs
    rw [TamS] at ht
    rw [Nds.size] at hE
    rw [Nds.toL] at hg hl ⊢
    rw [List.length_cons] at hl ⊢
    have hsz := @size_ge d
    rw [show m + (r.toL.length + 1) = (m + r.toL.length) + 1 by omega]
    obtain ⟨g1, g2⟩ : PAt (n + 1) d ∧ QAt (n + 1) d := hg (k, d) (by simp)
    have hkp := kind_pos d
    have step : At data p (d.kind.toUInt8 :: (k ++ [0])) → _ := fun a1 => @step37 n (m + r.toL.length) (getr d) data k p P E S F nm acc x10 x11 d.kind.toUInt8 a1 (by rw [kindB]; omega) hd ok.1 hP (by push_cast at hE; omega) (by omega) (getter_ok d)
    rcases ht with ⟨x, ht, rfl⟩ | ⟨y, ht, rfl⟩
    · have hxl := tam_len ok.2.1 ht
      have h' : At data p (d.kind.toUInt8 :: (k ++ (0 :: (x ++ (r.enc ++ [0]))))) := by simpa using h
      obtain ⟨a1, a2, a3⟩ := at_elem h'
      rw [hxl] at a3
      have hle := a3.le
      simp only [List.length_append, List.length_singleton, encS_len ok.2.2] at hle
      obtain ⟨s1, s2⟩ := step a1
      rcases g2 x data (p + (2 + k.length)) (P + 1 + k.length + 1) E nm ht a2 hd (by push_cast; omega) (by omega) (by omega) with q | ⟨v, Q, q, hQ⟩
      · exact .inr (s2 q)
      · have hQE : Q = P + 1 + (k.length : Int) + 1 + d.size + 1 ∨ Q = P + 1 + (k.length : Int) + 1 + d.size - 1 := by
          rcases hQ with ⟨q1 | q1, _⟩ | q1
          · exact .inl q1
          · exact .inr q1.1
          · exact .inl q1.1
        obtain ⟨y10, y11, e⟩ := s1 _ _ q
        rw [e]
        cases r with
        | nil =>
          rw [Nds.toL, List.length_nil, Nat.add_zero]
          rw [Nds.size] at hE
          obtain ⟨m', rfl⟩ : ∃ m', m = m' + 1 := ⟨m - 1, by omega⟩
          left
          refine ⟨Q, _, _, _, by push_cast at hE; omega, end37 (by push_cast at hE; omega)⟩
        | cons k2 d2 r2 =>
          exfalso
          rw [Nds.enc] at a3
          have hnr := hs.1 (by rw [Nds.toL]; simp)
          rcases hQ with ⟨_, c, hc⟩ | q1
          · exact hnr c hc
          · have b1 := (at_elem (e := d2.enc) (r := r2.enc ++ [0]) (k := k2) (ty := d2.kind.toUInt8) (p := p + (2 + k.length + d.size)) (data := data) (by simpa using a3)).1
            have := b1.get
            have e5 : p + (2 + k.length) + d.size = p + (2 + k.length + d.size) := by omega
            have q2 := q1.2
            rw [e5, this] at q2
            have h3 := congrArg UInt8.toNat (Option.some.inj q2)
            rw [kindB] at h3
            have h4 := kind_pos d2
            have h5 : (0 : UInt8).toNat = 0 := rfl
            omega
    · have h' : At data p (d.kind.toUInt8 :: (k ++ (0 :: (d.enc ++ (y ++ [0]))))) := by simpa using h
      obtain ⟨a1, a2, a3⟩ := at_elem h'
      rw [enc_len ok.2.1] at a3
      obtain ⟨s1, s2⟩ := step a1
      have e4 : P + 1 + (k.length : Int) + 1 + d.size = P + (2 + k.length + d.size : Nat) := by push_cast; omega
      rcases g1 data (p + (2 + k.length)) (P + 1 + k.length + 1) E nm a2 hd (by push_cast; omega) (by omega) with q | ⟨_, q2⟩
      · rw [e4] at q
        obtain ⟨y10, y11, e⟩ := s1 _ _ q
        rw [e]
        exact @loop37T n data E S F nm hd r (p + (2 + k.length + d.size)) m (P + (2 + k.length + d.size : Nat)) _ _ _ y ht a3 (by push_cast; omega) (by omega) ok.2.2 hs.2.2 (fun q hq => hg q (List.mem_cons_of_mem _ hq)) (by simp only [List.length_append, List.length_cons, List.length_nil]; omega) (by push_cast at hE ⊢; omega) hm
      · exact .inr (s2 q2)
theorem bad_arr {n : Nat} {ps : Nds} (ok : (Nd.box false ps).Ok) (hs : ps.AShp) (hz : ps.size ≤ 900000) (hg : ∀ q ∈ ps.toL, PAt (n + 2) q.2 ∧ QAt (n + 2) q.2) : QAt (n + 3) (.box false ps) := fun x data p P E nm hx h hd hP hp hlt => by
  left
  rw [Nd.Ok] at ok
  rw [Tam] at hx
  rw [Nd.size] at hlt
  have hsz := encS_len ok.1
  rcases hx with ⟨t, ht, rfl⟩ | ⟨es, ht, rfl⟩
  · have hi : p + t.toNat - 1 < data.length := by omega
    obtain ⟨y, hy⟩ : ∃ y, data[p + t.toNat - 1]? = some y := ⟨data[p + t.toNat - 1], List.getElem?_eq_getElem hi⟩
    obtain ⟨k1, k2⟩ := @run37 n data (ps.enc ++ [0]) p P E t nm ps h hd hP (by omega) (by omega) y hy
    by_cases hy0 : y.toNat = 0
    · rw [k2 hy0]
      have hl := @loop37 (n + 1) data E t (P + t - 2) nm hd ps (p + 4) (400 - ps.toL.length) (P + 4) [] Option.none Option.none [0] h.right (by push_cast; omega) ok.1 (fun q hq => (hg q hq).1) (by simp; omega) (by omega)
      rw [show 400 - ps.toL.length + ps.toL.length = 400 by omega] at hl
      rcases hl with ⟨y10, y11, hl⟩ | ⟨q1, q2⟩
      · obtain ⟨m, hm⟩ : ∃ m, 400 - ps.toL.length = m + 1 := ⟨399 - ps.toL.length, by omega⟩
        rw [hm] at hl
        rw [hl.trans (end37 (by omega))]
        dsimp only
        exact tail37_ok.2 (by omega)
      · obtain ⟨m, ρ, q2⟩ := q2
        rw [q2]
        exact ⟨m, rfl⟩
    · exact k1 hy0
  · obtain ⟨S, hSz⟩ : ∃ S : Int, S = ((5 + ps.size : Nat) : Int) := ⟨_, rfl⟩
    rw [← hSz] at h
    have hel := tamS_len ok.1 ht
    have hy : data[p + S.toNat - 1]? = some 0 := by
      have h' : At data p ((le4 S ++ es) ++ [0]) := by simpa using h
      exact at_end h' (S := 4 + ps.size) (by simp [le4_len, hel]) (by omega)
    rw [(@run37 n data (es ++ [0]) p P E S nm ps h hd hP (by omega) (by omega) 0 hy).2 rfl]
    have hl := @loop37T (n + 1) data E S (P + S - 2) nm hd ps (p + 4) (400 - ps.toL.length) (P + 4) [] Option.none Option.none es ht h.right (by push_cast; omega) (by omega) ok.1 hs hg (by simp; omega) (by omega) (by omega)
    rw [show 400 - ps.toL.length + ps.toL.length = 400 by omega] at hl
    rcases hl with ⟨Q, acc', y10, y11, hQ, hl⟩ | q2
    · rw [hl]
      dsimp only
      exact tail37_ok.2 hQ
    · obtain ⟨m, ρ, q2⟩ := q2
      rw [q2]
      exact ⟨m, rfl⟩
/-- a document's elements, the end told wrong by one -/
theorem dict30_off {n : Nat} {data tl : List UInt8} {p : Nat} {P E : Int} {ps : Nds} (h : At data p (ps.enc ++ tl)) (hd : data.length ≤ 1000000) (hP : P = ((p : Nat) : Int)) (ok : (Nd.box true ps).Ok) (hg : ∀ q ∈ ps.toL, PAt (n + 2) q.2) (hE : E = P + ps.size + 1 ∨ E = P + ps.size - 1) :
    isBad (cv (n + 4) 30 [.bytes data, .bytes data, .int P, .int E, .gl 102]) := by
  rw [Nd.Ok] at ok
  have hl := @loop30 n data E hd ps p (400 - ps.toL.length) P [] Option.none Option.none tl h hP ok.1 hg (by simpa using ok.2.2 rfl) (by simp; omega) (by omega)
  rw [show 400 - ps.toL.length + ps.toL.length = 400 by omega] at hl
  rcases hl with ⟨y7, y8, hl⟩ | ⟨q, q2⟩
  · obtain ⟨m, hm⟩ : ∃ m, 400 - ps.toL.length = m + 1 := ⟨399 - ps.toL.length, by omega⟩
    rw [hm] at hl
    exact (fin30 (hl.trans (end30 (by omega)))).2 (by omega)
  · exact fin30_bad q2
theorem dict30_in {n : Nat} {data es : List UInt8} {p : Nat} {P E : Int} {ps : Nds} (ht : TamS ps es) (h : At data p (es ++ [0])) (hd : data.length ≤ 1000000) (hP : P = ((p : Nat) : Int)) (hp : 0 < p) (ok : (Nd.box true ps).Ok) (hs : ps.DShp) (hg : ∀ q ∈ ps.toL, PAt (n + 2) q.2 ∧ QAt (n + 2) q.2) (hE : E = P + ps.size) :
    isBad (cv (n + 4) 30 [.bytes data, .bytes data, .int P, .int E, .gl 102]) := by
  rw [Nd.Ok] at ok
  have hl := @loop30T n data E hd ps p (400 - ps.toL.length) P [] Option.none Option.none es ht h hP hp ok.1 hs hg (by simp; omega) hE.symm (by omega)
  rw [show 400 - ps.toL.length + ps.toL.length = 400 by omega] at hl
  rcases hl with ⟨Q, acc', y7, y8, hQ, hl⟩ | q2
  · exact (fin30 hl).2 hQ
  · exact fin30_bad q2
abbrev env36 (data : List UInt8) (P E : Int) (nm : Str) : Env' := [some (.fv (.bytes data)), some (.fv (.bytes data)), some (.fv (.int P)), some (.fv (.int E)), some (.fv (.gl 102)), some (.fv (.str nm)), Option.none, Option.none, Option.none]
theorem bad_doc {n : Nat} {ps : Nds} (ok : (Nd.box true ps).Ok) (hs : ps.DShp) (hz : ps.size ≤ 900000) (hg : ∀ q ∈ ps.toL, PAt (n + 2) q.2 ∧ QAt (n + 2) q.2) : QAt (n + 5) (.box true ps) := fun x data p P E nm hx h hd hP hp hlt => by
  left
  have ok' := ok
  rw [Nd.Ok] at ok'
  rw [Tam] at hx
  rw [Nd.size] at hlt
  have hsz := encS_len ok'.1
  have e0 : par (n + 5) (.box true ps) data P E nm = resV (exSs (T (n + 4)) (env36 data P E nm) f36.body) := by
    unfold par
    rw [getr]
    exact cv_eq (ρ := env36 data P E nm) rfl rfl
  have sz : ∀ {t : Int}, isBad (cv (n + 4) 27 [.bytes data, .int P, .int E]) → isBad (par (n + 5) (.box true ps) data P E nm) := fun {t} ⟨m, hm⟩ => by
    rw [e0]
    exact ⟨m, by simp [f36, getV, setV, setAll, spread, hm]⟩
  have sg : ∀ {t : Int}, cv (n + 4) 27 [.bytes data, .int P, .int E] = .ok (.tup [.int t, .int (P + t - 1)]) → isBad (cv (n + 4) 30 [.bytes data, .bytes data, .int (P + 4), .int (P + t - 1), .gl 102]) → isBad (par (n + 5) (.box true ps) data P E nm) := fun {t} h1 ⟨m, hm⟩ => by
    rw [e0]
    exact ⟨m, by simp [f36, getV, setV, setAll, spread, h1, hm]⟩
  rcases hx with ⟨t, ht, rfl⟩ | ⟨es, ht, rfl⟩
  · obtain ⟨s1, s2⟩ := @size27 (n + 1) data (ps.enc ++ [0]) p P E t h hd hP (by omega) (by omega)
    by_cases c : P + t - 1 ≥ E
    · exact sz (t := t) (s1 c)
    · have hi : p + t.toNat - 1 < data.length := by omega
      obtain ⟨y, hy⟩ : ∃ y, data[p + t.toNat - 1]? = some y := ⟨data[p + t.toNat - 1], List.getElem?_eq_getElem hi⟩
      obtain ⟨k1, k2⟩ := s2 y (by omega) hy
      by_cases hy0 : y.toNat = 0
      · have s3 := (k2 hy0).2 (by intro q; omega)
        exact sg s3 (@dict30_off n data [0] (p + 4) (P + 4) (P + t - 1) ps h.right hd (by omega) ok (fun q hq => (hg q hq).1) (by omega))
      · exact sz (t := t) (k1 hy0)
  · obtain ⟨S, hSz⟩ : ∃ S : Int, S = ((5 + ps.size : Nat) : Int) := ⟨_, rfl⟩
    rw [← hSz] at h
    have hel := tamS_len ok'.1 ht
    have hy : data[p + S.toNat - 1]? = some 0 := by
      have h' : At data p ((le4 S ++ es) ++ [0]) := by simpa using h
      exact at_end h' (S := 4 + ps.size) (by simp [le4_len, hel]) (by omega)
    obtain ⟨s1, s2⟩ := @size27 (n + 1) data (es ++ [0]) p P E S h hd hP (by omega) (by omega)
    by_cases c : P + S - 1 ≥ E
    · exact sz (t := S) (s1 c)
    · have s3 := ((s2 0 (by omega) hy).2 rfl).2 (by intro q; omega)
      exact sg s3 (@dict30_in n data es (p + 4) (P + 4) (P + S - 1) ps ht h.right hd (by omega) (by omega) ok hs hg (by omega))
theorem bad_ok : ∀ {m n : Nat} {d : Nd}, d.Ok → d.Shp → d.size ≤ 900000 → d.dep ≤ m → 3 * m + 5 ≤ n → QAt n d
  | m, n, .num i, h, _, _, _, hn => fun x data p P E nm hx => by rw [Tam] at hx; exact hx.elim
  | m, n, .raw c, h, _, _, _, hn => by
    obtain ⟨n, rfl⟩ : ∃ k, n = k + 3 := ⟨n - 3, by omega⟩
    exact bad_raw h
  | m, n, .txt b u c, h, _, _, _, hn => by
    obtain ⟨n, rfl⟩ : ∃ k, n = k + 5 := ⟨n - 5, by omega⟩
    exact bad_txt h
  | 0, n, .box b ps, h, _, _, hd, hn => by rw [Nd.dep] at hd; omega
  | m + 1, n, .box b ps, h, hsh, hs, hd, hn => by
    have h' := h
    rw [Nd.Ok] at h'
    rw [Nd.dep] at hd
    rw [Nd.size] at hs
    have hsh' := hsh
    rw [Nd.Shp] at hsh'
    have hc : ∀ (j : Nat), 3 * m + 5 ≤ j → ∀ p ∈ ps.toL, PAt j p.2 ∧ QAt j p.2 := fun j hj p hp => by
      obtain ⟨h1, h2, h3⟩ := mem_ok h'.1 p hp
      have := mem_size p hp
      have hq : p.2.Shp := by
        cases b
        · exact mem_ashp (hsh'.2 rfl) p hp
        · exact (mem_dshp (hsh'.1 rfl) p hp).2
      exact ⟨rd_ok (m := m) h2 hq (by omega) (by omega) hj, bad_ok (m := m) h2 hq (by omega) (by omega) hj⟩
    cases b
    · obtain ⟨n, rfl⟩ : ∃ k, n = k + 3 := ⟨n - 3, by omega⟩
      exact bad_arr h (hsh'.2 rfl) (by omega) (hc _ (by omega))
    · obtain ⟨n, rfl⟩ : ∃ k, n = k + 5 := ⟨n - 5, by omega⟩
      exact bad_doc h (hsh'.1 rfl) (by omega) (hc _ (by omega))
end Mine
end

section
open PySem
namespace Mine
/-- what is shown of a root -/
structure Root (m : Nat) (ps : Nds) : Prop where
  ok : (Nd.box true ps).Ok
  arr : ps.Arr
  shp : ps.DShp
  dep : ps.dep ≤ m
  size : ps.size ≤ 500000
theorem tH5 {m : Option Str} {ρ : Env'} : tryH [(.blt "Exception", .ret (.bool false))] (.exc ⟨.own 104, m⟩ ρ) = .ok (.ret (.bool false)) ρ := rfl
theorem valid_no {n : Nat} {data : List UInt8} (h : isBad (cv n 25 [.bytes data, .gl 102])) : cv (n + 1) 43 [.bytes data] = .ok (.bool false) := by
  obtain ⟨m, h⟩ := h
  rw [cv_eq (ρ := [some (.fv (.bytes data))]) rfl rfl]
  simp [f43, getV, h, tH5]
section
variable {m n : Nat} {ps : Nds}
theorem Root.at (R : Root m ps) : At (Nd.box true ps).enc 0 (le4 ((5 + ps.size : Nat)) ++ (ps.enc ++ [0])) := by
  have := @whole_at (.box true ps)
  rw [Nd.enc] at this ⊢
  exact this
theorem Root.len (R : Root m ps) : (Nd.box true ps).enc.length = 5 + ps.size := by rw [enc_len R.ok, Nd.size]
theorem Root.items (R : Root m ps) (hn : 3 * m + 5 ≤ n) : ∀ q ∈ ps.toL, PAt n q.2 ∧ QAt n q.2 := fun q hq => by
  have ok := R.ok
  rw [Nd.Ok] at ok
  obtain ⟨h1, h2, h3⟩ := mem_ok ok.1 q hq
  have := mem_size q hq
  have := R.dep
  have := R.size
  have hs := (mem_dshp R.shp q hq).2
  exact ⟨rd_ok (m := m) h2 hs (by omega) (by omega) hn, bad_ok (m := m) h2 hs (by omega) (by omega) hn⟩
theorem cut_no (R : Root m ps) {k : Nat} (hk : k < (Nd.box true ps).enc.length) : cv (n + 6) 43 [.bytes ((Nd.box true ps).enc.take k)] = .ok (.bool false) := by
  have hT := R.len
  have hz := R.size
  refine valid_no (root25_size ?_)
  have hl : ((Nd.box true ps).enc.take k).length = k := by rw [List.length_take]; omega
  by_cases h4 : k < 4
  · exact size27_no (n := n + 1) (by omega)
  · have hat : At ((Nd.box true ps).enc.take k) 0 (le4 ((5 + ps.size : Nat)) ++ ((ps.enc ++ [0]).take (k - 4))) := by
      refine ⟨[], [], ?_, rfl⟩
      rw [Nd.enc, List.take_append, le4_len, List.take_of_length_le (by rw [le4_len]; omega)]
      simp
    exact (@size27 (n + 1) _ _ 0 0 (((Nd.box true ps).enc.take k).length : Int) ((5 + ps.size : Nat) : Int) hat (by omega) rfl (by omega) (by omega)).1 (by omega)
theorem more_no (R : Root m ps) : cv (n + 6) 43 [.bytes ((Nd.box true ps).enc ++ [0])] = .ok (.bool false) := by
  have hT := R.len
  have hz := R.size
  refine valid_no (root25_size ?_)
  have hl : ((Nd.box true ps).enc ++ [0]).length = 6 + ps.size := by rw [List.length_append, hT]; simp; omega
  obtain ⟨S, hSz⟩ : ∃ S : Int, S = ((5 + ps.size : Nat) : Int) := ⟨_, rfl⟩
  have ok := R.ok
  rw [Nd.Ok] at ok
  have hsz := encS_len ok.1
  have hat : At ((Nd.box true ps).enc ++ [0]) 0 (le4 S ++ (ps.enc ++ [0])) := by
    refine ⟨[], [0], ?_, rfl⟩
    rw [Nd.enc, hSz]
    simp
  obtain ⟨data, hdata⟩ : ∃ data, data = (Nd.box true ps).enc ++ [0] := ⟨_, rfl⟩
  rw [← hdata] at hat hl ⊢
  have hy : data[0 + S.toNat - 1]? = some 0 := by
    have h2 : At data 0 ((le4 S ++ ps.enc) ++ [0]) := by simpa using hat
    exact at_end h2 (S := 4 + ps.size) (by simp [le4_len, hsz]) (by omega)
  have s := @size27 (n + 1) data _ 0 0 (data.length : Int) S hat (by omega) rfl (by omega) (by omega)
  exact ((s.2 0 (by omega) hy).2 rfl).1 rfl (by omega)
theorem tam_no (R : Root m ps) {x : List UInt8} (h : Tam (.box true ps) x) (hn : 3 * m + 10 ≤ n) : cv (n + 1) 43 [.bytes x] = .ok (.bool false) := by
  obtain ⟨n, rfl⟩ : ∃ k, n = k + 6 := ⟨n - 6, by omega⟩
  have hz := R.size
  have hxl := tam_len R.ok h
  rw [Nd.size] at hxl
  have ok := R.ok
  rw [Nd.Ok] at ok
  have hsz := encS_len ok.1
  refine valid_no ?_
  rw [Tam] at h
  rcases h with ⟨t, ht, rfl⟩ | ⟨es, ht, rfl⟩
  · refine root25_size (n := n + 4) ?_
    have hat : At (le4 t ++ (ps.enc ++ [0])) 0 (le4 t ++ (ps.enc ++ [0])) := ⟨[], [], by simp, rfl⟩
    obtain ⟨data, hdata⟩ : ∃ data, data = le4 t ++ (ps.enc ++ [0]) := ⟨_, rfl⟩
    rw [← hdata] at hxl ⊢
    have hat' : At data 0 (le4 t ++ (ps.enc ++ [0])) := hdata ▸ hat
    obtain ⟨s1, s2⟩ := @size27 (n + 2) data (ps.enc ++ [0]) 0 0 (data.length : Int) t hat' (by omega) rfl (by omega) (by omega)
    by_cases c : (0 : Int) + t - 1 ≥ data.length
    · exact s1 c
    · have hi : 0 + t.toNat - 1 < data.length := by omega
      obtain ⟨y, hy⟩ : ∃ y, data[0 + t.toNat - 1]? = some y := ⟨data[0 + t.toNat - 1], List.getElem?_eq_getElem hi⟩
      obtain ⟨k1, k2⟩ := s2 y (by omega) hy
      by_cases hy0 : y.toNat = 0
      · exact (k2 hy0).1 rfl (by omega)
      · exact k1 hy0
  · obtain ⟨S, hSz⟩ : ∃ S : Int, S = ((5 + ps.size : Nat) : Int) := ⟨_, rfl⟩
    rw [← hSz] at hxl ⊢
    have hel := tamS_len ok.1 ht
    have hat0 : At (le4 S ++ (es ++ [0])) 0 (le4 S ++ (es ++ [0])) := ⟨[], [], by simp, rfl⟩
    obtain ⟨data, hdata⟩ : ∃ data, data = le4 S ++ (es ++ [0]) := ⟨_, rfl⟩
    rw [← hdata] at hxl ⊢
    have hat : At data 0 (le4 S ++ (es ++ [0])) := hdata ▸ hat0
    have h4 : At data 4 (es ++ [0]) := hat.right
    have hy : data[0 + S.toNat - 1]? = some 0 := by
      have h2 : At data 0 ((le4 S ++ es) ++ [0]) := by simpa using hat
      exact at_end h2 (S := 4 + ps.size) (by simp [le4_len, hel]) (by omega)
    obtain ⟨s1, s2⟩ := @size27 (n + 2) data (es ++ [0]) 0 0 (data.length : Int) S hat (by omega) rfl (by omega) (by omega)
    have s3 := ((s2 0 (by omega) hy).2 rfl).2 (by intro q; omega)
    rw [Int.zero_add] at s3
    exact (root25_get (n := n + 4) s3).2 (@dict30_in (n + 1) _ es 4 4 (S - 1) ps ht h4 (by omega) rfl (by omega) R.ok R.shp (R.items (by omega)) (by omega))
end
end Mine
end

section
open PySem
namespace Mine
/-- what is shown of a node -/
structure Good (k S : Nat) (d : Nd) : Prop where
  ok : d.Ok
  arr : d.Arr
  shp : d.Shp
  dep : d.dep ≤ k
  size : d.size ≤ S
theorem ofL_len : ∀ (i : Nat) (l : List Nd), (Nds.ofL i l).toL.length = l.length := fun i l => by rw [ofL_toL]; simp
theorem ofL_ok : ∀ (i : Nat) (l : List Nd), (∀ d ∈ l, d.Ok) → i + l.length ≤ 105 → (Nds.ofL i l).Ok
  | i, [], _, _ => by rw [Nds.ofL, Nds.Ok]; trivial
  | i, d :: r, h, hl => by
    rw [Nds.ofL, Nds.Ok]
    rw [List.length_cons] at hl
    exact ⟨dig_nm ⟨i, by omega⟩, h d (by simp), ofL_ok (i + 1) r (fun q hq => h q (List.mem_cons_of_mem _ hq)) (by omega)⟩
theorem ofL_arr : ∀ (i : Nat) (l : List Nd), (∀ d ∈ l, d.Arr) → (Nds.ofL i l).Arr
  | i, [], _ => by rw [Nds.ofL, Nds.Arr]; trivial
  | i, d :: r, h => by
    rw [Nds.ofL, Nds.Arr]
    exact ⟨h d (by simp), ofL_arr (i + 1) r (fun q hq => h q (List.mem_cons_of_mem _ hq))⟩
theorem ofL_shp : ∀ (i : Nat) (l : List Nd), (∀ d ∈ l, d.Shp) → (l.length ≤ 1 ∨ ∀ d ∈ l, ∀ c, d ≠ .raw c) → (Nds.ofL i l).AShp
  | i, [], _, _ => by rw [Nds.ofL, Nds.AShp]; trivial
  | i, d :: r, h, hr => by
    rw [Nds.ofL, Nds.AShp]
    refine ⟨fun hne => ?_, h d (by simp), ofL_shp (i + 1) r (fun q hq => h q (List.mem_cons_of_mem _ hq)) ?_⟩
    · rcases hr with hr | hr
      · have : r = [] := by
          cases r with
          | nil => rfl
          | cons a b => simp at hr
        subst this
        rw [Nds.ofL, Nds.toL] at hne
        exact absurd rfl hne
      · exact hr d (by simp)
    · rcases hr with hr | hr
      · left; rw [List.length_cons] at hr; omega
      · exact .inr fun q hq => hr q (List.mem_cons_of_mem _ hq)
theorem ofL_dep : ∀ (i k : Nat) (l : List Nd), (∀ d ∈ l, d.dep ≤ k) → (Nds.ofL i l).dep ≤ k
  | i, k, [], _ => by rw [Nds.ofL, Nds.dep]; omega
  | i, k, d :: r, h => by
    rw [Nds.ofL, Nds.dep]
    have := h d (by simp)
    have := ofL_dep (i + 1) k r (fun q hq => h q (List.mem_cons_of_mem _ hq))
    omega
theorem ofL_size : ∀ (i S : Nat) (l : List Nd), (∀ d ∈ l, d.size ≤ S) → (Nds.ofL i l).size ≤ l.length * (S + 5)
  | i, S, [], _ => by rw [Nds.ofL, Nds.size]; omega
  | i, S, d :: r, h => by
    rw [Nds.ofL, Nds.size, List.length_cons, Nat.succ_mul]
    have := h d (by simp)
    have := ofL_size (i + 1) S r (fun q hq => h q (List.mem_cons_of_mem _ hq))
    have := digB_len i
    omega
theorem arr_good {k S : Nat} {l : List Nd} (h : ∀ d ∈ l, Good k S d) (hl : l.length ≤ 104) (hr : l.length ≤ 1 ∨ ∀ d ∈ l, ∀ c, d ≠ .raw c) : Good (k + 1) (5 + l.length * (S + 5)) (arr l) := by
  unfold arr
  refine ⟨?_, ?_, ?_, ?_, ?_⟩
  · rw [Nd.Ok]
    exact ⟨ofL_ok 0 l (fun d hd => (h d hd).ok) (by omega), by rw [ofL_len]; exact hl, by simp⟩
  · rw [Nd.Arr]
    refine ⟨fun _ => ?_, ofL_arr 0 l fun d hd => (h d hd).arr⟩
    rw [ofL_len, ofL_toL, List.map_map]
    apply List.ext_getElem
    · simp
    · intro i h1 h2; simp
  · rw [Nd.Shp]
    exact ⟨by simp, fun _ => ofL_shp 0 l (fun d hd => (h d hd).shp) hr⟩
  · rw [Nd.dep]
    have := ofL_dep 0 k l fun d hd => (h d hd).dep
    omega
  · rw [Nd.size]
    have := ofL_size 0 S l fun d hd => (h d hd).size
    omega
theorem num_good {m : Int} {c : Nat} : ∀ d ∈ numsOf m c, Good 0 4 d ∧ ∀ c, d ≠ .raw c := fun d hd => by
  unfold numsOf at hd
  obtain ⟨k, _, rfl⟩ := List.mem_map.mp hd
  have := @fmod_nn (m * ((k : Int) + 1)) 4294967296 (by decide)
  refine ⟨⟨?_, ?_, ?_, ?_, ?_⟩, fun c e => by cases e⟩
  · rw [Nd.Ok]; omega
  · rw [Nd.Arr]; trivial
  · rw [Nd.Shp]; trivial
  · rw [Nd.dep]; omega
  · rw [Nd.size]; omega
theorem txt_good {b : Bool} {u c : Nat} (hu : u < 4) (hc : c ≤ 330) : Good 0 1325 (.txt b u c) := by
  have := Nat.mul_le_mul (show u + 1 ≤ 4 by omega) hc
  refine ⟨?_, ?_, ?_, ?_, ?_⟩
  · rw [Nd.Ok]; exact ⟨hu, hc⟩
  · rw [Nd.Arr]; trivial
  · rw [Nd.Shp]; trivial
  · rw [Nd.dep]; omega
  · rw [Nd.size]; omega
theorem raw_good {c : Nat} (hc : c ≤ 700) : Good 0 705 (.raw c) := by
  refine ⟨?_, ?_, ?_, ?_, ?_⟩
  · rw [Nd.Ok]; exact hc
  · rw [Nd.Arr]; trivial
  · rw [Nd.Shp]; trivial
  · rw [Nd.dep]; omega
  · rw [Nd.size]; omega
theorem txts_good {m : Int} {c : Nat} : ∀ d ∈ txtsOf m c, Good 0 1325 d ∧ ∀ c, d ≠ .raw c := fun d hd => by
  unfold txtsOf at hd
  obtain ⟨k, _, rfl⟩ := List.mem_map.mp hd
  have : ((m + 37 * (k : Int)).fmod 150).toNat < 150 := (@fm (m + 37 * (k : Int)) 150 (by decide)).2
  exact ⟨txt_good (by omega) (by omega), fun c e => by cases e⟩
theorem Good.mono {k k' S S' : Nat} {d : Nd} (h : Good k S d) (hk : k ≤ k') (hS : S ≤ S') : Good k' S' d := ⟨h.ok, h.arr, h.shp, Nat.le_trans h.dep hk, Nat.le_trans h.size hS⟩
theorem base_good {p : Nat} {m : Int} {b : Nat} (hb : b ≤ 104) : Good 1 20000 (baseNd p m b) := by
  have h1 : (m.fmod 4).toNat < 4 := (@fm m 4 (by decide)).2
  have h2 : ((m * 61).fmod 331).toNat < 331 := (@fm (m * 61) 331 (by decide)).2
  have h3 : ((m * 61).fmod 700).toNat < 700 := (@fm (m * 61) 700 (by decide)).2
  match p with
  | 0 =>
    have hl : (numsOf m (cnt0 m b)).length ≤ 104 := by unfold numsOf; simp; exact cnt0_le hb
    have := arr_good (l := numsOf m (cnt0 m b)) (fun d hd => (num_good d hd).1) hl (.inr fun d hd => (num_good d hd).2)
    exact this.mono (by omega) (by have := Nat.mul_le_mul hl (Nat.le_refl (4 + 5)); omega)
  | 1 => exact (txt_good h1 (by omega)).mono (by omega) (by omega)
  | 2 => exact (raw_good (by omega)).mono (by omega) (by omega)
  | 3 => exact (txt_good h1 (by omega)).mono (by omega) (by omega)
  | n + 4 =>
    have h14 : (m.fmod 14).toNat < 14 := (@fm m 14 (by decide)).2
    have hl : (txtsOf m (cnt4 m b)).length ≤ 13 := by unfold txtsOf cnt4; simp; omega
    have := arr_good (l := txtsOf m (cnt4 m b)) (fun d hd => (txts_good d hd).1) (by omega) (.inr fun d hd => (txts_good d hd).2)
    exact this.mono (by omega) (by have := Nat.mul_le_mul hl (Nat.le_refl (1325 + 5)); omega)
theorem f_nm : nmOk [102] := ⟨by decide, by decide⟩
theorem wrap_good {k S : Nat} {m : Int} {d : Nd} {j : Nat} (h : Good k S d) : Good (k + 1) (S + 20) (wrap1 m d j) := by
  unfold wrap1
  split
  · have := arr_good (l := [d]) (fun q hq => by rw [List.mem_singleton] at hq; exact hq ▸ h) (by simp) (.inl (by simp))
    exact this.mono (by omega) (by simp; omega)
  · have ok := h.ok
    have ar := h.arr
    have sh := h.shp
    have de := h.dep
    have si := h.size
    refine ⟨?_, ?_, ?_, ?_, ?_⟩
    · rw [Nd.Ok, Nds.Ok, Nds.Ok, Nds.toL, Nds.toL]
      exact ⟨⟨f_nm, ok, trivial⟩, by simp, by simp⟩
    · rw [Nd.Arr, Nds.Arr, Nds.Arr]
      exact ⟨by simp, ar, trivial⟩
    · rw [Nd.Shp, Nds.DShp, Nds.DShp]
      exact ⟨fun _ => ⟨⟨⟨[], rfl⟩, by decide⟩, sh, trivial⟩, by simp⟩
    · rw [Nd.dep, Nds.dep, Nds.dep]; omega
    · rw [Nd.size, Nds.size, Nds.size]; simp; omega
theorem wraps_good {m : Int} : ∀ (l : List Nat) {k S : Nat} {d : Nd}, Good k S d → Good (k + l.length) (S + 20 * l.length) (l.foldl (wrap1 m) d)
  | [], k, S, d, h => h
  | j :: r, k, S, d, h => by
    have := wraps_good (m := m) r (wrap_good (m := m) (j := j) h)
    rw [List.foldl_cons, List.length_cons]
    exact this.mono (by omega) (by omega)
theorem mk_good {p : Nat} {m : Int} {b : Nat} (hb : b ≤ 104) : Good 4 21000 (mkNd p m b) := by
  have h := wraps_good (m := m) (List.range ((m.fdiv 7).fmod 4).toNat) (base_good (p := p) (m := m) hb)
  have h4 : ((m.fdiv 7).fmod 4).toNat < 4 := (@fm (m.fdiv 7) 4 (by decide)).2
  rw [List.length_range] at h
  exact h.mono (by omega) (by omega)
def used (s : Int) : Nat := if s.fmod 5 = 0 then countsL.getD ((s.fdiv 5).fmod 7).toNat 0 else if s.fmod 5 = 4 then ((s.fdiv 5).fmod 14).toNat else 0
def fields : Nat → Nat → List Int → Nds
  | _, _, [] => .nil
  | i, b, s :: r => .cons (102 :: digB i) (mkNd (s.fmod 5).toNat (s.fdiv 5) b) (fields (i + 1) (b - used s) r)
theorem fields_names : ∀ (i b : Nat) (l : List Int), (fields i b l).toL.map (·.1) = (List.range' i l.length).map fun k => 102 :: digB k
  | i, b, [] => by rw [fields, Nds.toL]; rfl
  | i, b, s :: r => by rw [fields, Nds.toL, List.map_cons, fields_names, List.length_cons, List.range'_succ, List.map_cons]
theorem fnm_ok {i : Nat} (h : i < 105) : nmOk (102 :: digB i) := ⟨by have := digB_len i; simp; omega, fun x hx => by
  rcases List.mem_cons.mp hx with rfl | hx
  · decide
  · exact (dig_nm ⟨i, h⟩).2 x hx⟩
theorem fields_good : ∀ (i b : Nat) (l : List Int), b ≤ 104 → i + l.length ≤ 105 → (fields i b l).Ok ∧ (fields i b l).Arr ∧ (fields i b l).DShp ∧ (fields i b l).dep ≤ 4 ∧ (fields i b l).size ≤ l.length * 22000
  | i, b, [], _, _ => by
    rw [fields, Nds.Ok, Nds.Arr, Nds.DShp, Nds.dep, Nds.size]
    exact ⟨trivial, trivial, trivial, by omega, by simp⟩
  | i, b, s :: r, hb, hl => by
    rw [List.length_cons] at hl
    obtain ⟨h1, h2, h3, h4, h5⟩ := fields_good (i + 1) (b - used s) r (by omega) (by omega)
    have g := mk_good (p := (s.fmod 5).toNat) (m := s.fdiv 5) hb
    have g4 := g.dep
    have g5 := g.size
    have hd := digB_len i
    rw [fields, Nds.Ok, Nds.Arr, Nds.DShp, Nds.dep, Nds.size, List.length_cons]
    refine ⟨⟨fnm_ok (by omega), g.ok, h1⟩, ⟨g.arr, h2⟩, ⟨⟨⟨_, rfl⟩, by simp; omega⟩, g.shp, h3⟩, by omega, ?_⟩
    rw [List.length_cons, Nat.succ_mul]; omega
theorem names_nodup : ∀ k : Fin 8, ((List.range' 0 k.val).map fun i => nmS (102 :: digB i)).Nodup := by decide +kernel
theorem root_good {l : List Int} (hl : l.length ≤ 7) : Root 4 (fields 0 104 l) := by
  obtain ⟨h1, h2, h3, h4, h5⟩ := fields_good 0 104 l (by omega) (by omega)
  refine ⟨?_, h2, h3, h4, by omega⟩
  rw [Nd.Ok]
  have hn := fields_names 0 104 l
  refine ⟨h1, ?_, fun _ => ?_⟩
  · have := congrArg List.length hn
    simp at this
    omega
  · have e : (fields 0 104 l).toL.map (fun p => nmS p.1) = ((fields 0 104 l).toL.map (·.1)).map nmS := by rw [List.map_map]; rfl
    rw [e, hn, List.map_map]
    exact names_nodup ⟨l.length, by omega⟩
end Mine
end

section
open PySem
namespace Mine
theorem max_ok {b u : Nat} : evP .max2 [.int 0, .int ((b : Int) - (u : Int))] = .ok (.int ((b - u : Nat) : Int)) := by
  rw [pP43]
  congr 2
  split <;> omega
abbrev env9 (sc : FV) (b : Int) (out : List FV) (x3 x4 : Option LV) : Env' := [some (.fv sc), some (.fv (.int b)), some (.ml out), x3, x4, Option.none, Option.none, Option.none, Option.none, Option.none, Option.none, Option.none, Option.none]
abbrev usedE : CE := .ife (.p .eq [.p .mod [.v 3, I' 5], I' 0]) (.p .idx [counts, .p .mod [.p .div [.v 3, I' 5], I' 7]]) (.ife (.p .eq [.p .mod [.v 3, I' 5], I' 4]) (.p .mod [.p .div [.v 3, I' 5], I' 14]) (I' 0))
abbrev body9 : List CS := [.set 4 (.call (G' 5) [.p .mod [.v 3, I' 5], .p .div [.v 3, I' 5], .v 1]), .set 1 (.p .max2 [I' 0, .p .sub [.v 1, usedE]]), .app 2 (.p .mkTup [.p .add [B' [102], .call (G' 0) [.lenv 2]], .v 4])]
theorem used_ok {n : Nat} {ρ : Env'} {s : Int} (h : ρ[3]? = some (some (.fv (.int s)))) : evE (T n) ρ [] usedE = .ok (.int ((used s : Nat) : Int)) := by
  have d5 : evP .div [.int s, .int 5] = .ok (.int (s.fdiv 5)) := div_ok (by omega) (by omega)
  have m5 : evP .mod [.int s, .int 5] = .ok (.int (s.fmod 5)) := mod_ok (by omega) (by omega)
  have m7 : evP .mod [.int (s.fdiv 5), .int 7] = .ok (.int ((s.fdiv 5).fmod 7)) := mod_ok (by omega) (by omega)
  have m14 : evP .mod [.int (s.fdiv 5), .int 14] = .ok (.int ((((s.fdiv 5).fmod 14).toNat : Nat) : Int)) := modC (c := 14) (by decide) (by decide)
  unfold used
  by_cases c0 : s.fmod 5 = 0
  · simp only [eE8, eE5, eL2, eL1, eE2, eE1, getV, h, Res.bind_ok, d5, m5, m7, pP14, tr1, decide_eq_true c0, counts_idx]
    rw [if_pos c0]
  · by_cases c4 : s.fmod 5 = 4
    · simp only [eE8, eE5, eL2, eL1, eE2, eE1, getV, h, Res.bind_ok, d5, m5, m14, pP14, tr1, decide_eq_false c0, decide_eq_true c4]
      rw [if_neg c0, if_pos c4]
    · simp only [eE8, eE5, eL2, eL1, eE2, eE1, getV, h, Res.bind_ok, d5, m5, pP14, tr1, decide_eq_false c0, decide_eq_false c4]
      rw [if_neg c0, if_neg c4]
      rfl
theorem step9 {n : Nat} {sc : FV} {b : Nat} {out : List FV} {x3 x4 : Option LV} {s : Int} (hb : b ≤ 104) (ho : out.length < 100) :
    ∃ y3 y4, exSs (T (n + 5)) (setAll (env9 sc b out x3 x4) [3] [.int s]) body9 = .ok .next (env9 sc ((b - used s : Nat)) (out ++ [.tup [.bytes (102 :: digB out.length), (mkNd (s.fmod 5).toNat (s.fdiv 5) b).fv]]) y3 y4) := by
  refine ⟨some (.fv (.int s)), some (.fv (mkNd (s.fmod 5).toNat (s.fdiv 5) b).fv), ?_⟩
  have h5 : (s.fmod 5).toNat < 5 := (@fm s 5 (by decide)).2
  have hm := @make_body n (s.fmod 5).toNat (s.fdiv 5) b h5 hb
  have d5 : evP .div [.int s, .int 5] = .ok (.int (s.fdiv 5)) := div_ok (by omega) (by omega)
  have m5 : evP .mod [.int s, .int 5] = .ok (.int (((s.fmod 5).toNat : Nat) : Int)) := modC (c := 5) (by decide) (by decide)
  have hg := @digits_ok (n + 2) out.length (by omega)
  have hbig : (digB out.length).length + 1 ≤ big := by have := digB_len out.length; unfold big; omega
  have ho' : out.length < 1000000 := by omega
  have e0 : setAll (env9 sc b out x3 x4) [3] [.int s] = env9 sc b out (some (.fv (.int s))) x4 := rfl
  rw [e0, bB2, sS2]
  have k1 : evE (T (n + 5)) (env9 sc b out (some (.fv (.int s))) x4) [] (.call (G' 5) [.p .mod [.v 3, I' 5], .p .div [.v 3, I' 5], .v 1]) = .ok (mkNd (s.fmod 5).toNat (s.fdiv 5) b).fv := by
    simp only [eE12, eE5, eL2, eL1, eE2, eE1, getV, List.getElem?_cons_succ, List.getElem?_cons_zero, Res.bind_ok, d5, m5, hm]
  rw [k1, tE1]
  dsimp only
  generalize (mkNd (s.fmod 5).toNat (s.fdiv 5) b).fv = N
  have e1 : setV (env9 sc b out (some (.fv (.int s))) x4) 4 (.fv N) = env9 sc b out (some (.fv (.int s))) (some (.fv N)) := rfl
  rw [e1, bB2, sS2]
  have k2 : evE (T (n + 5)) (env9 sc b out (some (.fv (.int s))) (some (.fv N))) [] (.p .max2 [I' 0, .p .sub [.v 1, usedE]]) = .ok (.int ((b - used s : Nat) : Int)) := by
    have hu := @used_ok (n + 5) (env9 sc b out (some (.fv (.int s))) (some (.fv N))) s rfl
    rw [eE5, eL2, eE1, Res.bind_ok, eL2, eE5, eL2, eE2, eL2, hu]
    simp only [eL1, getV, List.getElem?_cons_succ, List.getElem?_cons_zero, Res.bind_ok, pP4, max_ok]
  rw [k2, tE1]
  dsimp only
  have e2 : setV (env9 sc b out (some (.fv (.int s))) (some (.fv N))) 1 (.fv (.int ((b - used s : Nat)))) = env9 sc ((b - used s : Nat)) out (some (.fv (.int s))) (some (.fv N)) := rfl
  rw [e2]
  generalize ((b - used s : Nat) : Int) = B
  simp [getV, setV, getL, hg, okBytes, hbig, ho']
theorem loop9 {n : Nat} {sc : FV} : ∀ (l : List Int) (b : Nat) (out : List FV) (x3 x4 : Option LV), b ≤ 104 → out.length + l.length ≤ 100 →
    ∃ b' y3 y4, forGo (fun ρ => exSs (T (n + 5)) ρ body9) [3] 0 (l.map .int) (env9 sc b out x3 x4) = .ok .next (env9 sc b' (out ++ (fields out.length b l).fvs) y3 y4)
  | [], b, out, x3, x4, _, _ => ⟨b, x3, x4, by rw [fields, Nds.fvs]; simp [forGo]⟩
  | s :: r, b, out, x3, x4, hb, hl => by
    rw [List.length_cons] at hl
    obtain ⟨y3, y4, e⟩ := @step9 n sc b out x3 x4 s hb (by omega)
    obtain ⟨b', z3, z4, ih⟩ := @loop9 n sc r (b - used s) (out ++ [.tup [.bytes (102 :: digB out.length), (mkNd (s.fmod 5).toNat (s.fdiv 5) b).fv]]) y3 y4 (by omega) (by simp; omega)
    refine ⟨b', z3, z4, ?_⟩
    rw [List.map_cons, forGo, show spread 0 (FV.int s) = some [.int s] from rfl]
    dsimp only
    rw [e]
    dsimp only
    rw [ih, fields, Nds.fvs, List.length_append]
    simp
end Mine
end

section
open PySem
namespace Mine
abbrev env9b (sc : FV) (b : Int) (x2 x3 x4 x5 x6 x7 x8 x9 x10 x11 x12 : Option LV) : Env' := [some (.fv sc), some (.fv (.int b)), x2, x3, x4, x5, x6, x7, x8, x9, x10, x11, x12]
theorem truth_int {i : Int} : (FV.int i).truth = some (i != 0) := rfl
/-- what stands in the place of a length -/
def other (s t : Int) : Int := if (s.fdiv 64).fmod 2 ≠ 0 then t + 1 else t - 1
theorem take_u {u w : List UInt8} {x : List UInt8} (hx : x.length = 4) : (u ++ (x ++ w)).take u.length = u ∧ (u ++ (x ++ w)).drop (u.length + 4) = w := by
  constructor
  · simp
  · rw [← List.append_assoc, List.drop_append_of_le_length (by simp [hx])]
    rw [List.drop_of_length_le (by simp [hx])]
    rfl
abbrev tailB9 : List CS := [.set 9 (.p .sum [.p .slB [.v 0, I' 7]]), .un [10, 11] (.p .idx [.v 7, .p .mod [.v 9, .p .len [.v 7]]]),
  .set 12 (.p .add [.p .add [.p .slB [.v 8, .v 10], .call (G' 1) [.ife (.p .mod [.p .div [.v 9, I' 64], I' 2]) (.p .add [.v 11, I' 1]) (.p .sub [.v 11, I' 1])]], .p .slA [.v 8, .p .add [.v 10, I' 4]]]),
  .ret (.p .eq [.comp (.call (G' 43) [.c 0]) 0 .lst [.p .mkTup [.v 12, .p .slB [.v 8, .p .mod [.v 9, .p .len [.v 8]]], .p .add [.v 8, B' [0]]]], .p .mkLst [.k (.bool false), .k (.bool false), .k (.bool false)]])]
theorem three {n : Nat} {ρ : Env'} {x y z : List UInt8} {e : CE} (h : evEs (T n) ρ [] [e] = .ok [.tup [.bytes x, .bytes y, .bytes z]]) (hx : cv n 43 [.bytes x] = .ok (.bool false)) (hy : cv n 43 [.bytes y] = .ok (.bool false)) (hz : cv n 43 [.bytes z] = .ok (.bool false)) :
    evE (T n) ρ [] (.comp (.call (G' 43) [.c 0]) 0 .lst [e]) = .ok (.lst [.bool false, .bool false, .bool false]) := by
  have := @comp_ok (T n) ρ [] (.call (G' 43) [.c 0]) 0 .lst [e] (List UInt8) [.tup [.bytes x, .bytes y, .bytes z]] [x, y, z] .bytes (fun _ => .bool false) h rfl (by simp) (fun q hq => ⟨[.bytes q], rfl, by
    rw [eE12, eL2, eE3]
    simp only [List.getElem?_cons_zero, Res.bind_ok, eL1]
    simp at hq
    rcases hq with rfl | rfl | rfl
    · exact hx
    · exact hy
    · exact hz⟩)
  exact this
theorem tail9 {m n : Nat} {ps : Nds} (R : Root m ps) (hn : 3 * m + 20 ≤ n) {script : List Int} {b : Int} {x2 x3 x4 x5 x6 x9 x10 x11 x12 : Option LV} :
    resV (exSs (T n) (env9b (.lst (script.map .int)) b x2 x3 x4 x5 x6 (some (.fv (.lst (((Nd.box true ps).places 0).map plFV)))) (some (.fv (.bytes (Nd.box true ps).enc))) x9 x10 x11 x12) tailB9) = .ok (.bool true) := by
  have hlen := R.len
  have hz := R.size
  have hpl := placesS_len 4 ps
  obtain ⟨pl, hpl'⟩ : ∃ pl, pl = (Nd.box true ps).places 0 := ⟨_, rfl⟩
  have hpc : pl.length = (ps.places 4).length + 1 := by rw [hpl', Nd.places]; rfl
  obtain ⟨s, hs⟩ : ∃ s, s = (script.take 7).sum := ⟨_, rfl⟩
  have q1 : evP .slB [.lst (script.map .int), .int 7] = .ok (.lst ((script.take 7).map .int)) := by
    rw [pP38, List.map_take]; rfl
  have q2 : evP .sum [.lst ((script.take 7).map .int)] = .ok (.int s) := by rw [pP44, allInts_map, hs]
  have q3 : evP .mod [.int s, .int (pl.length : Nat)] = .ok (.int (((s.fmod (pl.length : Nat)).toNat : Nat) : Int)) := modC (by omega) (by omega)
  have q3' := (@fm s pl.length (by omega)).2
  obtain ⟨j, hj⟩ : ∃ j, j = (s.fmod (pl.length : Nat)).toNat := ⟨_, rfl⟩
  rw [← hj] at q3 q3'
  have q4 : evP .idx [.lst (pl.map plFV), .int (j : Nat)] = .ok (plFV (pl[j])) := by
    rw [pP31]
    simp [q3']
  have hmem : pl[j] ∈ (Nd.box true ps).places 0 := hpl' ▸ List.getElem_mem q3'
  obtain ⟨a, t, hat⟩ : ∃ a t, pl[j] = (a, t) := ⟨_, _, rfl⟩
  rw [hat] at hmem q4
  have ht' : other s t = (t : Int) + 1 ∨ other s t = (t : Int) - 1 := by
    unfold other; split
    · exact .inl rfl
    · exact .inr rfl
  obtain ⟨u, w, e1, e2, e3⟩ := places_tam (.box true ps) 0 a t (other s t) R.ok hmem ht'
  rw [Nat.zero_add] at e2
  subst e2
  have hbound : u.length + 4 + w.length = 5 + ps.size := by
    have := congrArg List.length e1
    rw [hlen] at this
    simp [le4_len] at this
    omega
  rw [← hpl']
  have v1 := tam_no R e3 (n := n - 1) (by omega)
  have v2 := @cut_no m (n - 6) ps R (s.fmod (Nd.box true ps).enc.length).toNat (@fm s (Nd.box true ps).enc.length (by omega)).2
  have v3 := @more_no m (n - 6) ps R
  rw [show n - 1 + 1 = n by omega] at v1
  rw [show n - 6 + 6 = n by omega] at v2 v3
  obtain ⟨W, hW⟩ : ∃ W, W = (Nd.box true ps).enc := ⟨_, rfl⟩
  rw [← hW] at e1 hlen v2 v3 ⊢
  have q5 : evP .mod [.int s, .int (W.length : Nat)] = .ok (.int (((s.fmod (W.length : Nat)).toNat : Nat) : Int)) := modC (by omega) (by omega)
  have q5' := (@fm s W.length (by omega)).2
  obtain ⟨k, hk⟩ : ∃ k, k = (s.fmod (W.length : Nat)).toNat := ⟨_, rfl⟩
  rw [← hk] at q5 q5' v2
  have q6 : evP .slB [.bytes W, .int (u.length : Nat)] = .ok (.bytes u) := by
    rw [pP37, small_nat (by omega), e1]
    simp
  have q7 : evP .slA [.bytes W, .int ((u.length : Int) + 4)] = .ok (.bytes w) := by
    have e4 : (u.length : Int) + 4 = ((u.length + 4 : Nat) : Int) := by push_cast; rfl
    rw [e4, pP36, small_nat (by omega)]
    have := (take_u (u := u) (w := w) (le4_len t)).2
    rw [← e1] at this
    simp only [Int.toNat_natCast, this]
    rw [if_pos (by simp; omega)]
  have q8 : evP .slB [.bytes W, .int (k : Nat)] = .ok (.bytes (W.take k)) := by
    rw [pP37, small_nat (by omega)]
    simp
  have q9 : evP .div [.int s, .int 64] = .ok (.int (s.fdiv 64)) := div_ok (by omega) (by omega)
  have q10 : evP .mod [.int (s.fdiv 64), .int 2] = .ok (.int ((s.fdiv 64).fmod 2)) := mod_ok (by omega) (by omega)
  obtain ⟨n', rfl⟩ : ∃ n', n = n' + 1 := ⟨n - 1, by omega⟩
  have q11 : ∀ x, cv (n' + 1) 1 [.int x] = .ok (.bytes (le4 x)) := fun x => four_ok
  have q12 : evP .len [.lst (pl.map plFV)] = .ok (.int (pl.length : Nat)) := by rw [pP28, List.length_map]
  have q13 : evP .add [.bytes u, .bytes (le4 (other s t))] = .ok (.bytes (u ++ le4 (other s t))) := by
    rw [pP2]; unfold okBytes; rw [if_pos (by simp [le4_len]; unfold big; omega)]
  have q14 : evP .add [.bytes (u ++ le4 (other s t)), .bytes w] = .ok (.bytes (u ++ (le4 (other s t) ++ w))) := by
    rw [pP2]; unfold okBytes; rw [if_pos (by simp [le4_len]; unfold big; omega), List.append_assoc]
  have q15 : evP .add [.bytes W, .bytes [0]] = .ok (.bytes (W ++ [0])) := by
    rw [pP2]; unfold okBytes; rw [if_pos (by simp; unfold big; omega)]
  -- the statements
  rw [bB2, sS2]
  have k1 : ∀ ρ : Env', ρ[0]? = some (some (.fv (.lst (script.map .int)))) → evE (T (n' + 1)) ρ [] (.p .sum [.p .slB [.v 0, I' 7]]) = .ok (.int s) := fun ρ h => by
    simp only [eE5, eL2, eL1, eE2, eE1, getV, h, Res.bind_ok, q1, q2]
  rw [k1 _ rfl, tE1]
  dsimp only
  show resV (exSs _ (env9b _ b x2 x3 x4 x5 x6 (some (.fv (.lst (pl.map plFV)))) (some (.fv (.bytes W))) (some (.fv (.int s))) x10 x11 x12) _) = _
  rw [bB2, sS6]
  have k2 : evE (T (n' + 1)) (env9b (.lst (script.map .int)) b x2 x3 x4 x5 x6 (some (.fv (.lst (pl.map plFV)))) (some (.fv (.bytes W))) (some (.fv (.int s))) x10 x11 x12) [] (.p .idx [.v 7, .p .mod [.v 9, .p .len [.v 7]]]) = .ok (.tup [.int (u.length : Nat), .int (t : Nat)]) := by
    simp only [eE5, eL2, eL1, eE2, eE1, getV, List.getElem?_cons_succ, List.getElem?_cons_zero, Res.bind_ok, q12, q3, q4]
    rfl
  rw [k2, tE1]
  rw [show spread [10, 11].length (.tup [.int (u.length : Nat), .int (t : Nat)]) = some [.int (u.length : Nat), .int (t : Nat)] from rfl]
  dsimp only
  show resV (exSs _ (env9b _ b x2 x3 x4 x5 x6 (some (.fv (.lst (pl.map plFV)))) (some (.fv (.bytes W))) (some (.fv (.int s))) (some (.fv (.int (u.length : Nat)))) (some (.fv (.int (t : Nat)))) x12) _) = _
  rw [bB2, sS2]
  have k3 : evE (T (n' + 1)) (env9b (.lst (script.map .int)) b x2 x3 x4 x5 x6 (some (.fv (.lst (pl.map plFV)))) (some (.fv (.bytes W))) (some (.fv (.int s))) (some (.fv (.int (u.length : Nat)))) (some (.fv (.int (t : Nat)))) x12) []
      (.ife (.p .mod [.p .div [.v 9, I' 64], I' 2]) (.p .add [.v 11, I' 1]) (.p .sub [.v 11, I' 1])) = .ok (.int (other s t)) := by
    unfold other
    simp only [eE8, eE5, eL2, eL1, eE2, eE1, getV, List.getElem?_cons_succ, List.getElem?_cons_zero, Res.bind_ok, q9, q10, truth_int, pP1, pP4]
    by_cases c : (s.fdiv 64).fmod 2 = 0
    · rw [c]; rfl
    · rw [show ((s.fdiv 64).fmod 2 != 0) = true by simpa using c, if_pos c]
  have k4 : evE (T (n' + 1)) (env9b (.lst (script.map .int)) b x2 x3 x4 x5 x6 (some (.fv (.lst (pl.map plFV)))) (some (.fv (.bytes W))) (some (.fv (.int s))) (some (.fv (.int (u.length : Nat)))) (some (.fv (.int (t : Nat)))) x12) []
      (.p .add [.p .add [.p .slB [.v 8, .v 10], .call (G' 1) [.ife (.p .mod [.p .div [.v 9, I' 64], I' 2]) (.p .add [.v 11, I' 1]) (.p .sub [.v 11, I' 1])]], .p .slA [.v 8, .p .add [.v 10, I' 4]]]) = .ok (.bytes (u ++ (le4 (other s t) ++ w))) := by
    have k5 : evE (T (n' + 1)) (env9b (.lst (script.map .int)) b x2 x3 x4 x5 x6 (some (.fv (.lst (pl.map plFV)))) (some (.fv (.bytes W))) (some (.fv (.int s))) (some (.fv (.int (u.length : Nat)))) (some (.fv (.int (t : Nat)))) x12) []
      (.call (G' 1) [.ife (.p .mod [.p .div [.v 9, I' 64], I' 2]) (.p .add [.v 11, I' 1]) (.p .sub [.v 11, I' 1])]) = .ok (.bytes (le4 (other s t))) := by
      rw [eE12, eL2, k3, Res.bind_ok, eL1, Res.bind_ok, Res.bind_ok, q11]
    have k6 : evE (T (n' + 1)) (env9b (.lst (script.map .int)) b x2 x3 x4 x5 x6 (some (.fv (.lst (pl.map plFV)))) (some (.fv (.bytes W))) (some (.fv (.int s))) (some (.fv (.int (u.length : Nat)))) (some (.fv (.int (t : Nat)))) x12) [] (.p .slB [.v 8, .v 10]) = .ok (.bytes u) := by
      simp only [eE5, eL2, eL1, eE2, eE1, getV, List.getElem?_cons_succ, List.getElem?_cons_zero, Res.bind_ok, q6]
    have k7 : evE (T (n' + 1)) (env9b (.lst (script.map .int)) b x2 x3 x4 x5 x6 (some (.fv (.lst (pl.map plFV)))) (some (.fv (.bytes W))) (some (.fv (.int s))) (some (.fv (.int (u.length : Nat)))) (some (.fv (.int (t : Nat)))) x12) [] (.p .slA [.v 8, .p .add [.v 10, I' 4]]) = .ok (.bytes w) := by
      simp only [eE5, eL2, eL1, eE2, eE1, getV, List.getElem?_cons_succ, List.getElem?_cons_zero, Res.bind_ok, pP1, q7]
    rw [eE5, eL2, eE5, eL2, k6, Res.bind_ok, eL2, k5, Res.bind_ok, eL1, Res.bind_ok, Res.bind_ok, Res.bind_ok, q13, Res.bind_ok, eL2, k7, Res.bind_ok, eL1, Res.bind_ok, Res.bind_ok, Res.bind_ok, q14]
  rw [k4, tE1]
  dsimp only
  show resV (exSs _ (env9b _ b x2 x3 x4 x5 x6 (some (.fv (.lst (pl.map plFV)))) (some (.fv (.bytes W))) (some (.fv (.int s))) (some (.fv (.int (u.length : Nat)))) (some (.fv (.int (t : Nat)))) (some (.fv (.bytes (u ++ (le4 (other s t) ++ w)))))) _) = _
  have k8 : evEs (T (n' + 1)) (env9b (.lst (script.map .int)) b x2 x3 x4 x5 x6 (some (.fv (.lst (pl.map plFV)))) (some (.fv (.bytes W))) (some (.fv (.int s))) (some (.fv (.int (u.length : Nat)))) (some (.fv (.int (t : Nat)))) (some (.fv (.bytes (u ++ (le4 (other s t) ++ w)))))) []
      [.p .mkTup [.v 12, .p .slB [.v 8, .p .mod [.v 9, .p .len [.v 8]]], .p .add [.v 8, B' [0]]]] = .ok [.tup [.bytes (u ++ (le4 (other s t) ++ w)), .bytes (W.take k), .bytes (W ++ [0])]] := by
    simp only [eE5, eL2, eL1, eE2, eE1, getV, List.getElem?_cons_succ, List.getElem?_cons_zero, Res.bind_ok, pP26, q5, q8, q15, pP39, List.length_cons, List.length_nil]
    rfl
  rw [bB2, sS13, eE5, eL2, three k8 v1 v2 v3, Res.bind_ok, eL2, eE5, eL2, eE1, eL2, eE1, eL2, eE1, eL1]
  simp only [Res.bind_ok, pP40, List.length_cons, List.length_nil]
  rfl
end Mine
end

section
open PySem
namespace Mine
abbrev midB9 : List CS := [.frz 2, .set 5 (.call (G' 3) [I' 3, .v 2]), .ml2 6 7, .callR (G' 7) [.v 5, I' 0] [6, 7], .frz 6, .frz 7, .set 8 (.p .join [.v 6]),
  .ite (.or (.p .ne [.call (G' 10) [.call (G' 6) [.v 5]], .v 8]) (.p .not [.call (G' 8) [.call (G' 24) [.v 8], .v 5]])) [.ret (.k (.bool false))] []]
theorem mid9 {m n : Nat} {ps : Nds} (R : Root m ps) (hn : 3 * m + 20 ≤ n) {sc : FV} {b : Int} {x3 x4 : Option LV} :
    exSs (T n) (env9 sc b ps.fvs x3 x4) midB9 = .ok .next (env9b sc b (some (.fv (.lst ps.fvs))) x3 x4 (some (.fv (Nd.box true ps).fv)) (some (.fv (.lst ((Nd.box true ps).outs.map .bytes)))) (some (.fv (.lst (((Nd.box true ps).places 0).map plFV)))) (some (.fv (.bytes (Nd.box true ps).enc))) Option.none Option.none Option.none Option.none) := by
  have ok := R.ok
  rw [Nd.Ok] at ok
  have hz := R.size
  have hlen := R.len
  have hdep := R.dep
  obtain ⟨n', rfl⟩ : ∃ k, n = k + 2 := ⟨n - 2, by omega⟩
  have h3 : cv (n' + 2) 3 [.int 3, .lst ps.fvs] = .ok (Nd.box true ps).fv := @box_ok (n' + 1) true ps (by omega)
  have hd : (Nd.box true ps).dep ≤ n' := by rw [Nd.dep]; omega
  have hlay := lay_ok R.ok hd 0 [] [] (by rw [Nd.size]; simp; omega) (by rw [Nd.size]; simp; omega)
  obtain ⟨o0, o1, hlay⟩ := hlay
  rw [List.nil_append, List.nil_append] at hlay
  have hval : cv (n' + 2) 6 [(Nd.box true ps).fv] = .ok (Nd.box true ps).val := val_ok R.ok (by rw [Nd.dep]; omega)
  have henc := @encode_ok m (n' + 2) ps R.ok R.arr (fun p hp => (mem_dshp R.shp p hp).1) (by omega) R.dep (by omega)
  have hdec := @decode_ok m (n' + 2) ps R.ok R.shp (by omega) R.dep (by omega)
  have hlike : cv (n' + 2) 8 [(Nd.box true ps).dec, (Nd.box true ps).fv] = .ok (.bool true) := like_ok R.ok (by rw [Nd.dep]; omega)
  have hjoin : evP .join [.lst ((Nd.box true ps).outs.map .bytes)] = .ok (.bytes (Nd.box true ps).enc) := by
    have hf := outs_flat (.box true ps)
    rw [join_ok (by rw [hf, hlen]; unfold big; omega), hf]
  generalize (Nd.box true ps).fv = F at *
  generalize (Nd.box true ps).val = V at *
  generalize (Nd.box true ps).dec = D at *
  generalize (Nd.box true ps).enc = W at *
  generalize (Nd.box true ps).outs.map FV.bytes = O at *
  generalize ((Nd.box true ps).places 0).map plFV = L at *
  rw [bB2, sS16 (l := ps.fvs) rfl]
  dsimp only
  show exSs _ (env9b sc b (some (.fv (.lst ps.fvs))) x3 x4 Option.none Option.none Option.none Option.none Option.none Option.none Option.none Option.none) _ = _
  rw [bB2, sS2]
  have k1 : ∀ ρ : Env', ρ[2]? = some (some (.fv (.lst ps.fvs))) → evE (T (n' + 2)) ρ [] (.call (G' 3) [I' 3, .v 2]) = .ok F := fun ρ h => by
    simp only [eE12, eL2, eL1, eE2, eE1, getV, h, Res.bind_ok, h3]
  rw [k1 _ rfl, tE1]
  dsimp only
  show exSs _ (env9b sc b (some (.fv (.lst ps.fvs))) x3 x4 (some (.fv F)) Option.none Option.none Option.none Option.none Option.none Option.none Option.none) _ = _
  rw [bB2, sS5]
  dsimp only
  show exSs _ (env9b sc b (some (.fv (.lst ps.fvs))) x3 x4 (some (.fv F)) (some (.ml [])) (some (.ml [])) Option.none Option.none Option.none Option.none Option.none) _ = _
  have k2 : exS (T (n' + 2)) (env9b sc b (some (.fv (.lst ps.fvs))) x3 x4 (some (.fv F)) (some (.ml [])) (some (.ml [])) Option.none Option.none Option.none Option.none Option.none) (.callR (G' 7) [.v 5, I' 0] [6, 7]) =
      .ok .next (env9b sc b (some (.fv (.lst ps.fvs))) x3 x4 (some (.fv F)) (some (.ml O)) (some (.ml L)) Option.none Option.none Option.none Option.none Option.none) := by
    have hv : evEs (T (n' + 2)) (env9b sc b (some (.fv (.lst ps.fvs))) x3 x4 (some (.fv F)) (some (.ml [])) (some (.ml [])) Option.none Option.none Option.none Option.none Option.none) [] [.v 5, I' 0] = .ok [F, .int 0] := by
      simp only [eL2, eL1, eE2, eE1, getV, List.getElem?_cons_succ, List.getElem?_cons_zero, Res.bind_ok]
    exact sS19 (g := .gl 7) (ls := [LV.ml [], LV.ml []]) eE1 hv rfl hlay rfl
  rw [bB2, k2]
  dsimp only
  rw [bB2, sS16 (l := O) rfl]
  dsimp only
  show exSs _ (env9b sc b (some (.fv (.lst ps.fvs))) x3 x4 (some (.fv F)) (some (.fv (.lst O))) (some (.ml L)) Option.none Option.none Option.none Option.none Option.none) _ = _
  rw [bB2, sS16 (l := L) rfl]
  dsimp only
  show exSs _ (env9b sc b (some (.fv (.lst ps.fvs))) x3 x4 (some (.fv F)) (some (.fv (.lst O))) (some (.fv (.lst L))) Option.none Option.none Option.none Option.none Option.none) _ = _
  rw [bB2, sS2]
  have k3 : ∀ ρ : Env', ρ[6]? = some (some (.fv (.lst O))) → evE (T (n' + 2)) ρ [] (.p .join [.v 6]) = .ok (.bytes W) := fun ρ h => by
    simp only [eE5, eL2, eL1, eE2, eE1, getV, h, Res.bind_ok, hjoin]
  rw [k3 _ rfl, tE1]
  dsimp only
  show exSs _ (env9b sc b (some (.fv (.lst ps.fvs))) x3 x4 (some (.fv F)) (some (.fv (.lst O))) (some (.fv (.lst L))) (some (.fv (.bytes W))) Option.none Option.none Option.none Option.none) _ = _
  rw [bB2, sS10]
  have k4 : ∀ ρ : Env', ρ[5]? = some (some (.fv F)) → ρ[8]? = some (some (.fv (.bytes W))) → evE (T (n' + 2)) ρ [] (.or (.p .ne [.call (G' 10) [.call (G' 6) [.v 5]], .v 8]) (.p .not [.call (G' 8) [.call (G' 24) [.v 8], .v 5]])) = .ok (.bool false) := fun ρ h5 h8 => by
    simp only [eE7, eE5, eE12, eL2, eL1, eE2, eE1, getV, h5, h8, Res.bind_ok, hval, henc, hdec, hlike, pP17, pP25, tr1, bne_self_eq_false, Bool.not_true]
  rw [k4 _ rfl rfl, tE1, tr1]
  dsimp only
  rw [bB1]
  dsimp only
  rw [bB1]
/-- the law -/
theorem law_true {n : Nat} (hn : 60 ≤ n) (script : List Int) : cv n 9 [.lst (script.map .int)] = .ok (.bool true) := by
  obtain ⟨n, rfl⟩ : ∃ k, n = k + 6 := ⟨n - 6, by omega⟩
  have R := root_good (l := script.take 7) (by rw [List.length_take]; omega)
  rw [cv_eq (ρ := env9b (.lst (script.map .int)) 0 Option.none Option.none Option.none Option.none Option.none Option.none Option.none Option.none Option.none Option.none Option.none |>.set 1 Option.none) rfl rfl]
  have hpre : exSs (T (n + 5)) ((env9b (.lst (script.map .int)) 0 Option.none Option.none Option.none Option.none Option.none Option.none Option.none Option.none Option.none Option.none Option.none).set 1 Option.none) (f9.body.take 2) = .ok .next (env9 (.lst (script.map .int)) ((104 : Nat) : Int) [] Option.none Option.none) := by
    simp [f9, setV]
  have q1 : evP .slB [.lst (script.map .int), .int 7] = .ok (.lst ((script.take 7).map .int)) := by
    rw [pP38, List.map_take]; rfl
  obtain ⟨b', y3, y4, hloop⟩ := @loop9 n (.lst (script.map .int)) (script.take 7) 104 [] Option.none Option.none (by omega) (by rw [List.length_take]; simp; omega)
  rw [List.nil_append, List.length_nil] at hloop
  have hfor : exSs (T (n + 5)) (env9 (.lst (script.map .int)) ((104 : Nat) : Int) [] Option.none Option.none) ((f9.body.drop 2).take 1) = .ok .next (env9 (.lst (script.map .int)) b' (fields 0 104 (script.take 7)).fvs y3 y4) := by
    show exSs (T (n + 5)) _ [.for [3] .lst [.p .slB [.v 0, I' 7]] body9] = _
    rw [bB2, sS12]
    have hs : (evEs (T (n + 5)) (env9 (.lst (script.map .int)) ((104 : Nat) : Int) [] Option.none Option.none) [] [.p .slB [.v 0, I' 7]]).bind (srcItems .lst) = .ok ((script.take 7).map .int) := by
      simp only [eL2, eL1, eE5, eE2, eE1, getV, List.getElem?_cons_zero, Res.bind_ok, q1, sI3]
    rw [hs]
    dsimp only
    rw [show (if [3].length = 1 then 0 else [3].length) = 0 from rfl, hloop]
    dsimp only
    rw [bB1]
  have hsplit : f9.body = f9.body.take 2 ++ ((f9.body.drop 2).take 1 ++ (midB9 ++ tailB9)) := rfl
  rw [hsplit, app_ok hpre, app_ok hfor, app_ok (mid9 R (by omega))]
  exact tail9 R (by omega)
end Mine
end

section
open PySem PySem.W PySem.Calls PyProof.Rows
namespace Mine
theorem has_int {R : WRecords} {x : WData} (h : WShape.has R x .int = true) : ∃ i, x = .int i := by
  cases x <;> first | exact ⟨_, rfl⟩ | (simp [WShape.has, WShape.arms] at h)
theorem items_int {R : WRecords} : ∀ {xs : List WData}, WShape.hasItems R xs .int = true → ∃ ns : List Int, xs = ns.map .int
  | [], _ => ⟨[], rfl⟩
  | x :: xs, h => by
    unfold WShape.hasItems at h
    rw [Bool.and_eq_true] at h
    obtain ⟨i, rfl⟩ := has_int h.1
    obtain ⟨ns, rfl⟩ := items_int h.2
    exact ⟨i :: ns, rfl⟩
theorem args_list {R : WRecords} {args : List WData} (h : WShape.hasAll R args [.list .int] = true) : ∃ ns : List Int, args = [.list (ns.map .int)] := by
  obtain ⟨d, r, rfl, h1, h2⟩ := hasAllW_cons h
  have := hasAllW_nil h2
  subst this
  cases d <;> first | (simp [WShape.has, WShape.arms] at h1; done) | skip
  rename_i xs
  have h3 : WShape.hasItems R xs .int = true := by simpa [WShape.has, WShape.arms] using h1
  obtain ⟨ns, rfl⟩ := items_int h3
  exact ⟨ns, rfl⟩
theorem reads_ints {K : Cfg} {R : WRecords} {cl : Str → Option Addr} {h : Heap} : ∀ {ns : List Int} {vs : List Value} {as : List Addr}, ReadsAllW R cl h vs (ns.map .int) as → RVs K h N0 (ns.map .int) vs
  | [], vs, as, r => by cases r; rfl
  | n :: ns, vs, as, r => by
    cases r with
    | cons r1 r2 =>
      cases r1 with
      | int i t => exact ⟨_, _, rfl, ⟨t, rfl⟩, reads_ints r2⟩
theorem pre_len {R : WRecords} {xs : List WData} (h : (OpenLaw.pre PySem.Challenge.rw_fw0046_01).holds R { args := [.list xs] } = true) : xs.length ≤ 63 := by
  have e : OpenLaw.pre PySem.Challenge.rw_fw0046_01 = .and (.not (.lt (.lit (.int 63)) (.len (.arg 0)))) (.lit (.bool true)) := rfl
  rw [e] at h
  have l1 : (WTm.len (.arg 0)).value R { args := [.list xs] } = some (.int xs.length) := rfl
  have l2 : (WTm.lt (.lit (.int 63)) (.len (.arg 0))).value R { args := [.list xs] } = some (.bool (decide ((63 : Int) < (xs.length : Int)))) := rfl
  have l3 : (WTm.not (.lt (.lit (.int 63)) (.len (.arg 0)))).value R { args := [.list xs] } = some (.bool (!(decide ((63 : Int) < (xs.length : Int))))) := rfl
  have e2 : (WTm.and (.not (.lt (.lit (.int 63)) (.len (.arg 0)))) (.lit (.bool true))).value R { args := [.list xs] } = (match (WTm.not (.lt (.lit (.int 63)) (.len (.arg 0)))).value R { args := [.list xs] } with
    | some (.bool false) => some (.bool false)
    | some (.bool true) => (match (some (WData.bool true) : Option WData) with
      | some (.bool x) => some (.bool x)
      | _ => none)
    | _ => none) := rfl
  rw [l3] at e2
  by_cases q : (63 : Int) < (xs.length : Int)
  · exfalso
    unfold WTm.holds at h
    rw [e2] at h
    simp [q] at h
  · omega
theorem law_walk (hO3 : ∀ K, Base K → Ok3 K) : WalkO q0 loose0 (fun _ _ => True) (Hook.says hkF) row0.toRowW dLaw.1 dLaw.2 (fun f vs => PySem.call f vs) := by
  intro w s₀ s₁ mg mb G Y a o pm cd doc dV kV ho hd hcd hD hmg hg args vals as hpre hlay hrd hwl hlo
  obtain ⟨hA, hH⟩ := pre_splitW hpre
  obtain ⟨ns, rfl⟩ := args_list (show WShape.hasAll _ args [.list .int] = true from hA)
  have hlen := pre_len hH
  rw [List.length_map] at hlen
  cases hrd with
  | cons r1 r2 =>
    cases r2
    cases r1 with
    | list ho' hc' hd' hr' =>
      rename_i la lo lvs ln las
      have Bs : Base ⟨PySem.Challenge.pw_fw0046_01, w, s₁.heap, gA, 196, mg, mb⟩ := {
        prog := rfl
        inn := kIn_of Y
        g := G.T.g
        b := G.T.b
        bt := G.T.builtins
        lim := G.T.nolimit
        G := rfl
        cc := rfl
        fns := fun name d kwd e => G.fn e
        own := by
          obtain ⟨C, O, _⟩ := G.T.ownAt (x := Str.ofString "InvalidBSON") (newId := "Exception.__new__") (bm := [.type "Exception", .type "BaseException", .type "object"]) (by kernel_rfl)
          exact ⟨C, O⟩ }
      obtain ⟨CO, CR⟩ := calls (ok_of Bs) (ok2_of Bs) (hO3 _ Bs) Bs.lim (fn_all Bs) 60
      obtain ⟨fd, body, nm, F⟩ := fn_all Bs 9 f9 rfl
      have hcv := law_true (n := 61) (by omega) ns
      have hr : ∃ outs, runFn (callN fnT 60) f9 [.fv (.lst (ns.map .int))] = .ok (.bool true, outs) := by
        have e : cv 61 9 [.lst (ns.map .int)] = (runFn (callN fnT 60) f9 [.fv (.lst (ns.map .int))]).bind fun r => .ok r.1 := rfl
        rw [e] at hcv
        cases q : runFn (callN fnT 60) f9 [.fv (.lst (ns.map .int))] with
        | ok r =>
          obtain ⟨v, outs⟩ := r
          rw [q] at hcv
          cases hcv
          exact ⟨outs, rfl⟩
        | exc k => rw [q] at hcv; cases hcv
        | no => rw [q] at hcv; cases hcv
      obtain ⟨outs, hr⟩ := hr
      have hG : (.ref a : Value) = gA 9 := by
        obtain ⟨x, e, r⟩ := gt_ok Bs (Str.ofString "law") (.gl 9) rfl
        have e' : mg (Str.ofString "law") = some x := e
        have hn : dLaw.1.name = Str.ofString "law" := defOf_name hdef0
        rw [hn, e'] at hmg
        cases hmg
        exact r
      show wpAny _ callerA (PySem.call (.ref a) _) _ _ _
      rw [hG]
      refine fn_top (K := ⟨PySem.Challenge.pw_fw0046_01, w, s₁.heap, gA, 196, mg, mb⟩) (ok_of Bs) (ok2_of Bs) (hO3 _ Bs) Bs.lim CO CR F (fun _ _ e => e) rfl rfl ⟨by decide, by decide⟩ rfl ?_ hr fun y h' tk hk ry => ?_
      · refine ⟨by rw [List.length_map]; unfold big; omega, la, lvs.toList, rfl, fun q => q, ⟨lo, ho', hc', ln, hd'⟩, reads_ints hr'⟩
      · have ry' : y = .bool true := ry
        subst ry'
        exact GoodW.toG ⟨.inl ⟨.bool true, .bool true, [], rfl, fun _ => rfl, .bool true, by kernel_rfl, fun _ => ⟨List.nodup_nil, fun _ h => (nomatch h)⟩⟩, hk, rfl, hg⟩
end Mine
end

section
open PySem PySem.W PySem.Calls PyProof.Rows
namespace Mine
def main.tw3570300971023340979 : Nat := 0
def main.tw15992176521860857939 : Nat := 0
def main.tw9899280244813981974 : Nat := 0
def main.tw13572980719466306388 : Nat := 0
def main.tw17972001132496387921 : Nat := 0
def main.tw14874008761501241426 : Nat := 0
def main.tw17985968254628205384 : Nat := 0
def main.tw11146036934107921236 : Nat := 0
def main.tw18072910330486901160 : Nat := 0
def main.tw6909042917933305093 : Nat := 0
def main.tw4561105241695004074 : Nat := 0
def main.tw8610315236036937458 : Nat := 0
def main.tw4232100256623113705 : Nat := 0
def main.tw9488428017035680116 : Nat := 0
def main.tw5370977553668524713 : Nat := 0
def main.tw4349661683990043111 : Nat := 0
def main.tw18083267289459778378 : Nat := 0
def main.tw3938019374604804178 : Nat := 0
def main.tw12963715034210261037 : Nat := 0
def main.tw5745152513503078676 : Nat := 0
def main.tw1830260536990523401 : Nat := 0
def main.tw4556463582341044171 : Nat := 0
def main.tw1416440070973091865 : Nat := 0
def main.tw2297371629158037758 : Nat := 0
def main.tw7331632046962926219 : Nat := 0
def main.tw8650628079126297760 : Nat := 0
def main.tw1199868925079314726 : Nat := 0
def main.tw2603640857327449932 : Nat := 0
def main.tw15086497620207942948 : Nat := 0
def main.tw3476555943912930036 : Nat := 0
def main.tw15871286484820031999 : Nat := 0
def main.tw2086188434714876871 : Nat := 0
def main.tw6786827965737455459 : Nat := 0
def main.tw10671901974375515832 : Nat := 0
def main.tw207771821327280017 : Nat := 0
def main.tw5459814026608534427 : Nat := 0
def main.tw3848219543550530271 : Nat := 0
def main.tw18331221812102454955 : Nat := 0
def main.tw1309525014197594016 : Nat := 0
def main.tw10575938268606957892 : Nat := 0
def main.tw8491447545884216425 : Nat := 0
def main.tw9417609850196188440 : Nat := 0
def main.tw15934611914336285628 : Nat := 0
def main.tw15432592513211302459 : Nat := 0
def main.tw11730020274386570733 : Nat := 0
set_option Elab.async true in
set_option maxHeartbeats 40000000 in
theorem main : PySem.Challenge.rw_fw0046_01.Holds := by
  w_on
  o_law
  o_head hkF
  case hw => exact ⟨[.list []], by decide +kernel, by decide +kernel⟩
  exact law_walk (fun K Bs => ok3_of Bs)
end Mine
end

theorem PySem.Challenge.cw_fw0046_01_holds : PySem.Challenge.rw_fw0046_01.Holds :=
  Mine.main
