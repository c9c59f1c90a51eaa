/-
  A small executor of straight code, and that it is sound: the first part. No condition.
-/
import Derived.Test.YtiegapnfbeemcaaGreatDoorA05
import Derived.Below
import Derived.Laws.Sem
import Derived.Laws.Cells
import Derived.Laws.Slices
import Derived.Laws.MakeOwn
namespace Go.Proofs.YtiegapnfbeemcaaGreatDoor.X
set_option maxRecDepth 100000
open Go.RowKit

/-- A capacity from here on is a lower bound alone. -/
def BIG : Nat := 4294967296
/-- The temporaries. -/
inductive Tr where
  | nil
  | leaf (v : Value)
  | node (l r : Tr)
def Tr.get : Nat → Tr → Nat → Option Value
  | 0, .leaf v, i => if Nat.beq i 0 then some v else none
  | n + 1, .node l r, i => match Nat.beq (i % 2) 0 with
    | true => l.get n (i / 2)
    | false => r.get n (i / 2)
  | _, _, _ => none
def Tr.setK {β : Type} : Nat → Tr → Nat → Value → (Tr → β) → β
  | 0, _, _, v, k => k (.leaf v)
  | n + 1, .node l r, i, v, k => match Nat.beq (i % 2) 0 with
    | true => l.setK n (i / 2) v fun l' => k (.node l' r)
    | false => r.setK n (i / 2) v fun r' => k (.node l r')
  | n + 1, _, i, v, k => match Nat.beq (i % 2) 0 with
    | true => Tr.nil.setK n (i / 2) v fun l' => k (.node l' .nil)
    | false => Tr.nil.setK n (i / 2) v fun r' => k (.node .nil r')
def DEP : Nat := 9

/-- The kernel shall reckon a number at once. -/
def natK {β : Type} (n : Nat) (k : Nat → β) : β := match n with
  | 0 => k 0
  | m + 1 => k (Nat.succ m)
def intK {β : Type} (n : Int) (k : Int → β) : β := match n with
  | .ofNat m => natK m fun m => k (.ofNat m)
  | .negSucc m => natK m fun m => k (.negSucc m)
def valK {β : Type} (v : Value) (k : Value → β) : β := match v with
  | .int kd n => intK n fun n => k (.int kd n)
  | .bool true => k (.bool true)
  | .bool false => k (.bool false)
  | .pointer (some ⟨b, o, none⟩) => natK b fun b => natK o fun o => k (.pointer (some ⟨b, o, none⟩))
  | .slice (some ⟨b, o, none⟩) n c => natK b fun b => natK o fun o => natK n fun n => natK c fun c => k (.slice (some ⟨b, o, none⟩) n c)
  | v => k v

/-- A block; one that an append may have gone on in is dead. -/
structure Blk where
  ty : Nat
  cells : List Value
  live : Bool := true
abbrev Heap := List Blk
abbrev Dfr := List (Nat × List Value)
structure St where
  T : Tr
  H : Heap
  D : Dfr
def setLK {α β : Type} : List α → Nat → α → (List α → β) → β
  | [], _, _, k => k []
  | _ :: xs, 0, v, k => k (v :: xs)
  | x :: xs, i + 1, v, k => setLK xs i v fun ys => k (x :: ys)
def pushK {α β : Type} : List α → α → (List α → β) → β
  | [], v, k => k [v]
  | x :: xs, v, k => pushK xs v fun ys => k (x :: ys)
def getL {α : Type} : List α → Nat → Option α
  | [], _ => none
  | x :: _, 0 => some x
  | _ :: xs, i + 1 => getL xs i
def cellX (H : Heap) (b o : Nat) : Option Value := match getL H b with
  | some B => getL B.cells o
  | none => none
def putX {β : Type} (H : Heap) (b o : Nat) (v : Value) (k : Heap → Option β) : Option β := match getL H b with
  | some B => match getL B.cells o with
    | some _ => setLK B.cells o v fun cs => setLK H b ⟨B.ty, cs, B.live⟩ k
    | none => none
  | none => none
/-- A value of one cell, no pointer in it. -/
def flat : Value → Bool
  | .bool _ | .int _ _ | .string _ | .pointer none | .slice none _ _ | .nilIface => true
  | _ => false
/-- A value of one cell. -/
def one : Value → Bool
  | .bool _ | .int _ _ | .string _ | .pointer _ | .slice _ _ _ | .nilIface => true
  | .iface _ v => flat v || match v with
    | .pointer _ => true
    | _ => false
  | _ => false
def M64 : Nat := 18446744073709551616
def M63 : Nat := 9223372036854775808
/-- Numbers without a sign below a bound. -/
def modX : IntKind → Option Nat
  | .u64 => some 18446744073709551616
  | .u32 => some 4294967296
  | .u8 => some 256
  | _ => none
def wrapX (k : IntKind) (n : Int) : Option Int :=
  match k, n with
  | .u64, .ofNat m => some (.ofNat (m % 18446744073709551616))
  | .u32, .ofNat m => some (.ofNat (m % 4294967296))
  | .u8, .ofNat m => some (.ofNat (m % 256))
  | .u64, .negSucc m => some (.ofNat (18446744073709551615 - m % 18446744073709551616))
  | .i64, .ofNat m => if Nat.blt m 9223372036854775808 then some (.ofNat m) else none
  | .i64, .negSucc m => if Nat.blt m 9223372036854775808 then some (.negSucc m) else none
  | _, _ => none
/-- Both without a sign. -/
def natX (op : BinOp) (k : IntKind) (M x y : Nat) : Option Value :=
  match op with
  | .add => some (.int k (.ofNat ((x + y) % M)))
  | .sub => if Nat.ble y M then some (.int k (.ofNat ((x + (M - y)) % M))) else none
  | .mul => some (.int k (.ofNat ((x * y) % M)))
  | .quo => if Nat.beq y 0 then none else if Nat.blt x M then some (.int k (.ofNat (x / y))) else none
  | .rem => if Nat.beq y 0 then none else some (.int k (.ofNat (x % y)))
  | .and => if Nat.blt x M && Nat.blt y M then some (.int k (.ofNat (Nat.land x y))) else none
  | .or => if Nat.blt x M && Nat.blt y M then some (.int k (.ofNat (Nat.lor x y))) else none
  | .xor => if Nat.blt x M && Nat.blt y M then some (.int k (.ofNat (Nat.xor x y))) else none
  | .andNot => if Nat.blt x M && Nat.blt y M then some (.int k (.ofNat (Nat.xor x (Nat.land x y)))) else none
  | _ => none
def shlX (x : Nat) (y : Int) : Option Value :=
  match y with
  | .ofNat n => if Nat.blt n 64 then some (.int .u64 (.ofNat ((x * 2 ^ n) % 18446744073709551616))) else some (.int .u64 (.ofNat 0))
  | _ => none
def shrX (x : Nat) (y : Int) : Option Value :=
  match y with
  | .ofNat n => if Nat.blt x 18446744073709551616 then (if Nat.blt n 64 then some (.int .u64 (.ofNat (x / 2 ^ n))) else some (.int .u64 (.ofNat 0))) else none
  | _ => none
def retI (k : IntKind) : Option Int → Option Value
  | some n => some (.int k n)
  | none => none
/-- Both with a sign. -/
def sigX (op : BinOp) (x y : Int) : Option Value :=
  match op with
  | .add => retI .i64 (wrapX .i64 (x + y))
  | .sub => retI .i64 (wrapX .i64 (x - y))
  | .mul => retI .i64 (wrapX .i64 (x * y))
  | .quo => match x, y with
    | .ofNat a, .ofNat b => if Nat.beq b 0 then none else retI .i64 (wrapX .i64 (.ofNat (a / b)))
    | _, _ => none
  | .rem => match x, y with
    | .ofNat a, .ofNat b => if Nat.beq b 0 then none else some (.int .i64 (.ofNat (a % b)))
    | _, _ => none
  | .and => match x, y with
    | .ofNat a, .ofNat b => if Nat.blt a 9223372036854775808 && Nat.blt b 9223372036854775808 then some (.int .i64 (.ofNat (Nat.land a b))) else none
    | _, _ => none
  | .andNot => match x, y with
    | .ofNat a, .ofNat b => if Nat.blt a 9223372036854775808 && Nat.blt b 9223372036854775808 then some (.int .i64 (.ofNat (Nat.xor a (Nat.land a b)))) else none
    | _, _ => none
  | _ => none
/-- Whether two numbers are equal; whether the first is the less. -/
def eqI : Int → Int → Bool
  | .ofNat a, .ofNat b => Nat.beq a b
  | .negSucc a, .negSucc b => Nat.beq a b
  | _, _ => false
def ltI : Int → Int → Bool
  | .ofNat a, .ofNat b => Nat.blt a b
  | .negSucc a, .negSucc b => Nat.blt b a
  | .negSucc _, .ofNat _ => true
  | .ofNat _, .negSucc _ => false
def cmpX (op : BinOp) (x y : Int) : Option Value :=
  match op with
  | .eql => some (.bool (eqI x y))
  | .neq => some (.bool (!eqI x y))
  | .lss => some (.bool (ltI x y))
  | .leq => some (.bool (!ltI y x))
  | .gtr => some (.bool (ltI y x))
  | .geq => some (.bool (!ltI x y))
  | _ => none
def intX (op : BinOp) (k : IntKind) (x : Int) (l : IntKind) (y : Int) : Option Value :=
  match op with
  | .shl => match k, x with
    | .u64, .ofNat a => shlX a y
    | _, _ => none
  | .shr => match k, x with
    | .u64, .ofNat a => shrX a y
    | _, _ => none
  | op => if k = l then match cmpX op x y with
    | some v => some v
    | none => match k, modX k, x, y with
      | .i64, _, x, y => sigX op x y
      | k, some M, .ofNat a, .ofNat b => natX op k M a b
      | _, _, _, _ => none else none
def unX (op : UnOp) (v : Value) : Option Value :=
  match op, v with
  | .not, .bool b => some (.bool (!b))
  | .neg, .int .i64 n => retI .i64 (wrapX .i64 (-n))
  | .xor, .int .u64 (.ofNat n) => if Nat.blt n 18446744073709551616 then some (.int .u64 (.ofNat (18446744073709551615 - n))) else none
  | _, _ => none
/-- Of what kind the numbers of a type are. -/
def kindX : Nat → Option IntKind
  | 2 => some .i64
  | 3 => some .i64
  | 5 => some .u8
  | 24 => some .u32
  | 47 => some .u64
  | 59 => some .u64
  | 137 => some .u64
  | _ => none
def convX (s d : Nat) (n : Int) : Option Value :=
  match kindX s, kindX d with
  | some _, some k => retI k (wrapX k n)
  | _, _ => none
def atX (s : ByteArray) (i : Int) : Option Value :=
  match i with
  | .ofNat j => match getL s.data.toList j with
    | some b => some (.int .u8 (.ofNat b.toNat))
    | none => none
  | _ => none
def evX (T : Tr) : Operand → Option Value
  | .tmp t => T.get DEP t
  | .const v => if flat v then some v else none
  | .global 2 => some (.pointer (some ⟨0, 0, none⟩))
  | .global 5 => some (.pointer (some ⟨1, 0, none⟩))
  | .global 6 => some (.pointer (some ⟨2, 0, none⟩))
  | _ => none
/-- The types of one cell that are loaded and stored. -/
def cellT (t : Nat) : Bool := [2, 3, 4, 5, 9, 24, 51, 74, 106, 107, 120, 137, 192].any (Nat.beq t)
/-- Zero cells of the types of more cells than one (each field one cell). -/
def zeroX (t : Nat) : Option (List Value) :=
  match t with
  | 109 => some [.bool false, .slice none 0 0]
  | 165 => some [.string ⟨#[]⟩, .int .i64 0, .int .i64 0]
  | 194 => some [.pointer none]
  | 198 => some [.slice none 0 0]
  | 142 => some [.pointer none, .pointer none, .pointer none, .pointer none, .pointer none, .int .i64 0, .string ⟨#[]⟩]
  | 122 => some (.pointer none :: .pointer none :: List.replicate 36 (.int .u32 0))
  | 72 => some [.int .u32 0, .int .u32 0, .int .u32 0, .int .u32 0, .int .u32 0, .int .u32 0, .int .u32 0, .int .u32 0, .int .u32 0]
  | _ => none
def fieldX (t i : Nat) : Option Nat :=
  match t with
  | 109 => if i < 2 then some i else none
  | 165 => if i < 3 then some i else none
  | 194 => if i < 1 then some i else none
  | 198 => if i < 1 then some i else none
  | 142 => if i < 7 then some i else none
  | 122 => getL [0, 1, 2, 11, 20, 29] i
  | _ => none
def elemX (t : Nat) : Option (Nat × Value) :=
  match t with
  | 106 => some (137, .int .u64 0)
  | 107 => some (137, .int .u64 0)
  | 22 => some (5, .int .u8 0)
  | _ => none
def fillX (cells : List Value) : List (Nat × Value) → Option (List Value)
  | [] => some cells
  | (i, v) :: rest => if one v then (match getL cells i with
    | some _ => setLK cells i v fun cs => fillX cs rest
    | none => none) else none
def evsX (T : Tr) : List Operand → Option (List Value)
  | [] => some []
  | x :: xs => match evX T x, evsX T xs with
    | some v, some vs => some (v :: vs)
    | _, _ => none
def evpX (T : Tr) : List (Nat × Operand) → Option (List (Nat × Value))
  | [] => some []
  | (i, x) :: xs => match evX T x, evpX T xs with
    | some v, some vs => some ((i, v) :: vs)
    | _, _ => none
def repK {β : Type} (v : Value) : Nat → List Value → (List Value → β) → β
  | 0, acc, k => k acc
  | n + 1, acc, k => repK v n (v :: acc) k
def newX {β : Type} (H : Heap) (t : Nat) (cs : List Value) (k : Nat → Heap → Option β) : Option β :=
  natK H.length fun n => pushK H ⟨t, cs, true⟩ fun H => k n H
def liveX (H : Heap) (b : Nat) : Bool := match getL H b with
  | some B => B.live
  | none => false
def samX (H : Heap) (a b : Addr) : Option Bool := match Nat.beq a.block b.block with
  | true => some (Nat.beq a.off b.off)
  | false => if liveX H a.block && liveX H b.block then some false else none
/-- The types of pointers that are compared. -/
def ptrT (t : Nat) : Bool := [74, 152, 155, 192].any (Nat.beq t)
def eqX (H : Heap) (t : Nat) : Value → Value → Option Bool
  | .pointer none, .pointer none => if ptrT t then some true else none
  | .pointer none, .pointer (some _) => if ptrT t then some false else none
  | .pointer (some _), .pointer none => if ptrT t then some false else none
  | .pointer (some a), .pointer (some b) => if ptrT t then samX H a b else none
  | .nilIface, .nilIface => if Nat.beq t 51 then some true else none
  | .nilIface, .iface _ _ => if Nat.beq t 51 then some false else none
  | .iface _ _, .nilIface => if Nat.beq t 51 then some false else none
  | .iface 101 (.pointer (some _)), .iface 101 (.pointer (some _)) => if Nat.beq t 51 then some true else none
  | _, _ => none
def litX : Operand → Bool
  | .const _ => true
  | _ => false
/-- Two nil interfaces are compared only where one of them is written as nil. -/
def nilOk (x y : Operand) : Value → Value → Bool
  | .nilIface, .nilIface => litX x || litX y
  | _, _ => true
def binX (H : Heap) (op : BinOp) (t : Nat) (x y : Value) : Option Value :=
  match op, x, y with
  | op, .int a b, .int c d => intX op a b c d
  | .eql, .bool a, .bool b => if Nat.beq t 4 then some (.bool (a == b)) else none
  | .neq, .bool a, .bool b => if Nat.beq t 4 then some (.bool (a != b)) else none
  | .eql, x, y => match eqX H t x y with
    | some b => some (.bool b)
    | none => none
  | .neq, x, y => match eqX H t x y with
    | some b => some (.bool (!b))
    | none => none
  | _, _, _ => none
def boundX (v : Value) (y : Nat) : Option Nat :=
  match v with
  | .int _ (.ofNat i) => if Nat.ble i y then some i else none
  | _ => none
def evoX (T : Tr) : Option Operand → Option (Option Value)
  | none => some none
  | some x => match evX T x with
    | some v => some (some v)
    | none => none
/-- The lower bound of a capacity. -/
def lowC (c : Nat) : Nat := match Nat.ble BIG c with
  | true => c - BIG
  | false => c
def lowX (lo : Option Value) (h : Nat) : Option Nat :=
  match lo with
  | none => some 0
  | some v => boundX v h
def highX (hi : Option Value) (n y : Nat) : Option Nat :=
  match hi with
  | none => if Nat.ble n y then some n else none
  | some v => boundX v y
def cutX (b o l h m : Nat) : Value := if m = l then .slice (some ⟨b, o, none⟩) (h - l) 0 else .slice (some ⟨b, o + l, none⟩) (h - l) (m - l)
def sliceX (v : Value) (lo hi mx : Option Value) : Option Value :=
  match v, mx, hi with
  | .slice (some ⟨b, o, none⟩) _ c, some mv, some hv =>
    match boundX mv (lowC c) with
    | none => none
    | some m => match boundX hv m with
      | none => none
      | some h => match lowX lo h with
        | none => none
        | some l => if Nat.blt m BIG then some (cutX b o l h m) else none
  | .slice (some ⟨b, o, none⟩) n c, none, hi =>
    match highX hi n (lowC c) with
    | none => none
    | some h => match lowX lo h with
      | none => none
      | some l => match Nat.ble BIG c with
        | false => some (cutX b o l h c)
        | true => if Nat.beq l 0 || Nat.blt l (lowC c) then some (.slice (some ⟨b, o + l, none⟩) (h - l) (c - l)) else none
  | .slice none n c, none, hi => if Nat.beq n 0 && Nat.beq c 0 then
      match highX hi 0 0 with
      | none => none
      | some h => match lowX lo h with
        | none => none
        | some _ => some (.slice none 0 0)
      else none
  | _, _, _ => none
def readX (H : Heap) (b : Nat) : Nat → Nat → Option (List Value)
  | _, 0 => some []
  | o, n + 1 => match cellX H b o, readX H b (o + 1) n with
    | some v, some vs => some (v :: vs)
    | _, _ => none
def writeX {β : Type} (H : Heap) (b : Nat) : Nat → List Value → (Heap → Option β) → Option β
  | _, [], k => k H
  | o, v :: vs, k => putX H b o v fun H => writeX H b (o + 1) vs k
/-- An append that may go on in place or elsewhere: the elder block is dead. -/
def moveX {β : Type} (H : Heap) (b : Nat) (e : Nat) (cs : List Value) (k : Nat → Heap → Option β) : Option β :=
  match getL H b with
  | some B => if B.live && Nat.beq B.ty e then setLK H b ⟨B.ty, [], false⟩ fun H => newX H e cs k else none
  | none => none
def growX {β : Type} (H : Heap) (e : Nat) (a : Option Addr) (n c : Nat) (ys : List Value) (k : Value → Heap → Option β) : Option β :=
  match Nat.ble (n + ys.length) (lowC c) with
  | true => match a with
    | some ⟨b, o, none⟩ => writeX H b (o + n) ys fun H => k (.slice (some ⟨b, o, none⟩) (n + ys.length) c) H
    | _ => none
  | false => if Nat.ble (n + ys.length) 1000 then match a with
    | some ⟨b, 0, none⟩ => match Nat.ble BIG c, readX H b 0 n with
      | true, some xs => moveX H b e (xs ++ ys) fun g H => k (.slice (some ⟨g, 0, none⟩) (n + ys.length) (BIG + (n + ys.length))) H
      | _, _ => none
    | none => if Nat.beq n 0 && Nat.beq c 0 then newX H e ys fun g H => k (.slice (some ⟨g, 0, none⟩) ys.length (BIG + ys.length)) H else none
    | _ => none
    else none
def isPureB : Builtin → Bool
  | .len => true
  | .cap => true
  | .min => true
  | _ => false
/-- Built-ins that look at no memory. -/
def pureB (b : Builtin) (ts : List Nat) (vs : List Value) : Option Value :=
  match b, ts, vs with
  | .len, [t], [.slice _ n _] => match elemX t with
    | some _ => some (.int .i64 n)
    | none => none
  | .len, [t], [.string s] => if Nat.beq t 9 then some (.int .i64 s.size) else none
  | .cap, [t], [.slice _ _ c] => match elemX t with
    | some _ => if Nat.blt c BIG then some (.int .i64 c) else none
    | none => none
  | .min, _, [.int .i64 x, .int .i64 y] => some (.int .i64 (if ltI y x then y else x))
  | _, _, _ => none
def builtX {β : Type} (b : Builtin) (ts : List Nat) (vs : List Value) (H : Heap) (k : Value → Heap → Option β) : Option β :=
  match b, ts, vs with
  | .len, ts, vs => match pureB .len ts vs with
    | some v => k v H
    | none => none
  | .cap, ts, vs => match pureB .cap ts vs with
    | some v => k v H
    | none => none
  | .min, ts, vs => match pureB .min ts vs with
    | some v => k v H
    | none => none
  | .copy, [t, _], [.slice (some ⟨b, o, none⟩) n _, .slice (some ⟨d, i, none⟩) m _] => match elemX t, readX H d i (Nat.min m n) with
    | some _, some xs => writeX H b o xs fun H => k (.int .i64 (Nat.min m n)) H
    | _, _ => none
  | .clear, [t], [.slice none 0 _] => match elemX t with
    | some _ => k (.tuple #[]) H
    | none => none
  | .clear, [t], [.slice (some ⟨b, o, none⟩) n _] => match elemX t with
    | some (_, z) => repK z n [] fun xs => writeX H b o xs fun H => k (.tuple #[]) H
    | none => none
  | .append, [t, u], [.slice a n c, .int .i64 (.ofNat m)] => match elemX t with
    | some (e, z) => if Nat.beq u 3 && Nat.blt 0 m && Nat.ble m 1000 then repK z m [] fun ys => growX H e a n c ys k else none
    | none => none
  | .append, [t, u], [.slice a n c, .slice (some ⟨d, i, none⟩) m _] => match elemX t, elemX u, readX H d i m with
    | some (e, _), some _, some ys => if Nat.blt 0 m then growX H e a n c ys k else none
    | _, _, _ => none
  | _, _, _ => none
def posC (c : Nat) : Bool := Nat.blt 0 (lowC c)
/-- Whether two rows end in the same cell. -/
def aliasX (H : Heap) : Value → Value → Option Bool
  | .slice (some ⟨b, o, none⟩) _ c, .slice (some ⟨b', o', none⟩) _ c' =>
    if Nat.beq c 0 then some false else if Nat.beq c' 0 then (if posC c then some false else none) else
    if (posC c && posC c') && (!Nat.beq b 3 && !Nat.beq b' 3) then
      match Nat.beq b b' with
      | true => match Nat.ble BIG c, Nat.ble BIG c' with
        | true, true => some true
        | false, false => some (Nat.beq (o + c) (o' + c'))
        | _, _ => none
      | false => if liveX H b && liveX H b' then some false else none
    else none
  | .slice none _ c, .slice _ _ _ => if Nat.beq c 0 then some false else none
  | .slice _ _ c, .slice none _ c' => if posC c && Nat.beq c' 0 then some false else none
  | _, _ => none
def extX (H : Heap) (f : Nat) (vs : List Value) : Option Value :=
  match f, vs with
  | 93, [x, y] => match aliasX H x y with
    | some b => some (.bool b)
    | none => none
  | 144, [.int .u64 (.ofNat x), .int .u64 (.ofNat y), .int .u64 (.ofNat c)] => if Nat.ble c 1 then
      some (.tuple #[.int .u64 (.ofNat ((x + y + c) % 18446744073709551616)), .int .u64 (.ofNat ((x + y + c) / 18446744073709551616))]) else none
  | 146, [.int .u64 (.ofNat x), .int .u64 (.ofNat y), .int .u64 (.ofNat c)] => if Nat.ble c 1 then
      some (.tuple #[.int .u64 (.ofNat ((x + 18446744073709551616 - y - c) % 18446744073709551616)), .int .u64 (if Nat.ble (y + c) x then 0 else 1)]) else none
  | _, _ => none
/-- Functions that are taken as one step. -/
def isExt (f : Nat) : Bool := Nat.beq f 93 || Nat.beq f 144 || Nat.beq f 146
abbrev CallX := Nat → List Value → Heap → Option (Value × Heap)
def tupL (vs : List Value) : Value := .tuple ⟨vs⟩
/-- One operation. -/
def opX {β : Type} (call : CallX) (o : Op) (T : Tr) (H : Heap) (D : Dfr) (k : Value → Heap → Dfr → Option β) : Option β :=
  match o with
  | .move x => match evX T x with
    | some v => k v H D
    | none => none
  | .assign x => match evX T x with
    | some v => k v H D
    | none => none
  | .pick c a b => match evX T c with
    | some (.bool true) => (match evX T a with
      | some v => k v H D
      | none => none)
    | some (.bool false) => (match evX T b with
      | some v => k v H D
      | none => none)
    | _ => none
  | .alloc t => match zeroX t with
    | some cs => newX H t cs fun n H => k (.pointer (some ⟨n, 0, none⟩)) H D
    | none => none
  | .box t x => match zeroX t, evX T x with
    | some zs, some (.agg cs) => if Nat.beq zs.length cs.toList.length && cs.toList.all one then newX H t cs.toList fun n H => k (.pointer (some ⟨n, 0, none⟩)) H D else none
    | _, _ => none
  | .build t ps => match zeroX t, evpX T ps.toList with
    | some zs, some vs => if Nat.beq t 198 || Nat.beq t 122 then none else (match fillX zs vs with
      | some cs => k (.agg ⟨cs⟩) H D
      | none => none)
    | _, _ => none
  | .buildSlice t n ps => match elemX t, evpX T ps.toList with
    | some (e, z), some vs => if Nat.blt 0 n && Nat.ble n 1000 then repK z n [] fun zs => (match fillX zs vs with
      | some cs => newX H e cs fun g H => k (.slice (some ⟨g, 0, none⟩) n n) H D
      | none => none) else none
    | _, _ => none
  | .load t x => match evX T x with
    | some (.pointer (some ⟨b, o, none⟩)) => if cellT t then (match cellX H b o with
      | some v => k v H D
      | none => none) else none
    | _ => none
  | .store t x y => match evX T x, evX T y with
    | some (.pointer (some ⟨b, o, none⟩)), some v => if cellT t && one v then putX H b o v fun H => k (.tuple #[]) H D else none
    | _, _ => none
  | .nilCheck x => match evX T x with
    | some (.pointer (some a)) => k (.pointer (some a)) H D
    | _ => none
  | .binOp op t x y _ => match evX T x, evX T y with
    | some v, some u => if nilOk x y v u then (match binX H op t v u with
      | some r => valK r fun r => k r H D
      | none => none) else none
    | _, _ => none
  | .unOp op _ x => match evX T x with
    | some v => (match unX op v with
      | some r => valK r fun r => k r H D
      | none => none)
    | none => none
  | .convert s d x => match evX T x with
    | some (.int _ n) => (match convX s d n with
      | some r => valK r fun r => k r H D
      | none => none)
    | _ => none
  | .makeInterface t x => match evX T x with
    | some (.pointer (some a)) => if Nat.beq t 139 then k (.iface t (.pointer (some a))) H D else none
    | _ => none
  | .makeSlice t l c => match evX T l, evX T c, elemX t with
    | some (.int .i64 (.ofNat l)), some (.int .i64 (.ofNat c)), some (e, z) => if Nat.ble l c && Nat.ble c 100000 then
        repK z c [] fun cs => newX H e cs fun n H => k (.slice (some ⟨n, 0, none⟩) l c) H D else none
    | _, _, _ => none
  | .slice t x lo hi mx => match elemX t, evX T x, evoX T lo, evoX T hi, evoX T mx with
    | some _, some v, some lo, some hi, some mx => (match sliceX v lo hi mx with
      | some r => valK r fun r => k r H D
      | none => none)
    | _, _, _, _, _ => none
  | .fieldAddr t x i => match evX T x, fieldX t i with
    | some (.pointer (some ⟨b, o, none⟩)), some j => natK (o + j) fun o => k (.pointer (some ⟨b, o, none⟩)) H D
    | _, _ => none
  | .indexAddr t x i => match evX T x, evX T i with
    | some (.slice (some ⟨b, o, none⟩) n _), some (.int _ (.ofNat j)) => (match elemX t with
      | some _ => if Nat.blt j n then natK (o + j) fun o => k (.pointer (some ⟨b, o, none⟩)) H D else none
      | none => none)
    | some (.pointer (some ⟨b, o, none⟩)), some (.int _ (.ofNat j)) => if Nat.beq t 72 && Nat.blt j 9 then natK (o + j) fun o => k (.pointer (some ⟨b, o, none⟩)) H D else none
    | _, _ => none
  | .index t x i => match evX T x, evX T i with
    | some (.string s), some (.int _ n) => if Nat.beq t 9 then (match atX s n with
      | some r => valK r fun r => k r H D
      | none => none) else none
    | _, _ => none
  | .extract x i => match evX T x with
    | some (.tuple vs) => (match getL vs.toList i with
      | some v => k v H D
      | none => none)
    | _ => none
  | .call ⟨.builtin b, args, ts⟩ => match evsX T args.toList with
    | some vs => if vs.all one then (match isPureB b with
      | true => (match pureB b ts.toList vs with
        | some v => valK v fun v => k v H D
        | none => none)
      | false => builtX b ts.toList vs H fun v H => valK v fun v => k v H D) else none
    | none => none
  | .call ⟨.value (.func f), args, _⟩ => match evsX T args.toList with
    | some vs => if vs.all one then (match isExt f with
      | true => (match extX H f vs with
        | some v => k v H D
        | none => none)
      | false => (match call f vs H with
        | some (v, H) => k v H D
        | none => none)) else none
    | none => none
  | .call ⟨.invoke r m, args, _⟩ => match evX T r, evsX T args.toList with
    | some (.iface 139 (.pointer (some a))), some [] => if m == "ReadByte" then (match call 210 [.pointer (some a)] H with
        | some (v, H) => k v H D
        | none => none)
      else if m == "UnreadByte" then (match call 211 [.pointer (some a)] H with
        | some (v, H) => k v H D
        | none => none)
      else none
    | _, _ => none
  | .defer ⟨.value (.func f), args, _⟩ => match evsX T args.toList with
    | some vs => if vs.all one then k (.tuple #[]) H ((f, vs) :: D) else none
    | none => none
  | _ => none
end Go.Proofs.YtiegapnfbeemcaaGreatDoor.X

namespace Go.Proofs.YtiegapnfbeemcaaGreatDoor.X
set_option maxRecDepth 100000
open Go.RowKit

inductive Ex where
  | nor
  | ret
  | out (id : Nat)
def dstX (ops : List Oper) (j : Nat) : Option Nat := match getL ops j with
  | some o => o.dst
  | none => none
def wantX (ops : List Oper) (T : Tr) : Option (Nat × Bool) → Option Bool
  | none => some true
  | some (j, want) => match dstX ops j with
    | some d => match T.get DEP d with
      | some (.bool true) => some want
      | some (.bool false) => some (!want)
      | some (.tuple _) => some false
      | _ => none
    | none => none
def putK {β : Type} (N : Nat) (T : Tr) (d : Option Nat) (v : Value) (k : Tr → Option β) : Option β := match d with
  | some d => match Nat.blt d N with
    | true => T.setK DEP d v k
    | false => none
  | none => k T
def regX (call : CallX) (N : Nat) (ops : List Oper) : List Oper → Tr → Heap → Dfr → Option St
  | [], T, H, D => some ⟨T, H, D⟩
  | o :: rest, T, H, D => match wantX ops T o.guard with
    | some true => opX call o.op T H D fun v H D => putK N T o.dst v fun T => regX call N ops rest T H D
    | some false => putK N T o.dst (.tuple #[]) fun T => regX call N ops rest T H D
    | none => none
/-- Operations that turn memory or what is deferred; operations that look at memory. -/
def isW : Op → Bool
  | .alloc _ => true
  | .box _ _ => true
  | .buildSlice _ _ _ => true
  | .makeSlice _ _ _ => true
  | .store _ _ _ => true
  | .defer _ => true
  | .call ⟨.builtin b, _, _⟩ => !isPureB b
  | .call ⟨.value (.func f), _, _⟩ => !isExt f
  | .call _ => true
  | _ => false
def isR : Op → Bool
  | .load _ _ => true
  | .binOp .eql _ _ _ _ => true
  | .binOp .neq _ _ _ _ => true
  | .call ⟨.value (.func _), _, _⟩ => true
  | _ => false
/-- The same; where loads are known to give the same all along, they are not counted. -/
def isRs (st : Bool) (o : Op) : Bool := match st, o with
  | true, .load _ _ => false
  | _, o => isR o
/-- What stands ahead of an operation in every order. -/
def maskE (acc : List Nat) : List Edge → Nat
  | [] => 0
  | e :: es => match Region.binds .any e with
    | true => Nat.lor (Nat.lor (2 ^ e.on) (match getL acc e.on with
      | some m => m
      | none => 0)) (maskE acc es)
    | false => maskE acc es
def masksX : List Oper → List Nat → List Nat
  | [], acc => acc
  | o :: l, acc => natK (maskE acc o.after.toList) fun m => pushK acc m fun acc => masksX l acc
def bitX (ms : List Nat) (j i : Nat) : Bool := match getL ms j with
  | some m => m.testBit i
  | none => false
def readsT (t : Nat) : List Operand → Bool
  | [] => false
  | .tmp u :: l => match Nat.beq t u with
    | true => true
    | false => readsT t l
  | _ :: l => readsT t l
def writesT (d : Option Nat) (l : List Operand) : Bool := match d with
  | some d => readsT d l
  | none => false
def sameD (d e : Option Nat) : Bool := match d, e with
  | some d, some e => Nat.beq d e
  | _, _ => false
/-- Operation i ahead of operation j in the text: may they change places? -/
def pairX (st : Bool) (ms : List Nat) (i j : Nat) (o p : Oper) : Bool :=
  !sameD o.dst p.dst && (bitX ms j i || (!((isW o.op && (isW p.op || isRs st p.op)) || (isRs st o.op && isW p.op)) && !writesT o.dst p.op.operands.toList && !writesT p.dst o.op.operands.toList))
def rowX (st : Bool) (ms : List Nat) (i : Nat) (o : Oper) : Nat → List Oper → Bool
  | _, [] => true
  | j, p :: l => pairX st ms i j o p && rowX st ms i o (j + 1) l
def guardX (ms : List Nat) (i : Nat) (o : Oper) : Bool := match o.guard with
  | none => true
  | some (j, _) => bitX ms i j && Nat.blt j i
def lowE (i : Nat) : List Edge → Bool
  | [] => true
  | e :: es => (!Region.binds .any e || Nat.blt e.on i) && lowE i es
def allX (st : Bool) (ms : List Nat) : Nat → List Oper → Bool
  | _, [] => true
  | i, o :: l => lowE i o.after.toList && guardX ms i o && rowX st ms i o (i + 1) l && allX st ms (i + 1) l
def drawX (st : Bool) (l : List Oper) : Bool := allX st (masksX l []) 0 l
def stepD (call : CallX) (ops : List Oper) (o : Oper) (T : Tr) (H : Heap) (D : Dfr) : Option (Value × Heap × Dfr) := match wantX ops T o.guard with
  | some true => opX call o.op T H D fun v H D => some (v, H, D)
  | some false => some (.tuple #[], H, D)
  | none => none
def regD (call : CallX) (N : Nat) (ops : List Oper) : List Oper → Tr → Heap → Dfr → Option St
  | [], T, H, D => some ⟨T, H, D⟩
  | o :: rest, T, H, D => match stepD call ops o T H D with
    | some (v, H, D) => putK N T o.dst v fun T => regD call N ops rest T H D
    | none => none
/-- The same, and on the way: each operation with the temporaries that it met and what it gave; each state of memory. -/
def regS (call : CallX) (N : Nat) (ops : List Oper) : List Oper → Tr → Heap → Dfr → Option (St × List (Oper × Tr × Value) × List Heap)
  | [], T, H, D => some (⟨T, H, D⟩, [], [H])
  | o :: rest, T, H, D => match stepD call ops o T H D with
    | some (v, H1, D1) => match putK N T o.dst v (fun T1 => regS call N ops rest T1 H1 D1) with
      | some (s, L, Hs) => some (s, (o, T, v) :: L, H :: Hs)
      | none => none
    | none => none
/-- A load that gives the same pointer in whatever of these states. -/
def stabL (Hs : List Heap) (T : Tr) (o : Oper) (v : Value) : Bool := match o.op with
  | .load t x => match o.guard, evX T x, v with
    | none, some (.pointer (some ⟨b, off, none⟩)), .pointer (some ⟨c, q, none⟩) => cellT t && Hs.all fun H => match cellX H b off with
      | some (.pointer (some ⟨c', q', none⟩)) => Nat.beq c c' && Nat.beq q q'
      | _ => false
    | _, _, _ => false
  | _ => true
def stabX (L : List (Oper × Tr × Value)) (Hs : List Heap) : Bool := L.all fun x => stabL Hs x.2.1 x.1 x.2.2
def codeX (call : CallX) (N : Nat) : Nat → Code → St → Option (Ex × St)
  | 0, _, _ => none
  | n + 1, c, s => match c with
    | .skip => some (.nor, s)
    | .ret => some (.ret, s)
    | .exit id => some (.out id, s)
    | .seq a b => match codeX call N n a s with
      | some (.nor, s) => codeX call N n b s
      | r => r
    | .cond c a b => match evX s.T c with
      | some (.bool true) => codeX call N n a s
      | some (.bool false) => codeX call N n b s
      | _ => none
    | .block id c => match codeX call N n c s with
      | some (.out i, s) => match Nat.beq i id with
        | true => some (.nor, s)
        | false => some (.out i, s)
      | r => r
    | .loop c => match codeX call N n c s with
      | some (.nor, s) => codeX call N n (.loop c) s
      | r => r
    | .region _ ops false => match regX call N ops.toList ops.toList s.T s.H s.D with
      | some s => some (.nor, s)
      | none => none
    | .region _ ops true => if drawX false ops.toList then (match regD call N ops.toList ops.toList s.T s.H s.D with
      | some s => some (.nor, s)
      | none => none) else if drawX true ops.toList then (match regS call N ops.toList ops.toList s.T s.H s.D with
      | some (s, L, Hs) => if stabX L Hs then some (.nor, s) else none
      | none => none) else none
    | _ => none
def findX : List (Nat × Func) → Nat → Option Func
  | [], _ => none
  | (g, fn) :: l, f => match Nat.beq g f with
    | true => some fn
    | false => findX l f
def argsX {β : Type} : List Value → Nat → Tr → (Tr → β) → β
  | [], _, T, k => k T
  | v :: vs, i, T, k => T.setK DEP i v fun T => argsX vs (i + 1) T k
def resX (T : Tr) : List ResultVar → Option (List Value)
  | [] => some []
  | .tmp t :: l => match T.get DEP t, resX T l with
    | some v, some vs => some (v :: vs)
    | _, _ => none
  | _ => none
def retX (T : Tr) (l : List ResultVar) : Option Value := match resX T l with
  | some [v] => some v
  | some vs => if vs.all one then some (tupL vs) else none
  | none => none
def defX (call : CallX) : Dfr → Heap → Option Heap
  | [], H => some H
  | (f, vs) :: D, H => match call f vs H with
    | some (_, H) => defX call D H
    | none => none
def FUEL : Nat := 1000000
/-- Behind the body: nothing is deferred. -/
def end0 (fn : Func) (s : St) : Option (Value × Heap) := match s.D, retX s.T fn.results.toList with
  | [], some v => some (v, s.H)
  | _, _ => none
def endX (cd : CallX) (fn : Func) (s : St) : Option (Value × Heap) := match retX s.T fn.results.toList, defX cd s.D s.H with
  | some v, some H => some (v, H)
  | _, _ => none
def bodyX (call : CallX) (fn : Func) (fin : St → Option (Value × Heap)) (vs : List Value) (H : Heap) : Option (Value × Heap) :=
  match fn.body with
  | some c => if Nat.ble fn.ntmps 512 && Nat.ble vs.length fn.ntmps && vs.all one then argsX vs 0 .nil fun T => match codeX call fn.ntmps FUEL c ⟨T, H, []⟩ with
    | some (.nor, s) => fin s
    | some (.ret, s) => fin s
    | _ => none
    else none
  | none => none
def callT0 (find : Nat → Option Func) (call : CallX) : CallX := fun f vs H => match find f with
  | some fn => bodyX call fn (end0 fn) vs H
  | none => none
noncomputable def tabX : List (Nat × Func) := [(120, Tryz.f120), (147, Tryz.f147), (175, Tryz.f175), (164, Tryz.f164), (210, Tryz.f210), (104, Tryz.f104), (106, Tryz.f106), (102, Tryz.f102), (93, Tryz.f93), (38, Tryz.f38), (40, Tryz.f40), (41, Tryz.f41), (42, Tryz.f42), (43, Tryz.f43), (44, Tryz.f44), (45, Tryz.f45), (48, Tryz.f48), (64, Tryz.f64), (65, Tryz.f65), (66, Tryz.f66), (67, Tryz.f67), (68, Tryz.f68), (69, Tryz.f69), (70, Tryz.f70), (71, Tryz.f71), (72, Tryz.f72), (77, Tryz.f77), (87, Tryz.f87), (88, Tryz.f88), (89, Tryz.f89), (90, Tryz.f90), (91, Tryz.f91), (92, Tryz.f92), (94, Tryz.f94), (95, Tryz.f95), (96, Tryz.f96), (97, Tryz.f97), (98, Tryz.f98), (99, Tryz.f99), (101, Tryz.f101), (103, Tryz.f103), (105, Tryz.f105), (107, Tryz.f107), (108, Tryz.f108), (109, Tryz.f109), (110, Tryz.f110), (111, Tryz.f111), (112, Tryz.f112), (113, Tryz.f113), (114, Tryz.f114), (115, Tryz.f115), (116, Tryz.f116), (118, Tryz.f118), (119, Tryz.f119), (121, Tryz.f121), (122, Tryz.f122), (123, Tryz.f123), (124, Tryz.f124), (125, Tryz.f125), (126, Tryz.f126), (127, Tryz.f127), (129, Tryz.f129), (131, Tryz.f131), (132, Tryz.f132), (133, Tryz.f133), (134, Tryz.f134), (135, Tryz.f135), (136, Tryz.f136), (137, Tryz.f137), (138, Tryz.f138), (139, Tryz.f139), (140, Tryz.f140), (143, Tryz.f143), (145, Tryz.f145), (148, Tryz.f148), (149, Tryz.f149), (150, Tryz.f150), (151, Tryz.f151), (152, Tryz.f152), (153, Tryz.f153), (154, Tryz.f154), (155, Tryz.f155), (156, Tryz.f156), (157, Tryz.f157), (158, Tryz.f158), (159, Tryz.f159), (160, Tryz.f160), (161, Tryz.f161), (162, Tryz.f162), (163, Tryz.f163), (165, Tryz.f165), (166, Tryz.f166), (167, Tryz.f167), (168, Tryz.f168), (169, Tryz.f169), (170, Tryz.f170), (171, Tryz.f171), (172, Tryz.f172), (173, Tryz.f173), (174, Tryz.f174), (176, Tryz.f176), (177, Tryz.f177), (178, Tryz.f178), (179, Tryz.f179), (180, Tryz.f180), (211, Tryz.f211)]
def callT (find : Nat → Option Func) : Nat → CallX
  | 0, _, _, _ => none
  | n + 1, f, vs, H => match find f with
    | some fn => bodyX (callT find n) fn (endX (callT0 find (callT find n)) fn) vs H
    | none => none
noncomputable def callX : Nat → CallX := callT (findX tabX)
end Go.Proofs.YtiegapnfbeemcaaGreatDoor.X

namespace Go.Proofs.YtiegapnfbeemcaaGreatDoor.X
set_option maxRecDepth 100000
open Go.RowKit

/-- Where each block of the executor lies, and of how many cells it is there. -/
abbrev Env := List (Nat × Nat)
def mv0 (φ : Env) : Value → Option Value
  | .pointer (some ⟨b, o, none⟩) => match φ[b]? with
    | some p => some (.pointer (some ⟨p.1, o, none⟩))
    | none => none
  | .slice (some ⟨b, o, none⟩) n c => match φ[b]? with
    | some p => if c < BIG then some (.slice (some ⟨p.1, o, none⟩) n c) else if c + o ≤ BIG + p.2 then some (.slice (some ⟨p.1, o, none⟩) n (p.2 - o)) else none
    | none => none
  | .bool b => some (.bool b)
  | .int k n => some (.int k n)
  | .string s => some (.string s)
  | .pointer none => some (.pointer none)
  | .slice none n c => some (.slice none n c)
  | .nilIface => some .nilIface
  | _ => none
/-- Two numbers in one, and back: where io.EOF points to. -/
def prn : Nat → Nat → Nat
  | 0, b => 2 * b + 1
  | a + 1, b => 2 * prn a b
def unp : Nat → Nat → Nat × Nat
  | 0, n => (0, n / 2)
  | f + 1, n => if n % 2 = 1 then (0, n / 2) else ((unp f (n / 2)).1 + 1, (unp f (n / 2)).2)
theorem unp_prn : ∀ (a b f : Nat), a ≤ f → unp f (prn a b) = (a, b)
  | 0, b, 0, _ => by unfold unp prn; rw [show (2 * b + 1) / 2 = b by omega]
  | 0, b, f + 1, _ => by
    unfold unp prn
    rw [if_pos (by omega), show (2 * b + 1) / 2 = b by omega]
  | a + 1, b, 0, h => by omega
  | a + 1, b, f + 1, h => by
    unfold unp prn
    rw [if_neg (by omega), show 2 * prn a b / 2 = prn a b by omega, unp_prn a b f (by omega)]
theorem prn_le : ∀ a b : Nat, a ≤ prn a b
  | 0, _ => Nat.zero_le _
  | a + 1, b => by
    have := prn_le a b
    have h : 0 < prn a b := by
      clear this
      induction a with
      | zero => unfold prn; omega
      | succ a ih => unfold prn; omega
    show a + 1 ≤ 2 * prn a b
    omega
/-- io.EOF's value. -/
def eofV (n : Nat) : Value := .iface 101 (.pointer (some ⟨(unp n n).1, (unp n n).2, none⟩))
def mv1 (φ : Env) : Value → Option Value
  | .iface t v => if t = 101 then (match v with
      | .pointer (some ⟨3, 0, none⟩) => match φ[3]? with
        | some p => some (eofV p.2)
        | none => none
      | _ => none) else match mv0 φ v with
    | some v => some (.iface t v)
    | none => none
  | v => mv0 φ v
def mvs (φ : Env) : List Value → Option (List Value)
  | [] => some []
  | v :: vs => match mv1 φ v, mvs φ vs with
    | some v, some vs => some (v :: vs)
    | _, _ => none
def mv (φ : Env) : Value → Option Value
  | .tuple vs => match mvs φ vs.toList with
    | some l => some (.tuple ⟨l⟩)
    | none => none
  | .agg vs => match mvs φ vs.toList with
    | some l => some (.agg ⟨l⟩)
    | none => none
  | v => mv1 φ v

section
variable {φ ψ : Env}
theorem at_mono (h : φ <+: ψ) {b : Nat} {p : Nat × Nat} (hb : φ[b]? = some p) : ψ[b]? = some p := by
  obtain ⟨l, rfl⟩ := h
  obtain ⟨hlt, _⟩ := List.getElem?_eq_some_iff.1 hb
  rw [List.getElem?_append_left hlt]; exact hb
theorem mv0_mono (h : φ <+: ψ) {v u : Value} (hv : mv0 φ v = some u) : mv0 ψ v = some u := by
  unfold mv0 at hv
  split at hv
  · split at hv
    · rename_i b o p hp
      unfold mv0
      simp only [at_mono h hp]; exact hv
    · cases hv
  · split at hv
    · rename_i b o n c p hp
      unfold mv0
      simp only [at_mono h hp]; exact hv
    · cases hv
  all_goals first | exact hv | cases hv
theorem mv1_mono (h : φ <+: ψ) {v u : Value} (hv : mv1 φ v = some u) : mv1 ψ v = some u := by
  unfold mv1 at hv
  split at hv
  · rename_i t x
    split at hv
    · rename_i h101
      split at hv
      · split at hv
        · rename_i p hp
          unfold mv1
          simp only [h101, if_true, at_mono h hp]; exact hv
        · cases hv
      · cases hv
    · rename_i h101
      split at hv
      · rename_i y hy
        unfold mv1
        simp only [h101, if_false, mv0_mono h hy]; exact hv
      · cases hv
  · rename_i hx
    have := mv0_mono h hv
    unfold mv1
    split
    · exact absurd rfl (hx _ _)
    · exact this
theorem mvs_mono (h : φ <+: ψ) : ∀ {vs us : List Value}, mvs φ vs = some us → mvs ψ vs = some us
  | [], us, hv => hv
  | v :: vs, us, hv => by
    unfold mvs at hv ⊢
    split at hv
    · rename_i x xs hx hxs
      rw [mv1_mono h hx, mvs_mono h hxs]; exact hv
    · cases hv
theorem mv_mono (h : φ <+: ψ) {v u : Value} (hv : mv φ v = some u) : mv ψ v = some u := by
  unfold mv at hv
  split at hv
  · rename_i vs
    split at hv
    · rename_i l hl
      unfold mv
      simp only [mvs_mono h hl]; exact hv
    · cases hv
  · rename_i vs
    split at hv
    · rename_i l hl
      unfold mv
      simp only [mvs_mono h hl]; exact hv
    · cases hv
  · rename_i h1 h2
    have := mv1_mono h hv
    unfold mv
    split
    · exact absurd rfl (h1 _)
    · exact absurd rfl (h2 _)
    · exact this
theorem mv0_flat {v : Value} (h : flat v = true) : mv0 φ v = some v := by
  unfold flat at h
  split at h <;> first | rfl | cases h
theorem mv1_flat {v : Value} (h : flat v = true) : mv1 φ v = some v := by
  have := mv0_flat (φ := φ) h
  unfold flat at h
  split at h <;> first | exact this | cases h
theorem mv_flat {v : Value} (h : flat v = true) : mv φ v = some v := by
  have := mv1_flat (φ := φ) h
  unfold flat at h
  split at h <;> first | exact this | cases h
theorem mv_one {v : Value} (h : one v = true) : mv φ v = mv1 φ v := by
  unfold one at h
  split at h <;> first | rfl | cases h
theorem one_cell {v u : Value} (h : one v = true) (hv : mv1 φ v = some u) : u.cells = #[u] ∧ u.oneCell' = true := by
  unfold mv1 at hv
  split at hv
  · split at hv
    · split at hv
      · split at hv
        · injection hv with hv; subst hv; exact ⟨rfl, rfl⟩
        · cases hv
      · cases hv
    · split at hv
      · injection hv with hv; subst hv; exact ⟨rfl, rfl⟩
      · cases hv
  · unfold mv0 at hv
    split at hv
    · split at hv
      · injection hv with hv; subst hv; exact ⟨rfl, rfl⟩
      · cases hv
    · split at hv
      · split at hv
        · injection hv with hv; subst hv; exact ⟨rfl, rfl⟩
        · split at hv
          · injection hv with hv; subst hv; exact ⟨rfl, rfl⟩
          · cases hv
      · cases hv
    all_goals first | (injection hv with hv; subst hv; exact ⟨rfl, rfl⟩) | cases hv
theorem mv_ptr {b o : Nat} {u : Value} (h : mv φ (.pointer (some ⟨b, o, none⟩)) = some u) : ∃ p, φ[b]? = some p ∧ u = .pointer (some ⟨p.1, o, none⟩) := by
  change (match φ[b]? with | some p => some (Value.pointer (some ⟨p.1, o, none⟩)) | none => none) = some u at h
  split at h
  · rename_i p hp; injection h with h; exact ⟨p, hp, h.symm⟩
  · cases h
theorem mv_ptr' {b o : Nat} {p : Nat × Nat} (h : φ[b]? = some p) : mv φ (.pointer (some ⟨b, o, none⟩)) = some (.pointer (some ⟨p.1, o, none⟩)) := by
  show (match φ[b]? with | some p => some (Value.pointer (some ⟨p.1, o, none⟩)) | none => none) = _
  rw [h]
end

theorem getL_eq {α : Type} : ∀ (l : List α) (i : Nat), getL l i = l[i]?
  | [], i => by simp [getL]
  | _ :: _, 0 => rfl
  | _ :: l, i + 1 => by rw [List.getElem?_cons_succ]; exact getL_eq l i
theorem setLK_eq {α β : Type} : ∀ (l : List α) (i : Nat) (v : α) (k : List α → β), setLK l i v k = k (l.set i v)
  | [], i, _, _ => by cases i <;> rfl
  | _ :: _, 0, _, _ => rfl
  | _ :: l, i + 1, v, _ => setLK_eq l i v _
theorem pushK_eq {α β : Type} : ∀ (l : List α) (v : α) (k : List α → β), pushK l v k = k (l ++ [v])
  | [], _, _ => rfl
  | _ :: l, v, _ => pushK_eq l v _
theorem natK_eq {β : Type} (n : Nat) (k : Nat → β) : natK n k = k n := by cases n <;> rfl
theorem intK_eq {β : Type} (n : Int) (k : Int → β) : intK n k = k n := by
  cases n with
  | ofNat m => exact natK_eq m fun m => k (.ofNat m)
  | negSucc m => exact natK_eq m fun m => k (.negSucc m)
theorem valK_eq {β : Type} (v : Value) (k : Value → β) : valK v k = k v := by
  unfold valK
  split
  · exact intK_eq _ fun n => k (.int _ n)
  · rfl
  · rfl
  · rw [natK_eq, natK_eq]
  · rw [natK_eq, natK_eq, natK_eq, natK_eq]
  · rfl
theorem repK_eq {β : Type} (v : Value) : ∀ (n : Nat) (acc : List Value) (k : List Value → β), repK v n acc k = k (List.replicate n v ++ acc)
  | 0, _, _ => rfl
  | n + 1, acc, k => by
    show repK v n (v :: acc) k = _
    rw [repK_eq v n (v :: acc) k]
    congr 1
    rw [List.replicate_succ', List.append_assoc]; rfl

/-- The executor's memory and the model's. -/
structure WR (φ : Env) (H : Heap) (w : World) : Prop where
  len : φ.length = H.length
  low : ∀ (i : Nat) (p : Nat × Nat), φ[i]? = some p → p.1 < w.heap.size
  cap : ∀ (i : Nat) (p : Nat × Nat), i ≠ 3 → φ[i]? = some p → p.2 < 9223372036854775808
  g3 : ∀ B : X.Blk, H[3]? = some B → B.live = false
  len4 : 3 < H.length
  blk : ∀ (i : Nat) (B : X.Blk), H[i]? = some B → B.live = true → ∃ p cs, φ[i]? = some p ∧ Go.Proofs.YtiegapnfbeemcaaGreatDoor.Blk w p.1 B.ty cs ∧ cs.size = p.2 ∧ ∀ (j : Nat) (x : Value), B.cells[j]? = some x → one x = true ∧ ∃ y, cs[j]? = some y ∧ mv1 φ x = some y
  dead : ∀ (i : Nat) (B : X.Blk), H[i]? = some B → B.live = false → B.cells = []
  inj : ∀ (i j : Nat) (B C : X.Blk) (p q : Nat × Nat), H[i]? = some B → H[j]? = some C → B.live = true → C.live = true → φ[i]? = some p → φ[j]? = some q → p.1 = q.1 → i = j
  g2 : ∃ p : Nat × Nat, φ[0]? = some p ∧ p.1 = 2
  g5 : ∃ p : Nat × Nat, φ[1]? = some p ∧ p.1 = 5
  g6 : ∃ p : Nat × Nat, φ[2]? = some p ∧ p.1 = 6
/-- The step from world to world: what is outside the executor's memory is as it was. -/
structure FR (φ : Env) (w w' : World) : Prop where
  os : w'.os = w.os
  tape : w'.tape = w.tape
  output : w'.output = w.output
  size : w.heap.size ≤ w'.heap.size
  block : ∀ k, k < w.heap.size → (∀ (i : Nat) (p : Nat × Nat), φ[i]? = some p → p.1 ≠ k) → w'.heap[k]? = w.heap[k]?
theorem FR.refl (φ : Env) (w : World) : FR φ w w := ⟨rfl, rfl, rfl, Nat.le_refl _, fun _ _ _ => rfl⟩
/-- Blocks that come later lie higher. -/
def EX (φ ψ : Env) (w : World) : Prop := φ <+: ψ ∧ ∀ (i : Nat) (p : Nat × Nat), ψ[i]? = some p → (∃ j : Nat, φ[j]? = some p) ∨ w.heap.size ≤ p.1
theorem EX.refl (φ : Env) (w : World) : EX φ φ w := ⟨List.prefix_refl _, fun i _ h => .inl ⟨i, h⟩⟩
theorem EX.trans {φ ψ χ : Env} {w w' : World} (h : EX φ ψ w) (h' : EX ψ χ w') (hs : w.heap.size ≤ w'.heap.size) : EX φ χ w :=
  ⟨h.1.trans h'.1, fun i p hp => by
    rcases h'.2 i p hp with ⟨j, hj⟩ | hh
    · exact h.2 j p hj
    · exact .inr (by omega)⟩
theorem FR.trans {φ ψ : Env} {w w' w'' : World} (h : FR φ w w') (hx : EX φ ψ w) (h' : FR ψ w' w'') : FR φ w w'' :=
  ⟨h'.os.trans h.os, h'.tape.trans h.tape, h'.output.trans h.output, Nat.le_trans h.size h'.size, fun k hk hn => (h'.block k (Nat.lt_of_lt_of_le hk h.size) fun i p hp => by
    rcases hx.2 i p hp with ⟨j, hj⟩ | hh
    · exact hn j p hj
    · omega).trans (h.block k hk hn)⟩
theorem FR.drew {φ : Env} (w : World) : FR φ w { w with drawn := w.drawn + 1 } := ⟨rfl, rfl, rfl, Nat.le_refl _, fun _ _ _ => rfl⟩
theorem WR.drew {φ : Env} {H : Heap} {w : World} (h : WR φ H w) : WR φ H { w with drawn := w.drawn + 1 } := ⟨h.len, h.low, h.cap, h.g3, h.len4, h.blk, h.dead, h.inj, h.g2, h.g5, h.g6⟩

section
variable {φ : Env} {H : Heap} {w : World}
theorem cellX_at {b o : Nat} {x : Value} (h : cellX H b o = some x) : ∃ B, H[b]? = some B ∧ B.cells[o]? = some x := by
  unfold cellX at h
  rw [getL_eq] at h
  split at h
  · rename_i B hB; rw [getL_eq] at h; exact ⟨B, hB, h⟩
  · cases h
theorem WR.live (h : WR φ H w) {b o : Nat} {B : X.Blk} {x : Value} (hB : H[b]? = some B) (hx : B.cells[o]? = some x) : B.live = true := by
  cases hl : B.live with
  | true => rfl
  | false => rw [h.dead b B hB hl] at hx; simp at hx
theorem WR.cell (h : WR φ H w) {b o : Nat} {x : Value} (hx : cellX H b o = some x) : ∃ p y, φ[b]? = some p ∧ w.cell? ⟨p.1, o, none⟩ = some y ∧ mv1 φ x = some y ∧ one x = true := by
  obtain ⟨B, hB, hx⟩ := cellX_at hx
  obtain ⟨p, cs, hp, hb, _, hc⟩ := h.blk b B hB (h.live hB hx)
  obtain ⟨ho, y, hy, hm⟩ := hc o x hx
  exact ⟨p, y, hp, (hb.cell o).trans hy, hm, ho⟩
theorem putX_at {β : Type} {b o : Nat} {v : Value} {k : Heap → Option β} {r : β} (h : putX H b o v k = some r) : ∃ B x, H[b]? = some B ∧ B.cells[o]? = some x ∧ k (H.set b ⟨B.ty, B.cells.set o v, B.live⟩) = some r := by
  unfold putX at h
  rw [getL_eq] at h
  split at h
  · rename_i B hB
    rw [getL_eq] at h
    split at h
    · rename_i x hx
      rw [setLK_eq, setLK_eq] at h
      exact ⟨B, x, hB, hx, h⟩
    · cases h
  · cases h
/-- A store. -/
theorem WR.put (h : WR φ H w) {b o : Nat} {B : X.Blk} {x v u : Value} (hB : H[b]? = some B) (hx : B.cells[o]? = some x) (hv : mv1 φ v = some u) (h1 : one v = true) :
    ∃ p y, φ[b]? = some p ∧ w.cell? ⟨p.1, o, none⟩ = some y ∧ w.frozen? ⟨p.1, o, none⟩ = false ∧ WR φ (H.set b ⟨B.ty, B.cells.set o v, B.live⟩) (w.setCell ⟨p.1, o, none⟩ u) ∧ FR φ w (w.setCell ⟨p.1, o, none⟩ u) := by
  have hl := h.live hB hx
  obtain ⟨p, cs, hp, hb, hs, hc⟩ := h.blk b B hB hl
  obtain ⟨_, y, hy, _⟩ := hc o x hx
  have hbl : b < H.length := (List.getElem?_eq_some_iff.1 hB).1
  have hsz : (w.setCell ⟨p.1, o, none⟩ u).heap.size = w.heap.size := by simp [World.setCell]
  refine ⟨p, y, hp, (hb.cell o).trans hy, hb.frozen o, ⟨by simp [h.len], fun i q hq => by rw [hsz]; exact h.low i q hq, h.cap, fun C hC => ?_, by simpa using h.len4, fun i C hC hlC => ?_, fun i C hC hlC => ?_, fun i j C D q r hC hD hlC hlD hq hr e => ?_, h.g2, h.g5, h.g6⟩, ⟨rfl, rfl, rfl, by rw [hsz]; exact Nat.le_refl _, fun k hk hn => ?_⟩⟩
  · by_cases hib : b = 3
    · subst hib
      have := h.g3 B hB
      rw [hl] at this; cases this
    · rw [List.getElem?_set_ne hib] at hC
      exact h.g3 C hC
  · by_cases hib : b = i
    · subst hib
      rw [List.getElem?_set_self hbl] at hC
      injection hC with hC
      subst hC
      refine ⟨p, cs.setIfInBounds o u, hp, hb.set_ o u, by simpa using hs, fun j z hz => ?_⟩
      simp only at hz
      by_cases hjo : o = j
      · subst hjo
        have ho : o < B.cells.length := (List.getElem?_eq_some_iff.1 hx).1
        rw [List.getElem?_set_self ho] at hz
        injection hz with hz
        subst hz
        have hocs : o < cs.size := by
          rcases Nat.lt_or_ge o cs.size with h | h
          · exact h
          · rw [Array.getElem?_eq_none h] at hy; cases hy
        exact ⟨h1, u, by rw [Array.getElem?_setIfInBounds, if_pos rfl, if_pos hocs], hv⟩
      · rw [List.getElem?_set_ne hjo] at hz
        obtain ⟨ho', y', hy', hm'⟩ := hc j z hz
        exact ⟨ho', y', by rw [Array.getElem?_setIfInBounds, if_neg hjo]; exact hy', hm'⟩
    · rw [List.getElem?_set_ne hib] at hC
      obtain ⟨q, ds, hq, hd, hs', hc'⟩ := h.blk i C hC hlC
      exact ⟨q, ds, hq, hd.far (p := ⟨p.1, o, none⟩) (fun e => hib (h.inj b i B C p q hB hC hl hlC hp hq e.symm)) u, hs', hc'⟩
  · by_cases hib : b = i
    · subst hib
      rw [List.getElem?_set_self hbl] at hC
      injection hC with hC
      subst hC
      simp only at hlC
      rw [hl] at hlC; cases hlC
    · rw [List.getElem?_set_ne hib] at hC
      exact h.dead i C hC hlC
  · have key : ∀ (i : Nat) (C : X.Blk), (H.set b ⟨B.ty, B.cells.set o v, B.live⟩)[i]? = some C → C.live = true → ∃ C', H[i]? = some C' ∧ C'.live = true := fun i C hC hlC => by
      by_cases hib : b = i
      · subst hib; exact ⟨B, hB, hl⟩
      · rw [List.getElem?_set_ne hib] at hC; exact ⟨C, hC, hlC⟩
    obtain ⟨C', hC', hl'⟩ := key i C hC hlC
    obtain ⟨D', hD', hl''⟩ := key j D hD hlD
    exact h.inj i j C' D' q r hC' hD' hl' hl'' hq hr e
  · exact Below.heap_setCell w ⟨p.1, o, none⟩ u k (fun e => hn b p hp e.symm)
/-- New memory. -/
theorem WR.new (h : WR φ H w) (t : Nat) (xs : List Value) (cs : Array Value) (hcap : cs.size < 9223372036854775808) (hc : ∀ (j : Nat) (x : Value), xs[j]? = some x → one x = true ∧ ∃ y, cs[j]? = some y ∧ mv1 φ x = some y) :
    WR (φ ++ [(w.heap.size, cs.size)]) (H ++ [⟨t, xs, true⟩]) (w.alloc (.cells cs t)) ∧ FR φ w (w.alloc (.cells cs t)) ∧ EX φ (φ ++ [(w.heap.size, cs.size)]) w ∧ (φ ++ [(w.heap.size, cs.size)])[H.length]? = some (w.heap.size, cs.size) := by
  have hpre : φ <+: φ ++ [(w.heap.size, cs.size)] := List.prefix_append _ _
  have hat : (φ ++ [(w.heap.size, cs.size)])[H.length]? = some (w.heap.size, cs.size) := by rw [← h.len]; simp
  have hold : ∀ (i : Nat) (p : Nat × Nat), i < H.length → (φ ++ [(w.heap.size, cs.size)])[i]? = some p → φ[i]? = some p := fun i p hi hp => by
    rw [List.getElem?_append_left (by rw [h.len]; exact hi)] at hp; exact hp
  have hcase : ∀ (i : Nat) (B : X.Blk), (H ++ [⟨t, xs, true⟩])[i]? = some B → (i < H.length ∧ H[i]? = some B) ∨ (i = H.length ∧ B = ⟨t, xs, true⟩) := fun i B hB => by
    by_cases hi : i < H.length
    · rw [List.getElem?_append_left hi] at hB; exact .inl ⟨hi, hB⟩
    · rw [List.getElem?_append_right (by omega)] at hB
      have : i - H.length = 0 := by
        rcases Nat.eq_zero_or_pos (i - H.length) with h | h
        · exact h
        · rw [List.getElem?_eq_none (by simp; omega)] at hB; cases hB
      rw [this] at hB
      injection hB with hB
      exact .inr ⟨by omega, hB.symm⟩
  have hsz : (w.alloc (.cells cs t)).heap.size = w.heap.size + 1 := World.size_alloc ..
  refine ⟨⟨by simp [h.len], fun i p hp => ?_, fun i p h3 hp => ?_, fun B hB => ?_, by have := h.len4; simp; omega, fun i B hB hl => ?_, fun i B hB hl => ?_, fun i j B C p q hB hC hlB hlC hp hq e => ?_, ?_, ?_, ?_⟩, ⟨rfl, rfl, rfl, by rw [hsz]; omega, fun k hk _ => Below.heap_alloc w _ k hk⟩, ⟨hpre, fun i p hp => ?_⟩, hat⟩
  · rw [hsz]
    by_cases hi : i < H.length
    · have := h.low i p (hold i p hi hp); omega
    · have hi2 : i = H.length := by
        have := (List.getElem?_eq_some_iff.1 hp).1
        simp [h.len] at this; omega
      subst hi2
      rw [hat] at hp
      injection hp with hp
      subst hp
      exact Nat.lt_succ_self _
  · by_cases hi : i < H.length
    · exact h.cap i p h3 (hold i p hi hp)
    · have hi2 : i = H.length := by
        have := (List.getElem?_eq_some_iff.1 hp).1
        simp [h.len] at this; omega
      subst hi2
      rw [hat] at hp
      rw [← Option.some.inj hp]
      exact hcap
  · rcases hcase 3 B hB with ⟨_, hB⟩ | ⟨h3, _⟩
    · exact h.g3 B hB
    · have := h.len4; omega
  · rcases hcase i B hB with ⟨hi, hB⟩ | ⟨rfl, rfl⟩
    · obtain ⟨p, ds, hp, hb, hs, hcc⟩ := h.blk i B hB hl
      exact ⟨p, ds, at_mono hpre hp, hb.alloc _, hs, fun j x hx => let ⟨a, y, b, c⟩ := hcc j x hx; ⟨a, y, b, mv1_mono hpre c⟩⟩
    · exact ⟨_, cs, hat, Blk.new w t cs, rfl, fun j x hx => let ⟨a, y, b, c⟩ := hc j x hx; ⟨a, y, b, mv1_mono hpre c⟩⟩
  · rcases hcase i B hB with ⟨hi, hB⟩ | ⟨rfl, rfl⟩
    · exact h.dead i B hB hl
    · cases hl
  · rcases hcase i B hB with ⟨hi, hB⟩ | ⟨rfl, rfl⟩ <;> rcases hcase j C hC with ⟨hj, hC⟩ | ⟨rfl, rfl⟩
    · exact h.inj i j B C p q hB hC hlB hlC (hold i p hi hp) (hold j q hj hq) e
    · rw [hat] at hq
      injection hq with hq
      subst hq
      have := h.low i p (hold i p hi hp)
      simp only at e; omega
    · rw [hat] at hp
      injection hp with hp
      subst hp
      have := h.low j q (hold j q hj hq)
      simp only at e; omega
    · rfl
  · obtain ⟨p, hp, e⟩ := h.g2; exact ⟨p, at_mono hpre hp, e⟩
  · obtain ⟨p, hp, e⟩ := h.g5; exact ⟨p, at_mono hpre hp, e⟩
  · obtain ⟨p, hp, e⟩ := h.g6; exact ⟨p, at_mono hpre hp, e⟩
  · by_cases hi : i < H.length
    · exact .inl ⟨i, hold i p hi hp⟩
    · have hi2 : i = H.length := by
        have := (List.getElem?_eq_some_iff.1 hp).1
        simp [h.len] at this; omega
      subst hi2
      rw [hat] at hp
      injection hp with hp
      subst hp
      exact .inr (Nat.le_refl _)
end
end Go.Proofs.YtiegapnfbeemcaaGreatDoor.X

namespace Go.Proofs.YtiegapnfbeemcaaGreatDoor.X
set_option maxRecDepth 100000
open Go.RowKit

def TR (φ : Env) (T : Tr) (a : Act) : Prop := ∀ t v, T.get DEP t = some v → mv φ v = some (a.tmps.getD t undef)
def DR (φ : Env) : Dfr → List Deferred → Prop
  | [], [] => True
  | (f, vs) :: D, d :: ds => (∃ us, mvs φ vs = some us ∧ d = ⟨.fn (.func f) #[], ⟨us⟩⟩) ∧ DR φ D ds
  | _, _ => False
theorem DR.mono {φ ψ : Env} (h : φ <+: ψ) : ∀ {D : Dfr} {ds : List Deferred}, DR φ D ds → DR ψ D ds
  | [], [], _ => trivial
  | (_, _) :: _, _ :: _, ⟨⟨us, h1, h2⟩, h3⟩ => ⟨⟨us, mvs_mono h h1, h2⟩, DR.mono h h3⟩
  | [], _ :: _, h3 => h3.elim
  | _ :: _, [], h3 => h3.elim
theorem TR.mono {φ ψ : Env} (h : φ <+: ψ) {T : Tr} {a : Act} (hT : TR φ T a) : TR ψ T a := fun t v hv => mv_mono h (hT t v hv)

section
variable {φ : Env} {T : Tr} {a : Act} {H : Heap} {w : World}
theorem ev_sound (hT : TR φ T a) (hW : WR φ H w) {x : Operand} {v : Value} (h : evX T x = some v) : mv φ v = some (a.eval x) := by
  unfold evX at h
  split at h
  · exact hT _ _ h
  · split at h
    · rename_i hf
      injection h with h
      subst h
      exact mv_flat hf
    · cases h
  · injection h with h
    subst h
    obtain ⟨p, hp, e⟩ := hW.g2
    rw [mv_ptr' hp, e]; rfl
  · injection h with h
    subst h
    obtain ⟨p, hp, e⟩ := hW.g5
    rw [mv_ptr' hp, e]; rfl
  · injection h with h
    subst h
    obtain ⟨p, hp, e⟩ := hW.g6
    rw [mv_ptr' hp, e]; rfl
  · cases h
theorem mv_tuple {vs : Array Value} {u : Value} (h : mv φ (.tuple vs) = some u) : ∃ l, mvs φ vs.toList = some l ∧ u = .tuple ⟨l⟩ := by
  change (match mvs φ vs.toList with | some l => some (Value.tuple ⟨l⟩) | none => none) = some u at h
  split at h
  · rename_i l hl; injection h with h; exact ⟨l, hl, h.symm⟩
  · cases h
theorem mv_agg {vs : Array Value} {u : Value} (h : mv φ (.agg vs) = some u) : ∃ l, mvs φ vs.toList = some l ∧ u = .agg ⟨l⟩ := by
  change (match mvs φ vs.toList with | some l => some (Value.agg ⟨l⟩) | none => none) = some u at h
  split at h
  · rename_i l hl; injection h with h; exact ⟨l, hl, h.symm⟩
  · cases h
theorem mvs_at : ∀ {vs us : List Value} {i : Nat} {v : Value}, mvs φ vs = some us → vs[i]? = some v → ∃ u, us[i]? = some u ∧ mv1 φ v = some u
  | [], _, _, _, _, h => by simp at h
  | x :: vs, us, i, v, h, hi => by
    unfold mvs at h
    split at h
    · rename_i y ys hy hys
      injection h with h
      subst h
      cases i with
      | zero => rw [List.getElem?_cons_zero] at hi ⊢; injection hi with hi; subst hi; exact ⟨y, rfl, hy⟩
      | succ i => rw [List.getElem?_cons_succ] at hi ⊢; exact mvs_at hys hi
    · cases h
theorem mvs_len : ∀ {vs us : List Value}, mvs φ vs = some us → us.length = vs.length
  | [], _, h => by injection h with h; subst h; rfl
  | x :: vs, us, h => by
    unfold mvs at h
    split at h
    · rename_i y ys hy hys
      injection h with h
      subst h
      simp [mvs_len hys]
    · cases h
end

section
variable {o : Oper} {a : Act} {w w' : World} {K : Act → World → Prop} {Q : Exit → Act → World → Prop} {v : Value}
theorem wp_v (h : (execOp a.eval o).run Tryz.prog w = .ok (.value v) w') (hk : K (a.put o.dst v) w') : o.wp Tryz.prog a w K Q := by
  unfold Oper.wp; rw [h]; exact hk
theorem wp_s (h : (execOp a.eval o).run Tryz.prog w = .ok .skip w') (hk : K (a.put o.dst undef) w') : o.wp Tryz.prog a w K Q := by
  unfold Oper.wp; rw [h]; exact hk
theorem run_v {s : Sem Value} (h : s.run Tryz.prog w = .ok v w') : (s >>= fun x => (pure (.value x) : Sem Next)).run Tryz.prog w = .ok (.value v) w' := by
  rw [Sem.run_bind, h]; rfl
theorem run_u {s : Sem Unit} (h : s.run Tryz.prog w = .ok () w') : (s >>= fun _ => (pure .skip : Sem Next)).run Tryz.prog w = .ok .skip w' := by
  rw [Sem.run_bind, h]; rfl
end

/-- The types of one cell. -/
theorem cellT_agg {t : Nat} (h : cellT t = true) (w : World) : (isAgg t).run Tryz.prog w = .ok false w ∧ (sizeOf t).run Tryz.prog w = .ok 1 w := by
  have : t ∈ [2, 3, 4, 5, 9, 24, 51, 74, 106, 107, 120, 137, 192] := by
    unfold cellT at h
    rw [List.any_eq_true] at h
    obtain ⟨x, hx, he⟩ := h
    rw [Nat.eq_of_beq_eq_true he]; exact hx
  simp only [List.mem_cons, List.not_mem_nil, or_false] at this
  rcases this with rfl | rfl | rfl | rfl | rfl | rfl | rfl | rfl | rfl | rfl | rfl | rfl | rfl <;> exact ⟨by kernel_rfl, by kernel_rfl⟩
theorem run_ld {t g o : Nat} {w : World} {y : Value} (h : cellT t = true) (hc : w.cell? ⟨g, o, none⟩ = some y) : (Instr.loadAt t (.pointer (some ⟨g, o, none⟩))).run Tryz.prog w = .ok y w := by
  simp only [Instr.loadAt, Instr.sureAddr, Sem.run_bind, Sem.run_pure, Result.andThen_ok, loadVar, (cellT_agg h w).1, Bool.false_eq_true, if_false]
  unfold Go.load
  show Sem.run _ (Sem.load _ _ _) _ = _
  unfold Sem.run
  rw [hc]; rfl
theorem run_st {t g o : Nat} {w : World} {y u : Value} (h : cellT t = true) (hc : w.cell? ⟨g, o, none⟩ = some y) (hf : w.frozen? ⟨g, o, none⟩ = false) (h1 : u.cells = #[u]) (h2 : u.oneCell' = true) :
    (Instr.storeAt t (.pointer (some ⟨g, o, none⟩)) u).run Tryz.prog w = .ok () (w.setCell ⟨g, o, none⟩ u) := by
  have hadd : (⟨g, o, none⟩ : Addr).add 0 = ⟨g, o, none⟩ := by unfold Addr.add; simp
  simp only [Instr.storeAt, Instr.sureAddr, Sem.run_bind, Sem.run_pure, Result.andThen_ok, storeVar, (cellT_agg h w).2, h1]
  simp [storeCells, hadd, run_store _ _ _ _ _ h2, hc, hf]
end Go.Proofs.YtiegapnfbeemcaaGreatDoor.X
