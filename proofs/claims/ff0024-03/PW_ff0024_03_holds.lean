import PyProof.Rows.All
import PyProof.OldK
import PyProof.CallStr
import PyProof.Walks
import PyProof.CompFree
import PyProof.Draws
import PyProof.EnumMake
import PyProof.NeKinds
import PyProof.P3Eq
import PyProof.ExcBaseAll.Exception
import PyProof.ExcInit
import PyProof.ExcStr
import PyProof.WalksMore
import PyProof.GenArm
import PyProof.GenQ
import PyProof.GenCompD
import PyProof.ListNew
import PyProof.ListIndexNeg
import PyProof.RulesAs
import PyProof.Rows.TupSub
import PyProof.Rows.GenSrc
import PyProof.SliceMore
import PyProof.Rows.SeqSliceW
import KE.BytesMul
import KE.KAnyBase
import KE.KListMore
import KE.KDeep
import KE.KFmtOwn
import KE.KTurns
import KE.KIsAll
import KE.KItemsList
import KE.KSetAt
import KE.KSuper
import KE.KToBytes
import KE.KxPercentT
import Wide.FinOn
import OpenK.AllK
import Wide.All
import Lean
import PySem.Challenge.RW_ff0024_03
open PySem PySem.W PyProof.Rows
set_option Elab.async false
section
open PySem PySem.W PyProof.Rows
set_option Elab.async false
set_option maxRecDepth 100000
set_option maxHeartbeats 0
namespace Mine
noncomputable section
abbrev pw : Program := PySem.Challenge.pw_ff0024_03
def env : Env := { scope := pw.main.scope, locals := mainNs, globals := mainNs, cells := [], code := .ref 13, frame := some 14 }
def cE : Code := .body (behindTheImports pw) env
def B : List Frame := [topFrame default]
def ann : Option Value := some (.ref 6)
def stA : Stmt := ((behindTheImports pw)[10]?).getD (.Pass default)
/-- the list comprehension of row ALL_BYTES -/
def compOf : Stmt → PySem.Expr
  | .Assign _ (.Call _ (e :: _) _ _) _ => e
  | _ => .Constant .none 0 default
def scopeOf : PySem.Expr → Scope
  | .ListComp _ _ s _ => s
  | _ => pw.main.scope
def cenv : Env := { scope := scopeOf (compOf stA), locals := 166, globals := mainNs, cells := [], qual := Str.empty, func := none, code := .ref 13, frame := some 14 }
def loopC : Code := .compLoop (compOf stA) 0 (.ref 164) (.ref 165) cenv
def itemB (i : Nat) : Value := .bytes #[i.toUInt8] (397 + 3 * i)
def accO (j : Nat) : Obj := { cls := .type "list", data := .seq ((List.range j).map itemB).toArray j }
def itO (j : Nat) : Obj := { cls := .type "range_iterator", data := .fields #[.int (Int.ofNat j) 0, .int (Int.ofNat (256 - j)) 0, .int 1 0] }
def locO (P : Params) (j : Nat) : Obj := { cls := .type "dict", data := .dict #[⟨PyData.keyHash P (Str.ofString "i"), .str (Str.ofString "i") 396, .int (Int.ofNat (j - 1)) (395 + 3 * (j - 1))⟩] 1 }
def junkO (a i : Nat) : Nat → Obj
  | 0 => { cls := .type "list", data := .seq #[.int (Int.ofNat i) (395 + 3 * i)] }
  | 1 => { cls := .type "list_iterator", data := .fields #[.none, .int 1 0] }
  | 2 => { cls := .type "bytearray", data := .bytearray #[i.toUInt8] }
  | 3 => { cls := .type "tuple", data := .seq #[] }
  | _ => { cls := .type "StopIteration", data := .fields #[.ref (a - 1), .none, .none, .none, .bool false, .none] }
def rngO : Obj := { cls := .type "range", data := .fields #[.int 0 393, .int 256 392, .int 1 394] }
/-- the objects behind turn j -/
def fL (P : Params) (o : Nat → Obj) (j : Nat) (a : Nat) : Obj :=
  @Bool.rec (fun _ => Obj)
    (@Bool.rec (fun _ => Obj)
      (@Bool.rec (fun _ => Obj)
        (@Bool.rec (fun _ => Obj)
          (@Bool.rec (fun _ => Obj)
            (@Bool.rec (fun _ => Obj) (o a) (locO P j) (Nat.beq a 166))
            (accO j) (Nat.beq a 165))
          (itO j) (Nat.beq a 164))
        rngO (Nat.beq a 163))
      (o a) (Nat.blt a 163))
    (junkO a ((a - 167) / 5) ((a - 167) % 5)) (Nat.ble 167 a)
def mkT (f : Nat → Obj) (n : Nat) : Nat → Nat → Nat → BT
  | 0, _, _ => .nil
  | k + 1, a, b => @Bool.rec (fun _ => BT) .nil (.node (f b) (mkT f n k (2 * a) (a + b)) (mkT f n k (2 * a) (2 * a + b))) (Nat.blt b n)
def mainO (P : Params) : Obj := { cls := .type "dict", data := .dict #[
  ⟨PyData.keyHash P (Str.ofString "__name__"), .str (Str.ofString "__name__") 165, .str (Str.ofString "rlp.utils") 390⟩,
  ⟨PyData.keyHash P (Str.ofString "__doc__"), .str (Str.ofString "__doc__") 166, .none⟩,
  ⟨PyData.keyHash P (Str.ofString "__package__"), .str (Str.ofString "__package__") 167, .none⟩,
  ⟨PyData.keyHash P (Str.ofString "__loader__"), .str (Str.ofString "__loader__") 168, .builtin "__main__.__loader__#opaque"⟩,
  ⟨PyData.keyHash P (Str.ofString "__spec__"), .str (Str.ofString "__spec__") 169, .none⟩,
  ⟨PyData.keyHash P (Str.ofString "__annotations__"), .str (Str.ofString "__annotations__") 170, .ref 6⟩,
  ⟨PyData.keyHash P (Str.ofString "__builtins__"), .str (Str.ofString "__builtins__") 171, .ref 4⟩,
  ⟨PyData.keyHash P (Str.ofString "__file__"), .str (Str.ofString "__file__") 173, .str (Str.ofString "/claim/cut.py") 172⟩,
  ⟨PyData.keyHash P (Str.ofString "__cached__"), .str (Str.ofString "__cached__") 174, .none⟩,
  ⟨PyData.keyHash P (Str.ofString "_wall"), .str (Str.ofString "_wall") 193, .ref 21⟩,
  ⟨PyData.keyHash P (Str.ofString "RLPException"), .str (Str.ofString "RLPException") 215, .ref 31⟩,
  ⟨PyData.keyHash P (Str.ofString "EncodingError"), .str (Str.ofString "EncodingError") 243, .ref 53⟩,
  ⟨PyData.keyHash P (Str.ofString "DecodingError"), .str (Str.ofString "DecodingError") 271, .ref 74⟩,
  ⟨PyData.keyHash P (Str.ofString "SerializationError"), .str (Str.ofString "SerializationError") 299, .ref 95⟩,
  ⟨PyData.keyHash P (Str.ofString "ListSerializationError"), .str (Str.ofString "ListSerializationError") 330, .ref 117⟩,
  ⟨PyData.keyHash P (Str.ofString "DeserializationError"), .str (Str.ofString "DeserializationError") 358, .ref 138⟩,
  ⟨PyData.keyHash P (Str.ofString "ListDeserializationError"), .str (Str.ofString "ListDeserializationError") 389, .ref 160⟩] 17 }
def mainO' (P : Params) : Obj := { cls := .type "dict", data := .dict #[
  ⟨PyData.keyHash P (Str.ofString "__name__"), .str (Str.ofString "__name__") 165, .str (Str.ofString "rlp.utils") 390⟩,
  ⟨PyData.keyHash P (Str.ofString "__doc__"), .str (Str.ofString "__doc__") 166, .none⟩,
  ⟨PyData.keyHash P (Str.ofString "__package__"), .str (Str.ofString "__package__") 167, .none⟩,
  ⟨PyData.keyHash P (Str.ofString "__loader__"), .str (Str.ofString "__loader__") 168, .builtin "__main__.__loader__#opaque"⟩,
  ⟨PyData.keyHash P (Str.ofString "__spec__"), .str (Str.ofString "__spec__") 169, .none⟩,
  ⟨PyData.keyHash P (Str.ofString "__annotations__"), .str (Str.ofString "__annotations__") 170, .ref 6⟩,
  ⟨PyData.keyHash P (Str.ofString "__builtins__"), .str (Str.ofString "__builtins__") 171, .ref 4⟩,
  ⟨PyData.keyHash P (Str.ofString "__file__"), .str (Str.ofString "__file__") 173, .str (Str.ofString "/claim/cut.py") 172⟩,
  ⟨PyData.keyHash P (Str.ofString "__cached__"), .str (Str.ofString "__cached__") 174, .none⟩,
  ⟨PyData.keyHash P (Str.ofString "_wall"), .str (Str.ofString "_wall") 193, .ref 21⟩,
  ⟨PyData.keyHash P (Str.ofString "RLPException"), .str (Str.ofString "RLPException") 215, .ref 31⟩,
  ⟨PyData.keyHash P (Str.ofString "EncodingError"), .str (Str.ofString "EncodingError") 243, .ref 53⟩,
  ⟨PyData.keyHash P (Str.ofString "DecodingError"), .str (Str.ofString "DecodingError") 271, .ref 74⟩,
  ⟨PyData.keyHash P (Str.ofString "SerializationError"), .str (Str.ofString "SerializationError") 299, .ref 95⟩,
  ⟨PyData.keyHash P (Str.ofString "ListSerializationError"), .str (Str.ofString "ListSerializationError") 330, .ref 117⟩,
  ⟨PyData.keyHash P (Str.ofString "DeserializationError"), .str (Str.ofString "DeserializationError") 358, .ref 138⟩,
  ⟨PyData.keyHash P (Str.ofString "ListDeserializationError"), .str (Str.ofString "ListDeserializationError") 389, .ref 160⟩,
  ⟨PyData.keyHash P (Str.ofString "ALL_BYTES"), .str (Str.ofString "ALL_BYTES") 1163, .ref 1450⟩] 18 }

/-- the objects below 163 where the loop stands: the built-ins, the globals, and what o says -/
def oo (M : Params → Obj) (P : Params) (o : Nat → Obj) (a : Nat) : Obj := @Bool.rec (fun _ => Obj) (@Bool.rec (fun _ => Obj) (o a) (M P) (Nat.beq a 3)) (boot_o_0 P) (Nat.beq a 0)
def stL (w : World) (os : OsState) (o : Nat → Obj) (j : Nat) : SharedT := ⟨mkT (fL w.params (oo mainO w.params o) j) (167 + 5 * j) 12 1 0, 167 + 5 * j, {}, #[], {}, 395 + 3 * j, os⟩
def thL (k : Result → Sem Fin) (g : Bool) (l : List Value) (c : Code) (p : Pos) (kp : List Value) : Thread :=
  ⟨.pure (.again loopC), loopC, ⟨48, 19, 48, 29⟩, .ret k none g l c p kp :: B⟩
def EL (n : Nat) (w : World) (os : OsState) (o : Nat → Obj) (j : Nat) (k : Result → Sem Fin) (g : Bool) (l : List Value) (c : Code) (p : Pos) (kp : List Value) :=
  segGoT treeTable pw w 11 ann 1 n (stL w os o j) (thL k g l c p kp)
def ER (w : World) (os : OsState) (o : Nat → Obj) (j : Nat) (k : Result → Sem Fin) (g : Bool) (l : List Value) (c : Code) (p : Pos) (kp : List Value) :=
  some (stL w os o j, thL k g l c p kp)
/-- ahead of the row -/
def st10 (w : World) (os : OsState) (o : Nat → Obj) : SharedT := ⟨mkT (oo mainO w.params o) 163 12 1 0, 163, {}, #[], {}, 392, os⟩
def EA (n : Nat) (w : World) (os : OsState) (o : Nat → Obj) := segGoT treeTable pw w 11 ann 1 n (st10 w os o) (pieceOf stA env cE ⟨47, 0, 47, 8⟩ B)
def frOf : Option (SharedT × Thread) → (Result → Sem Fin) × Bool × List Value × Code × Pos × List Value
  | some (_, ⟨_, _, _, .ret k _ g l c p kp :: _⟩) => (k, g, l, c, p, kp)
  | _ => (fun _ => .unsupported "", false, [], cE, default, [])
def EAR (n : Nat) (w : World) (os : OsState) (o : Nat → Obj) :=
  let x := frOf (EA n w os o)
  some (stL w os o 1, thL x.1 x.2.1 x.2.2.1 x.2.2.2.1 x.2.2.2.2.1 x.2.2.2.2.2)
/-- the objects behind the row -/
def f11 (P : Params) (o : Nat → Obj) (a : Nat) : Obj :=
  @Bool.rec (fun _ => Obj)
    (@Bool.rec (fun _ => Obj)
      (@Bool.rec (fun _ => Obj) (fL P o 256 a) { cls := .type "dict", data := .dict #[] 2 } (Nat.beq a 166))
      (@Bool.rec (fun _ => Obj)
        (@Bool.rec (fun _ => Obj)
          (@Bool.rec (fun _ => Obj) { cls := .type "tuple", data := .seq ((List.range 256).map itemB).toArray } { cls := .type "list", data := .seq ((List.range 256).map itemB).toArray 1 } (Nat.beq a 1449))
          { cls := .type "StopIteration", data := .fields #[.ref 1447, .none, .none, .none, .bool false, .none] } (Nat.beq a 1448))
        { cls := .type "tuple", data := .seq #[] } (Nat.beq a 1447))
      (Nat.ble 1447 a))
    (oo mainO' P o a) (Nat.blt a 163)
def st11 (w : World) (os : OsState) (o : Nat → Obj) : SharedT := ⟨mkT (f11 w.params o) 1451 12 1 0, 1451, {}, #[], {}, 1164, os⟩
def EC (n m : Nat) (w : World) (os : OsState) (o : Nat → Obj) :=
  let x := frOf (EA m w os o)
  segRunT treeTable pw w 11 ann 1 n (stL w os o 256) (thL x.1 x.2.1 x.2.2.1 x.2.2.2.1 x.2.2.2.2.1 x.2.2.2.2.2)
def ECR (w : World) (os : OsState) (o : Nat → Obj) := some (Flow.next, st11 w os o, cE, (⟨48, 0, 48, 9⟩ : Pos))

def S0 (w : World) (os : OsState) : Shared := ⟨boot_heap w.params, #[], boot_drawn, boot_toks, os⟩
def treeOf : List Obj → Nat → BT → BT
  | [], _, T => T
  | o :: l, n, T => treeOf l (n + 1) (T.ins n o)
def G0 (w : World) (os : OsState) : Option (Shared × Thread) := topGo treeTable pw w 11 ann 12 (S0 w os) (topStub pw)
def toT (s : Shared) : SharedT := ⟨treeOf s.heap.objs.toList 0 .nil, s.heap.objs.size, s.heap.life, s.gens, s.drawn, s.toks, s.os⟩
def Sb (w : World) (os : OsState) : SharedT := match G0 w os with
  | some (s, _) => toT s
  | none => ⟨.nil, 0, {}, #[], {}, 0, os⟩
def G0R (w : World) (os : OsState) : Option (Shared × Thread) := some ((Sb w os).abs, ⟨denote treeTable cE, cE, default, B⟩)
def sts (i n : Nat) : List Stmt := ((behindTheImports pw).drop i).take n
def Bk (w : World) (os : OsState) := segRunT treeTable pw w 11 ann 1 1 (Sb w os) (blockOf (behindTheImports pw) env cE default B)
def BkR (w : World) (os : OsState) := some (Flow.next, Sb w os, cE, (default : Pos))
def R1 (w : World) (os : OsState) := segRunT treeTable pw w 11 ann 1 3000 (Sb w os) (piecesOf (sts 0 10) env cE default B)
/-- the objects behind the first ten rows -/
def o10 (w : World) (os : OsState) (a : Nat) : Obj := match R1 w os with
  | some x => (x.2.1.tree.get a).getD default
  | none => default
def R1R (w : World) (os : OsState) := some (Flow.next, st10 w os (o10 w os), cE, (⟨47, 0, 47, 8⟩ : Pos))
def R3 (w : World) (os : OsState) := segRunT treeTable pw w 11 ann 1 6000 (st11 w os (o10 w os)) (piecesOf (sts 11 39) env cE ⟨48, 0, 48, 9⟩ B)

def sAt (i : Nat) : Stmt := ((behindTheImports pw)[i]?).getD (.Pass default)
def clsB : Stmt → List Stmt
  | .ClassDef _ _ _ b _ _ _ _ _ _ _ => b
  | _ => []
def mAt (i j : Nat) : Stmt := ((clsB (sAt i))[j]?).getD (.Pass default)
def fdA : Stmt → Arguments
  | .FunctionDef _ a _ _ _ _ _ _ _ _ => a
  | _ => default
def fdB : Stmt → List Stmt
  | .FunctionDef _ _ b _ _ _ _ _ _ _ => b
  | _ => []
def fdS : Stmt → Scope
  | .FunctionDef _ _ _ _ _ _ s _ _ _ => s
  | _ => pw.main.scope
def ob2 (P : Params) : Obj := { cls := .none, dict := none, data := .dict #[⟨PyData.keyHash P (Str.ofString "type.__subclasses__.Exception.0"), (.str (Str.ofString "type.__subclasses__.Exception.0") 212), (.int 31 0)⟩, ⟨PyData.keyHash P (Str.ofString "type.__subclasses__.Exception.n"), (.str (Str.ofString "type.__subclasses__.Exception.n") 213), (.int 1 0)⟩] 2, slots := #[] }
def ob3 (P : Params) : Obj := { cls := (.type "dict"), dict := none, data := .dict #[⟨PyData.keyHash P (Str.ofString "__name__"), (.str (Str.ofString "__name__") 165), (.str (Str.ofString "law_ff0024_03") 1644)⟩, ⟨PyData.keyHash P (Str.ofString "__doc__"), (.str (Str.ofString "__doc__") 166), .none⟩, ⟨PyData.keyHash P (Str.ofString "__package__"), (.str (Str.ofString "__package__") 167), .none⟩, ⟨PyData.keyHash P (Str.ofString "__loader__"), (.str (Str.ofString "__loader__") 168), (.builtin "__main__.__loader__#opaque")⟩, ⟨PyData.keyHash P (Str.ofString "__spec__"), (.str (Str.ofString "__spec__") 169), .none⟩, ⟨PyData.keyHash P (Str.ofString "__annotations__"), (.str (Str.ofString "__annotations__") 170), (.ref 6)⟩, ⟨PyData.keyHash P (Str.ofString "__builtins__"), (.str (Str.ofString "__builtins__") 171), (.ref 4)⟩, ⟨PyData.keyHash P (Str.ofString "__file__"), (.str (Str.ofString "__file__") 173), (.str (Str.ofString "/claim/cut.py") 172)⟩, ⟨PyData.keyHash P (Str.ofString "__cached__"), (.str (Str.ofString "__cached__") 174), .none⟩, ⟨PyData.keyHash P (Str.ofString "_wall"), (.str (Str.ofString "_wall") 193), (.ref 21)⟩, ⟨PyData.keyHash P (Str.ofString "RLPException"), (.str (Str.ofString "RLPException") 215), (.ref 31)⟩, ⟨PyData.keyHash P (Str.ofString "EncodingError"), (.str (Str.ofString "EncodingError") 243), (.ref 53)⟩, ⟨PyData.keyHash P (Str.ofString "DecodingError"), (.str (Str.ofString "DecodingError") 271), (.ref 74)⟩, ⟨PyData.keyHash P (Str.ofString "SerializationError"), (.str (Str.ofString "SerializationError") 299), (.ref 95)⟩, ⟨PyData.keyHash P (Str.ofString "ListSerializationError"), (.str (Str.ofString "ListSerializationError") 330), (.ref 117)⟩, ⟨PyData.keyHash P (Str.ofString "DeserializationError"), (.str (Str.ofString "DeserializationError") 358), (.ref 138)⟩, ⟨PyData.keyHash P (Str.ofString "ListDeserializationError"), (.str (Str.ofString "ListDeserializationError") 389), (.ref 160)⟩, ⟨PyData.keyHash P (Str.ofString "ALL_BYTES"), (.str (Str.ofString "ALL_BYTES") 1163), (.ref 1450)⟩, ⟨PyData.keyHash P (Str.ofString "is_bytes"), (.str (Str.ofString "is_bytes") 1170), (.ref 1457)⟩, ⟨PyData.keyHash P (Str.ofString "big_endian_to_int"), (.str (Str.ofString "big_endian_to_int") 1177), (.ref 1464)⟩, ⟨PyData.keyHash P (Str.ofString "int_to_big_endian"), (.str (Str.ofString "int_to_big_endian") 1184), (.ref 1471)⟩, ⟨PyData.keyHash P (Str.ofString "BigEndianInt"), (.str (Str.ofString "BigEndianInt") 1232), (.ref 1503)⟩, ⟨PyData.keyHash P (Str.ofString "big_endian_int"), (.str (Str.ofString "big_endian_int") 1237), (.ref 1509)⟩, ⟨PyData.keyHash P (Str.ofString "Binary"), (.str (Str.ofString "Binary") 1337), (.ref 1570)⟩, ⟨PyData.keyHash P (Str.ofString "binary"), (.str (Str.ofString "binary") 1349), (.ref 1576)⟩, ⟨PyData.keyHash P (Str.ofString "Boolean"), (.str (Str.ofString "Boolean") 1387), (.ref 1601)⟩, ⟨PyData.keyHash P (Str.ofString "boolean"), (.str (Str.ofString "boolean") 1388), (.ref 1607)⟩, ⟨PyData.keyHash P (Str.ofString "is_sedes"), (.str (Str.ofString "is_sedes") 1397), (.ref 1614)⟩, ⟨PyData.keyHash P (Str.ofString "is_sequence"), (.str (Str.ofString "is_sequence") 1404), (.ref 1621)⟩, ⟨PyData.keyHash P (Str.ofString "List"), (.str (Str.ofString "List") 1469), (.ref 1660)⟩, ⟨PyData.keyHash P (Str.ofString "CountableList"), (.str (Str.ofString "CountableList") 1524), (.ref 1696)⟩, ⟨PyData.keyHash P (Str.ofString "encode_raw"), (.str (Str.ofString "encode_raw") 1537), (.ref 1707)⟩, ⟨PyData.keyHash P (Str.ofString "decode_raw"), (.str (Str.ofString "decode_raw") 1550), (.ref 1714)⟩, ⟨PyData.keyHash P (Str.ofString "encode"), (.str (Str.ofString "encode") 1562), (.ref 1722)⟩, ⟨PyData.keyHash P (Str.ofString "LONG_LENGTH"), (.str (Str.ofString "LONG_LENGTH") 1566), (.int 18446744073709551616 1565)⟩, ⟨PyData.keyHash P (Str.ofString "length_prefix"), (.str (Str.ofString "length_prefix") 1575), (.ref 1729)⟩, ⟨PyData.keyHash P (Str.ofString "SHORT_STRING"), (.str (Str.ofString "SHORT_STRING") 1579), (.int 184 1578)⟩, ⟨PyData.keyHash P (Str.ofString "consume_length_prefix"), (.str (Str.ofString "consume_length_prefix") 1591), (.ref 1736)⟩, ⟨PyData.keyHash P (Str.ofString "consume_payload"), (.str (Str.ofString "consume_payload") 1613), (.ref 1743)⟩, ⟨PyData.keyHash P (Str.ofString "consume_item"), (.str (Str.ofString "consume_item") 1625), (.ref 1750)⟩, ⟨PyData.keyHash P (Str.ofString "decode"), (.str (Str.ofString "decode") 1637), (.ref 1758)⟩, ⟨PyData.keyHash P (Str.ofString "infer_sedes"), (.str (Str.ofString "infer_sedes") 1643), (.ref 1763)⟩, ⟨PyData.keyHash P (Str.ofString "_law_often"), (.str (Str.ofString "_law_often") 1665), (.ref 1764)⟩, ⟨PyData.keyHash P (Str.ofString "_law_letters"), (.str (Str.ofString "_law_letters") 1675), (.ref 1771)⟩, ⟨PyData.keyHash P (Str.ofString "_law_kind"), (.str (Str.ofString "_law_kind") 1686), (.ref 1778)⟩, ⟨PyData.keyHash P (Str.ofString "_law_sedes"), (.str (Str.ofString "_law_sedes") 1693), (.ref 1785)⟩, ⟨PyData.keyHash P (Str.ofString "_law_fits"), (.str (Str.ofString "_law_fits") 1701), (.ref 1792)⟩, ⟨PyData.keyHash P (Str.ofString "_law_count"), (.str (Str.ofString "_law_count") 1707), (.ref 1797)⟩, ⟨PyData.keyHash P (Str.ofString "_law_rows"), (.str (Str.ofString "_law_rows") 1721), (.ref 1804)⟩, ⟨PyData.keyHash P (Str.ofString "_law_reads"), (.str (Str.ofString "_law_reads") 1731), (.ref 1811)⟩, ⟨PyData.keyHash P (Str.ofString "law"), (.str (Str.ofString "law") 1737), (.ref 1816)⟩] 51, slots := #[] }
def ob4 (P : Params) : Obj := { cls := (.type "module"), dict := some 0, data := .plain, slots := #[] }
def ob5 (P : Params) : Obj := { cls := (.type "module"), dict := some 3, data := .plain, slots := #[] }
def ob30 (P : Params) : Obj := { cls := (.type "dict"), dict := none, data := .dict #[⟨PyData.keyHash P (Str.ofString "__module__"), (.str (Str.ofString "__module__") 203), (.str (Str.ofString "rlp.exceptions") 194)⟩, ⟨PyData.keyHash P (Str.ofString "__firstlineno__"), (.str (Str.ofString "__firstlineno__") 207), (.int 5 206)⟩, ⟨PyData.keyHash P (Str.ofString "__static_attributes__"), (.str (Str.ofString "__static_attributes__") 208), (.ref 29)⟩, ⟨PyData.keyHash P (Str.ofString "__weakref__"), (.str (Str.ofString "__weakref__") 210), (.ref 32)⟩, ⟨PyData.keyHash P (Str.ofString "__doc__"), (.str (Str.ofString "__doc__") 211), .none⟩] 3, slots := #[] }
def ob31 (P : Params) : Obj := { cls := (.type "type"), dict := none, data := .cls { name := (Str.ofString "RLPException"), bases := [(.type "Exception")], mro := [(.ref 31), (.type "Exception"), (.type "BaseException"), (.type "object")], ns := 30, qualname := (Str.ofString "RLPException"), hasDict := true, slotNames := [], subclasses := [(.ref 53), (.ref 74), (.ref 95), (.ref 138)], abstract := false, collection := none, hasDel := false }, slots := #[some (.ref 22), none, some (.str (Str.ofString "RLPException") 196), some (.str (Str.ofString "RLPException") 204), some (.builtin "Exception.__new__"), some (.bool true)] }
def ob59 (P : Params) : Obj := { cls := (.type "cell"), dict := none, data := .cell (some (.ref 74)), slots := #[] }
def ob64 (P : Params) : Obj := { cls := (.type "tuple"), dict := none, data := .seq #[(.ref 59)] 0, slots := #[] }
def ob66 (P : Params) : Obj := { cls := .none, dict := none, data := .fields #[], slots := #[] }
def ob70 (P : Params) : Obj := { cls := (.type "code"), dict := none, data := .fields #[(.str (Str.ofString "__init__") 256), (.str (Str.ofString "DecodingError.__init__") 257), (.str (Str.ofString "/claim/cut.py") 258), (.int 14 0), (.int 3 0), (.int 0 0), (.int 0 0), (.int 3 0), (.ref 65), (.bool true), (.int 181 0), (.ref 66), .none, (.ref 67), (.ref 68), (.ref 69), (.int 263 0), (.int 14 0), (.str (Str.ofString "/claim/cut.py") 264)], slots := #[] }
def ob71 (P : Params) : Obj := { cls := (.type "function"), dict := none, data := .func { name := (Str.ofString "__init__"), qualname := (Str.ofString "DecodingError.__init__"), params := fdA (mAt 4 0), body := .stmts (fdB (mAt 4 0)), scope := fdS (mAt 4 0), globals := 3, closure := [(Str.ofString "__class__", 59)], defaults := .none, kwdefaults := .none, doc := .none, pyModule := (.str (Str.ofString "rlp.exceptions") 194), code := (.ref 70), closureTuple := (.ref 64), builtins := 0 }, slots := #[] }
def ob73 (P : Params) : Obj := { cls := (.type "dict"), dict := none, data := .dict #[⟨PyData.keyHash P (Str.ofString "__module__"), (.str (Str.ofString "__module__") 251), (.str (Str.ofString "rlp.exceptions") 194)⟩, ⟨PyData.keyHash P (Str.ofString "__firstlineno__"), (.str (Str.ofString "__firstlineno__") 255), (.int 12 254)⟩, ⟨PyData.keyHash P (Str.ofString "__init__"), (.str (Str.ofString "__init__") 265), (.ref 71)⟩, ⟨PyData.keyHash P (Str.ofString "__static_attributes__"), (.str (Str.ofString "__static_attributes__") 267), (.ref 72)⟩, ⟨PyData.keyHash P (Str.ofString "__doc__"), (.str (Str.ofString "__doc__") 269), .none⟩] 3, slots := #[] }
def ob74 (P : Params) : Obj := { cls := (.type "type"), dict := none, data := .cls { name := (Str.ofString "DecodingError"), bases := [(.ref 31)], mro := [(.ref 74), (.ref 31), (.type "Exception"), (.type "BaseException"), (.type "object")], ns := 73, qualname := (Str.ofString "DecodingError"), hasDict := true, slotNames := [], subclasses := [], abstract := false, collection := none, hasDel := false }, slots := #[some (.ref 56), none, some (.str (Str.ofString "DecodingError") 244), some (.str (Str.ofString "DecodingError") 252), some (.builtin "Exception.__new__"), some (.bool true)] }
def ob123 (P : Params) : Obj := { cls := (.type "cell"), dict := none, data := .cell (some (.ref 138)), slots := #[] }
def ob128 (P : Params) : Obj := { cls := (.type "tuple"), dict := none, data := .seq #[(.ref 123)] 0, slots := #[] }
def ob130 (P : Params) : Obj := { cls := .none, dict := none, data := .fields #[], slots := #[] }
def ob134 (P : Params) : Obj := { cls := (.type "code"), dict := none, data := .fields #[(.str (Str.ofString "__init__") 343), (.str (Str.ofString "DeserializationError.__init__") 344), (.str (Str.ofString "/claim/cut.py") 345), (.int 34 0), (.int 3 0), (.int 0 0), (.int 0 0), (.int 3 0), (.ref 129), (.bool true), (.int 181 0), (.ref 130), .none, (.ref 131), (.ref 132), (.ref 133), (.int 350 0), (.int 34 0), (.str (Str.ofString "/claim/cut.py") 351)], slots := #[] }
def ob135 (P : Params) : Obj := { cls := (.type "function"), dict := none, data := .func { name := (Str.ofString "__init__"), qualname := (Str.ofString "DeserializationError.__init__"), params := fdA (mAt 7 0), body := .stmts (fdB (mAt 7 0)), scope := fdS (mAt 7 0), globals := 3, closure := [(Str.ofString "__class__", 123)], defaults := .none, kwdefaults := .none, doc := .none, pyModule := (.str (Str.ofString "rlp.exceptions") 194), code := (.ref 134), closureTuple := (.ref 128), builtins := 0 }, slots := #[] }
def ob137 (P : Params) : Obj := { cls := (.type "dict"), dict := none, data := .dict #[⟨PyData.keyHash P (Str.ofString "__module__"), (.str (Str.ofString "__module__") 338), (.str (Str.ofString "rlp.exceptions") 194)⟩, ⟨PyData.keyHash P (Str.ofString "__firstlineno__"), (.str (Str.ofString "__firstlineno__") 342), (.int 32 341)⟩, ⟨PyData.keyHash P (Str.ofString "__init__"), (.str (Str.ofString "__init__") 352), (.ref 135)⟩, ⟨PyData.keyHash P (Str.ofString "__static_attributes__"), (.str (Str.ofString "__static_attributes__") 354), (.ref 136)⟩, ⟨PyData.keyHash P (Str.ofString "__doc__"), (.str (Str.ofString "__doc__") 356), .none⟩] 3, slots := #[] }
def ob138 (P : Params) : Obj := { cls := (.type "type"), dict := none, data := .cls { name := (Str.ofString "DeserializationError"), bases := [(.ref 31)], mro := [(.ref 138), (.ref 31), (.type "Exception"), (.type "BaseException"), (.type "object")], ns := 137, qualname := (Str.ofString "DeserializationError"), hasDict := true, slotNames := [], subclasses := [(.ref 160)], abstract := false, collection := none, hasDel := false }, slots := #[some (.ref 120), none, some (.str (Str.ofString "DeserializationError") 331), some (.str (Str.ofString "DeserializationError") 339), some (.builtin "Exception.__new__"), some (.bool true)] }
def ob144 (P : Params) : Obj := { cls := (.type "cell"), dict := none, data := .cell (some (.ref 160)), slots := #[] }
def ob149 (P : Params) : Obj := { cls := (.type "tuple"), dict := none, data := .seq #[.none, .none, .none, .none] 0, slots := #[] }
def ob150 (P : Params) : Obj := { cls := (.type "tuple"), dict := none, data := .seq #[(.ref 144)] 0, slots := #[] }
def ob152 (P : Params) : Obj := { cls := .none, dict := none, data := .fields #[], slots := #[] }
def ob156 (P : Params) : Obj := { cls := (.type "code"), dict := none, data := .fields #[(.str (Str.ofString "__init__") 371), (.str (Str.ofString "ListDeserializationError.__init__") 372), (.str (Str.ofString "/claim/cut.py") 373), (.int 39 0), (.int 5 0), (.int 0 0), (.int 0 0), (.int 3 0), (.ref 151), (.bool true), (.int 181 0), (.ref 152), .none, (.ref 153), (.ref 154), (.ref 155), (.int 380 0), (.int 39 0), (.str (Str.ofString "/claim/cut.py") 381)], slots := #[] }
def ob157 (P : Params) : Obj := { cls := (.type "function"), dict := none, data := .func { name := (Str.ofString "__init__"), qualname := (Str.ofString "ListDeserializationError.__init__"), params := fdA (mAt 8 0), body := .stmts (fdB (mAt 8 0)), scope := fdS (mAt 8 0), globals := 3, closure := [(Str.ofString "__class__", 144)], defaults := (.ref 149), kwdefaults := .none, doc := .none, pyModule := (.str (Str.ofString "rlp.exceptions") 194), code := (.ref 156), closureTuple := (.ref 150), builtins := 0 }, slots := #[] }
def ob159 (P : Params) : Obj := { cls := (.type "dict"), dict := none, data := .dict #[⟨PyData.keyHash P (Str.ofString "__module__"), (.str (Str.ofString "__module__") 366), (.str (Str.ofString "rlp.exceptions") 194)⟩, ⟨PyData.keyHash P (Str.ofString "__firstlineno__"), (.str (Str.ofString "__firstlineno__") 370), (.int 37 369)⟩, ⟨PyData.keyHash P (Str.ofString "__init__"), (.str (Str.ofString "__init__") 382), (.ref 157)⟩, ⟨PyData.keyHash P (Str.ofString "__static_attributes__"), (.str (Str.ofString "__static_attributes__") 385), (.ref 158)⟩, ⟨PyData.keyHash P (Str.ofString "__doc__"), (.str (Str.ofString "__doc__") 387), .none⟩] 3, slots := #[] }
def ob160 (P : Params) : Obj := { cls := (.type "type"), dict := none, data := .cls { name := (Str.ofString "ListDeserializationError"), bases := [(.ref 138)], mro := [(.ref 160), (.ref 138), (.ref 31), (.type "Exception"), (.type "BaseException"), (.type "object")], ns := 159, qualname := (Str.ofString "ListDeserializationError"), hasDict := true, slotNames := [], subclasses := [], abstract := false, collection := none, hasDel := false }, slots := #[some (.ref 141), none, some (.str (Str.ofString "ListDeserializationError") 359), some (.str (Str.ofString "ListDeserializationError") 367), some (.builtin "Exception.__new__"), some (.bool true)] }
def ob1456 (P : Params) : Obj := { cls := (.type "code"), dict := none, data := .fields #[(.str (Str.ofString "is_bytes") 1164), (.str (Str.ofString "is_bytes") 1165), (.str (Str.ofString "/claim/cut.py") 1166), (.int 49 0), (.int 1 0), (.int 0 0), (.int 0 0), (.int 3 0), (.ref 1451), (.bool true), (.int 181 0), (.ref 1452), .none, (.ref 1453), (.ref 1454), (.ref 1455), (.int 1168 0), (.int 49 0), (.str (Str.ofString "/claim/cut.py") 1169)], slots := #[] }
def ob1457 (P : Params) : Obj := { cls := (.type "function"), dict := none, data := .func { name := (Str.ofString "is_bytes"), qualname := (Str.ofString "is_bytes"), params := fdA (sAt 11), body := .stmts (fdB (sAt 11)), scope := fdS (sAt 11), globals := 3, closure := [], defaults := .none, kwdefaults := .none, doc := .none, pyModule := (.str (Str.ofString "rlp.utils") 390), code := (.ref 1456), closureTuple := .none, builtins := 0 }, slots := #[] }
def ob1463 (P : Params) : Obj := { cls := (.type "code"), dict := none, data := .fields #[(.str (Str.ofString "big_endian_to_int") 1171), (.str (Str.ofString "big_endian_to_int") 1172), (.str (Str.ofString "/claim/cut.py") 1173), (.int 51 0), (.int 1 0), (.int 0 0), (.int 0 0), (.int 3 0), (.ref 1458), (.bool true), (.int 181 0), (.ref 1459), .none, (.ref 1460), (.ref 1461), (.ref 1462), (.int 1175 0), (.int 51 0), (.str (Str.ofString "/claim/cut.py") 1176)], slots := #[] }
def ob1464 (P : Params) : Obj := { cls := (.type "function"), dict := none, data := .func { name := (Str.ofString "big_endian_to_int"), qualname := (Str.ofString "big_endian_to_int"), params := fdA (sAt 12), body := .stmts (fdB (sAt 12)), scope := fdS (sAt 12), globals := 3, closure := [], defaults := .none, kwdefaults := .none, doc := .none, pyModule := (.str (Str.ofString "rlp.utils") 390), code := (.ref 1463), closureTuple := .none, builtins := 0 }, slots := #[] }
def ob1470 (P : Params) : Obj := { cls := (.type "code"), dict := none, data := .fields #[(.str (Str.ofString "int_to_big_endian") 1178), (.str (Str.ofString "int_to_big_endian") 1179), (.str (Str.ofString "/claim/cut.py") 1180), (.int 53 0), (.int 1 0), (.int 0 0), (.int 0 0), (.int 3 0), (.ref 1465), (.bool true), (.int 181 0), (.ref 1466), .none, (.ref 1467), (.ref 1468), (.ref 1469), (.int 1182 0), (.int 53 0), (.str (Str.ofString "/claim/cut.py") 1183)], slots := #[] }
def ob1471 (P : Params) : Obj := { cls := (.type "function"), dict := none, data := .func { name := (Str.ofString "int_to_big_endian"), qualname := (Str.ofString "int_to_big_endian"), params := fdA (sAt 13), body := .stmts (fdB (sAt 13)), scope := fdS (sAt 13), globals := 3, closure := [], defaults := .none, kwdefaults := .none, doc := .none, pyModule := (.str (Str.ofString "rlp.utils") 390), code := (.ref 1470), closureTuple := .none, builtins := 0 }, slots := #[] }
def ob1502 (P : Params) : Obj := { cls := (.type "dict"), dict := none, data := .dict #[⟨PyData.keyHash P (Str.ofString "__module__"), (.str (Str.ofString "__module__") 1194), (.str (Str.ofString "rlp.sedes.big_endian_int") 1185)⟩, ⟨PyData.keyHash P (Str.ofString "__firstlineno__"), (.str (Str.ofString "__firstlineno__") 1198), (.int 56 1197)⟩, ⟨PyData.keyHash P (Str.ofString "__init__"), (.str (Str.ofString "__init__") 1206), (.ref 1486)⟩, ⟨PyData.keyHash P (Str.ofString "serialize"), (.str (Str.ofString "serialize") 1215), (.ref 1493)⟩, ⟨PyData.keyHash P (Str.ofString "deserialize"), (.str (Str.ofString "deserialize") 1223), (.ref 1500)⟩, ⟨PyData.keyHash P (Str.ofString "__static_attributes__"), (.str (Str.ofString "__static_attributes__") 1225), (.ref 1501)⟩, ⟨PyData.keyHash P (Str.ofString "__dict__"), (.str (Str.ofString "__dict__") 1227), (.ref 1504)⟩, ⟨PyData.keyHash P (Str.ofString "__weakref__"), (.str (Str.ofString "__weakref__") 1229), (.ref 1505)⟩, ⟨PyData.keyHash P (Str.ofString "__doc__"), (.str (Str.ofString "__doc__") 1230), .none⟩] 4, slots := #[] }
def ob1503 (P : Params) : Obj := { cls := (.type "type"), dict := none, data := .cls { name := (Str.ofString "BigEndianInt"), bases := [(.type "object")], mro := [(.ref 1503), (.type "object")], ns := 1502, qualname := (Str.ofString "BigEndianInt"), hasDict := true, slotNames := [], subclasses := [], abstract := false, collection := none, hasDel := false }, slots := #[none, none, some (.str (Str.ofString "BigEndianInt") 1187), some (.str (Str.ofString "BigEndianInt") 1195), some (.builtin "object.__new__"), some (.bool true)] }
def ob1518 (P : Params) : Obj := { cls := (.type "tuple"), dict := none, data := .seq #[.none, .none, (.bool false)] 0, slots := #[] }
def ob1524 (P : Params) : Obj := { cls := (.type "code"), dict := none, data := .fields #[(.str (Str.ofString "__init__") 1252), (.str (Str.ofString "Binary.__init__") 1253), (.str (Str.ofString "/claim/cut.py") 1254), (.int 88 0), (.int 4 0), (.int 0 0), (.int 0 0), (.int 3 0), (.ref 1519), (.bool true), (.int 181 0), (.ref 1520), .none, (.ref 1521), (.ref 1522), (.ref 1523), (.int 1259 0), (.int 88 0), (.str (Str.ofString "/claim/cut.py") 1260)], slots := #[] }
def ob1525 (P : Params) : Obj := { cls := (.type "function"), dict := none, data := .func { name := (Str.ofString "__init__"), qualname := (Str.ofString "Binary.__init__"), params := fdA (mAt 18 0), body := .stmts (fdB (mAt 18 0)), scope := fdS (mAt 18 0), globals := 3, closure := [], defaults := (.ref 1518), kwdefaults := .none, doc := .none, pyModule := (.str (Str.ofString "rlp.sedes.binary") 1238), code := (.ref 1524), closureTuple := .none, builtins := 0 }, slots := #[] }
def ob1542 (P : Params) : Obj := { cls := (.type "code"), dict := none, data := .fields #[(.str (Str.ofString "is_valid_type") 1283), (.str (Str.ofString "Binary.is_valid_type") 1284), (.str (Str.ofString "/claim/cut.py") 1285), (.int 97 0), (.int 2 0), (.int 0 0), (.int 0 0), (.int 3 0), (.ref 1537), (.bool true), (.int 181 0), (.ref 1538), .none, (.ref 1539), (.ref 1540), (.ref 1541), (.int 1288 0), (.int 97 0), (.str (Str.ofString "/claim/cut.py") 1289)], slots := #[] }
def ob1543 (P : Params) : Obj := { cls := (.type "function"), dict := none, data := .func { name := (Str.ofString "is_valid_type"), qualname := (Str.ofString "Binary.is_valid_type"), params := fdA (mAt 18 2), body := .stmts (fdB (mAt 18 2)), scope := fdS (mAt 18 2), globals := 3, closure := [], defaults := .none, kwdefaults := .none, doc := .none, pyModule := (.str (Str.ofString "rlp.sedes.binary") 1238), annotations := (some 1546), code := (.ref 1542), closureTuple := .none, builtins := 0 }, slots := #[] }
def ob1544 (P : Params) : Obj := { cls := (.type "dict"), dict := none, data := .dict #[⟨PyData.keyHash P (Str.ofString "__module__"), (.str (Str.ofString "__module__") 1291), (.str (Str.ofString "rlp.sedes.binary") 1238)⟩, ⟨PyData.keyHash P (Str.ofString "__name__"), (.str (Str.ofString "__name__") 1294), (.str (Str.ofString "is_valid_type") 1293)⟩, ⟨PyData.keyHash P (Str.ofString "__qualname__"), (.str (Str.ofString "__qualname__") 1297), (.str (Str.ofString "Binary.is_valid_type") 1296)⟩, ⟨PyData.keyHash P (Str.ofString "__doc__"), (.str (Str.ofString "__doc__") 1299), .none⟩, ⟨PyData.keyHash P (Str.ofString "__annotations__"), (.str (Str.ofString "__annotations__") 1301), (.ref 1546)⟩] 5, slots := #[] }
def ob1545 (P : Params) : Obj := { cls := (.type "classmethod"), dict := some 1544, data := .fields #[(.ref 1543), (.bool false)], slots := #[] }
def ob1552 (P : Params) : Obj := { cls := (.type "code"), dict := none, data := .fields #[(.str (Str.ofString "is_valid_length") 1303), (.str (Str.ofString "Binary.is_valid_length") 1304), (.str (Str.ofString "/claim/cut.py") 1305), (.int 101 0), (.int 2 0), (.int 0 0), (.int 0 0), (.int 3 0), (.ref 1547), (.bool true), (.int 181 0), (.ref 1548), .none, (.ref 1549), (.ref 1550), (.ref 1551), (.int 1308 0), (.int 101 0), (.str (Str.ofString "/claim/cut.py") 1309)], slots := #[] }
def ob1553 (P : Params) : Obj := { cls := (.type "function"), dict := none, data := .func { name := (Str.ofString "is_valid_length"), qualname := (Str.ofString "Binary.is_valid_length"), params := fdA (mAt 18 3), body := .stmts (fdB (mAt 18 3)), scope := fdS (mAt 18 3), globals := 3, closure := [], defaults := .none, kwdefaults := .none, doc := .none, pyModule := (.str (Str.ofString "rlp.sedes.binary") 1238), code := (.ref 1552), closureTuple := .none, builtins := 0 }, slots := #[] }
def ob1559 (P : Params) : Obj := { cls := (.type "code"), dict := none, data := .fields #[(.str (Str.ofString "serialize") 1311), (.str (Str.ofString "Binary.serialize") 1312), (.str (Str.ofString "/claim/cut.py") 1313), (.int 104 0), (.int 2 0), (.int 0 0), (.int 0 0), (.int 3 0), (.ref 1554), (.bool true), (.int 181 0), (.ref 1555), .none, (.ref 1556), (.ref 1557), (.ref 1558), (.int 1316 0), (.int 104 0), (.str (Str.ofString "/claim/cut.py") 1317)], slots := #[] }
def ob1560 (P : Params) : Obj := { cls := (.type "function"), dict := none, data := .func { name := (Str.ofString "serialize"), qualname := (Str.ofString "Binary.serialize"), params := fdA (mAt 18 4), body := .stmts (fdB (mAt 18 4)), scope := fdS (mAt 18 4), globals := 3, closure := [], defaults := .none, kwdefaults := .none, doc := .none, pyModule := (.str (Str.ofString "rlp.sedes.binary") 1238), code := (.ref 1559), closureTuple := .none, builtins := 0 }, slots := #[] }
def ob1566 (P : Params) : Obj := { cls := (.type "code"), dict := none, data := .fields #[(.str (Str.ofString "deserialize") 1319), (.str (Str.ofString "Binary.deserialize") 1320), (.str (Str.ofString "/claim/cut.py") 1321), (.int 111 0), (.int 2 0), (.int 0 0), (.int 0 0), (.int 3 0), (.ref 1561), (.bool true), (.int 181 0), (.ref 1562), .none, (.ref 1563), (.ref 1564), (.ref 1565), (.int 1324 0), (.int 111 0), (.str (Str.ofString "/claim/cut.py") 1325)], slots := #[] }
def ob1567 (P : Params) : Obj := { cls := (.type "function"), dict := none, data := .func { name := (Str.ofString "deserialize"), qualname := (Str.ofString "Binary.deserialize"), params := fdA (mAt 18 5), body := .stmts (fdB (mAt 18 5)), scope := fdS (mAt 18 5), globals := 3, closure := [], defaults := .none, kwdefaults := .none, doc := .none, pyModule := (.str (Str.ofString "rlp.sedes.binary") 1238), code := (.ref 1566), closureTuple := .none, builtins := 0 }, slots := #[] }
def ob1569 (P : Params) : Obj := { cls := (.type "dict"), dict := none, data := .dict #[⟨PyData.keyHash P (Str.ofString "__module__"), (.str (Str.ofString "__module__") 1247), (.str (Str.ofString "rlp.sedes.binary") 1238)⟩, ⟨PyData.keyHash P (Str.ofString "__firstlineno__"), (.str (Str.ofString "__firstlineno__") 1251), (.int 86 1250)⟩, ⟨PyData.keyHash P (Str.ofString "__init__"), (.str (Str.ofString "__init__") 1261), (.ref 1525)⟩, ⟨PyData.keyHash P (Str.ofString "fixed_length"), (.str (Str.ofString "fixed_length") 1282), (.ref 1535)⟩, ⟨PyData.keyHash P (Str.ofString "is_valid_type"), (.str (Str.ofString "is_valid_type") 1302), (.ref 1545)⟩, ⟨PyData.keyHash P (Str.ofString "is_valid_length"), (.str (Str.ofString "is_valid_length") 1310), (.ref 1553)⟩, ⟨PyData.keyHash P (Str.ofString "serialize"), (.str (Str.ofString "serialize") 1318), (.ref 1560)⟩, ⟨PyData.keyHash P (Str.ofString "deserialize"), (.str (Str.ofString "deserialize") 1326), (.ref 1567)⟩, ⟨PyData.keyHash P (Str.ofString "__static_attributes__"), (.str (Str.ofString "__static_attributes__") 1330), (.ref 1568)⟩, ⟨PyData.keyHash P (Str.ofString "__dict__"), (.str (Str.ofString "__dict__") 1332), (.ref 1571)⟩, ⟨PyData.keyHash P (Str.ofString "__weakref__"), (.str (Str.ofString "__weakref__") 1334), (.ref 1572)⟩, ⟨PyData.keyHash P (Str.ofString "__doc__"), (.str (Str.ofString "__doc__") 1335), .none⟩] 4, slots := #[] }
def ob1570 (P : Params) : Obj := { cls := (.type "type"), dict := none, data := .cls { name := (Str.ofString "Binary"), bases := [(.type "object")], mro := [(.ref 1570), (.type "object")], ns := 1569, qualname := (Str.ofString "Binary"), hasDict := true, slotNames := [], subclasses := [], abstract := false, collection := none, hasDel := false }, slots := #[none, none, some (.str (Str.ofString "Binary") 1240), some (.str (Str.ofString "Binary") 1248), some (.builtin "object.__new__"), some (.bool true)] }
def ob1590 (P : Params) : Obj := { cls := (.type "code"), dict := none, data := .fields #[(.str (Str.ofString "serialize") 1364), (.str (Str.ofString "Boolean.serialize") 1365), (.str (Str.ofString "/claim/cut.py") 1366), (.int 122 0), (.int 2 0), (.int 0 0), (.int 0 0), (.int 3 0), (.ref 1585), (.bool true), (.int 181 0), (.ref 1586), .none, (.ref 1587), (.ref 1588), (.ref 1589), (.int 1369 0), (.int 122 0), (.str (Str.ofString "/claim/cut.py") 1370)], slots := #[] }
def ob1591 (P : Params) : Obj := { cls := (.type "function"), dict := none, data := .func { name := (Str.ofString "serialize"), qualname := (Str.ofString "Boolean.serialize"), params := fdA (mAt 21 0), body := .stmts (fdB (mAt 21 0)), scope := fdS (mAt 21 0), globals := 3, closure := [], defaults := .none, kwdefaults := .none, doc := .none, pyModule := (.str (Str.ofString "rlp.sedes.boolean") 1350), code := (.ref 1590), closureTuple := .none, builtins := 0 }, slots := #[] }
def ob1597 (P : Params) : Obj := { cls := (.type "code"), dict := none, data := .fields #[(.str (Str.ofString "deserialize") 1372), (.str (Str.ofString "Boolean.deserialize") 1373), (.str (Str.ofString "/claim/cut.py") 1374), (.int 132 0), (.int 2 0), (.int 0 0), (.int 0 0), (.int 3 0), (.ref 1592), (.bool true), (.int 181 0), (.ref 1593), .none, (.ref 1594), (.ref 1595), (.ref 1596), (.int 1377 0), (.int 132 0), (.str (Str.ofString "/claim/cut.py") 1378)], slots := #[] }
def ob1598 (P : Params) : Obj := { cls := (.type "function"), dict := none, data := .func { name := (Str.ofString "deserialize"), qualname := (Str.ofString "Boolean.deserialize"), params := fdA (mAt 21 1), body := .stmts (fdB (mAt 21 1)), scope := fdS (mAt 21 1), globals := 3, closure := [], defaults := .none, kwdefaults := .none, doc := .none, pyModule := (.str (Str.ofString "rlp.sedes.boolean") 1350), code := (.ref 1597), closureTuple := .none, builtins := 0 }, slots := #[] }
def ob1600 (P : Params) : Obj := { cls := (.type "dict"), dict := none, data := .dict #[⟨PyData.keyHash P (Str.ofString "__module__"), (.str (Str.ofString "__module__") 1359), (.str (Str.ofString "rlp.sedes.boolean") 1350)⟩, ⟨PyData.keyHash P (Str.ofString "__firstlineno__"), (.str (Str.ofString "__firstlineno__") 1363), (.int 120 1362)⟩, ⟨PyData.keyHash P (Str.ofString "serialize"), (.str (Str.ofString "serialize") 1371), (.ref 1591)⟩, ⟨PyData.keyHash P (Str.ofString "deserialize"), (.str (Str.ofString "deserialize") 1379), (.ref 1598)⟩, ⟨PyData.keyHash P (Str.ofString "__static_attributes__"), (.str (Str.ofString "__static_attributes__") 1380), (.ref 1599)⟩, ⟨PyData.keyHash P (Str.ofString "__dict__"), (.str (Str.ofString "__dict__") 1382), (.ref 1602)⟩, ⟨PyData.keyHash P (Str.ofString "__weakref__"), (.str (Str.ofString "__weakref__") 1384), (.ref 1603)⟩, ⟨PyData.keyHash P (Str.ofString "__doc__"), (.str (Str.ofString "__doc__") 1385), .none⟩] 4, slots := #[] }
def ob1601 (P : Params) : Obj := { cls := (.type "type"), dict := none, data := .cls { name := (Str.ofString "Boolean"), bases := [(.type "object")], mro := [(.ref 1601), (.type "object")], ns := 1600, qualname := (Str.ofString "Boolean"), hasDict := true, slotNames := [], subclasses := [], abstract := false, collection := none, hasDel := false }, slots := #[none, none, some (.str (Str.ofString "Boolean") 1352), some (.str (Str.ofString "Boolean") 1360), some (.builtin "object.__new__"), some (.bool true)] }
def ob1613 (P : Params) : Obj := { cls := (.type "code"), dict := none, data := .fields #[(.str (Str.ofString "is_sedes") 1391), (.str (Str.ofString "is_sedes") 1392), (.str (Str.ofString "/claim/cut.py") 1393), (.int 141 0), (.int 1 0), (.int 0 0), (.int 0 0), (.int 3 0), (.ref 1608), (.bool true), (.int 181 0), (.ref 1609), .none, (.ref 1610), (.ref 1611), (.ref 1612), (.int 1395 0), (.int 141 0), (.str (Str.ofString "/claim/cut.py") 1396)], slots := #[] }
def ob1614 (P : Params) : Obj := { cls := (.type "function"), dict := none, data := .func { name := (Str.ofString "is_sedes"), qualname := (Str.ofString "is_sedes"), params := fdA (sAt 24), body := .stmts (fdB (sAt 24)), scope := fdS (sAt 24), globals := 3, closure := [], defaults := .none, kwdefaults := .none, doc := .none, pyModule := (.str (Str.ofString "rlp.sedes.lists") 1389), code := (.ref 1613), closureTuple := .none, builtins := 0 }, slots := #[] }
def ob1620 (P : Params) : Obj := { cls := (.type "code"), dict := none, data := .fields #[(.str (Str.ofString "is_sequence") 1398), (.str (Str.ofString "is_sequence") 1399), (.str (Str.ofString "/claim/cut.py") 1400), (.int 143 0), (.int 1 0), (.int 0 0), (.int 0 0), (.int 3 0), (.ref 1615), (.bool true), (.int 181 0), (.ref 1616), .none, (.ref 1617), (.ref 1618), (.ref 1619), (.int 1402 0), (.int 143 0), (.str (Str.ofString "/claim/cut.py") 1403)], slots := #[] }
def ob1621 (P : Params) : Obj := { cls := (.type "function"), dict := none, data := .func { name := (Str.ofString "is_sequence"), qualname := (Str.ofString "is_sequence"), params := fdA (sAt 25), body := .stmts (fdB (sAt 25)), scope := fdS (sAt 25), globals := 3, closure := [], defaults := .none, kwdefaults := .none, doc := .none, pyModule := (.str (Str.ofString "rlp.sedes.lists") 1389), code := (.ref 1620), closureTuple := .none, builtins := 0 }, slots := #[] }
def ob1629 (P : Params) : Obj := { cls := (.type "tuple"), dict := none, data := .seq #[.none, (.bool true)] 0, slots := #[] }
def ob1635 (P : Params) : Obj := { cls := (.type "code"), dict := none, data := .fields #[(.str (Str.ofString "__init__") 1417), (.str (Str.ofString "List.__init__") 1418), (.str (Str.ofString "/claim/cut.py") 1419), (.int 147 0), (.int 3 0), (.int 0 0), (.int 0 0), (.int 3 0), (.ref 1630), (.bool true), (.int 181 0), (.ref 1631), .none, (.ref 1632), (.ref 1633), (.ref 1634), (.int 1424 0), (.int 147 0), (.str (Str.ofString "/claim/cut.py") 1425)], slots := #[] }
def ob1636 (P : Params) : Obj := { cls := (.type "function"), dict := none, data := .func { name := (Str.ofString "__init__"), qualname := (Str.ofString "List.__init__"), params := fdA (mAt 26 0), body := .stmts (fdB (mAt 26 0)), scope := fdS (mAt 26 0), globals := 3, closure := [], defaults := (.ref 1629), kwdefaults := .none, doc := .none, pyModule := (.str (Str.ofString "rlp.sedes.lists") 1389), code := (.ref 1635), closureTuple := .none, builtins := 0 }, slots := #[] }
def ob1642 (P : Params) : Obj := { cls := (.type "code"), dict := none, data := .fields #[(.str (Str.ofString "__len__") 1427), (.str (Str.ofString "List.__len__") 1428), (.str (Str.ofString "/claim/cut.py") 1429), (.int 159 0), (.int 1 0), (.int 0 0), (.int 0 0), (.int 3 0), (.ref 1637), (.bool true), (.int 181 0), (.ref 1638), .none, (.ref 1639), (.ref 1640), (.ref 1641), (.int 1431 0), (.int 159 0), (.str (Str.ofString "/claim/cut.py") 1432)], slots := #[] }
def ob1643 (P : Params) : Obj := { cls := (.type "function"), dict := none, data := .func { name := (Str.ofString "__len__"), qualname := (Str.ofString "List.__len__"), params := fdA (mAt 26 1), body := .stmts (fdB (mAt 26 1)), scope := fdS (mAt 26 1), globals := 3, closure := [], defaults := .none, kwdefaults := .none, doc := .none, pyModule := (.str (Str.ofString "rlp.sedes.lists") 1389), code := (.ref 1642), closureTuple := .none, builtins := 0 }, slots := #[] }
def ob1649 (P : Params) : Obj := { cls := (.type "code"), dict := none, data := .fields #[(.str (Str.ofString "serialize") 1434), (.str (Str.ofString "List.serialize") 1435), (.str (Str.ofString "/claim/cut.py") 1436), (.int 162 0), (.int 2 0), (.int 0 0), (.int 0 0), (.int 3 0), (.ref 1644), (.bool true), (.int 181 0), (.ref 1645), .none, (.ref 1646), (.ref 1647), (.ref 1648), (.int 1444 0), (.int 162 0), (.str (Str.ofString "/claim/cut.py") 1445)], slots := #[] }
def ob1650 (P : Params) : Obj := { cls := (.type "function"), dict := none, data := .func { name := (Str.ofString "serialize"), qualname := (Str.ofString "List.serialize"), params := fdA (mAt 26 2), body := .stmts (fdB (mAt 26 2)), scope := fdS (mAt 26 2), globals := 3, closure := [], defaults := .none, kwdefaults := .none, doc := .none, pyModule := (.str (Str.ofString "rlp.sedes.lists") 1389), code := (.ref 1649), closureTuple := .none, builtins := 0 }, slots := #[] }
def ob1656 (P : Params) : Obj := { cls := (.type "code"), dict := none, data := .fields #[(.str (Str.ofString "deserialize") 1447), (.str (Str.ofString "List.deserialize") 1448), (.str (Str.ofString "/claim/cut.py") 1449), (.int 175 0), (.int 2 0), (.int 0 0), (.int 0 0), (.int 3 0), (.ref 1651), (.bool true), (.int 181 0), (.ref 1652), .none, (.ref 1653), (.ref 1654), (.ref 1655), (.int 1457 0), (.int 175 0), (.str (Str.ofString "/claim/cut.py") 1458)], slots := #[] }
def ob1657 (P : Params) : Obj := { cls := (.type "function"), dict := none, data := .func { name := (Str.ofString "deserialize"), qualname := (Str.ofString "List.deserialize"), params := fdA (mAt 26 3), body := .stmts (fdB (mAt 26 3)), scope := fdS (mAt 26 3), globals := 3, closure := [], defaults := .none, kwdefaults := .none, doc := .none, pyModule := (.str (Str.ofString "rlp.sedes.lists") 1389), code := (.ref 1656), closureTuple := .none, builtins := 0 }, slots := #[] }
def ob1659 (P : Params) : Obj := { cls := (.type "dict"), dict := none, data := .dict #[⟨PyData.keyHash P (Str.ofString "__module__"), (.str (Str.ofString "__module__") 1412), (.str (Str.ofString "rlp.sedes.lists") 1389)⟩, ⟨PyData.keyHash P (Str.ofString "__firstlineno__"), (.str (Str.ofString "__firstlineno__") 1416), (.int 145 1415)⟩, ⟨PyData.keyHash P (Str.ofString "__init__"), (.str (Str.ofString "__init__") 1426), (.ref 1636)⟩, ⟨PyData.keyHash P (Str.ofString "__len__"), (.str (Str.ofString "__len__") 1433), (.ref 1643)⟩, ⟨PyData.keyHash P (Str.ofString "serialize"), (.str (Str.ofString "serialize") 1446), (.ref 1650)⟩, ⟨PyData.keyHash P (Str.ofString "deserialize"), (.str (Str.ofString "deserialize") 1459), (.ref 1657)⟩, ⟨PyData.keyHash P (Str.ofString "__static_attributes__"), (.str (Str.ofString "__static_attributes__") 1462), (.ref 1658)⟩, ⟨PyData.keyHash P (Str.ofString "__dict__"), (.str (Str.ofString "__dict__") 1464), (.ref 1661)⟩, ⟨PyData.keyHash P (Str.ofString "__weakref__"), (.str (Str.ofString "__weakref__") 1466), (.ref 1662)⟩, ⟨PyData.keyHash P (Str.ofString "__doc__"), (.str (Str.ofString "__doc__") 1467), .none⟩] 4, slots := #[] }
def ob1660 (P : Params) : Obj := { cls := (.type "type"), dict := none, data := .cls { name := (Str.ofString "List"), bases := [(.type "object")], mro := [(.ref 1660), (.type "object")], ns := 1659, qualname := (Str.ofString "List"), hasDict := true, slotNames := [], subclasses := [], abstract := false, collection := none, hasDel := false }, slots := #[none, none, some (.str (Str.ofString "List") 1405), some (.str (Str.ofString "List") 1413), some (.builtin "object.__new__"), some (.bool true)] }
def ob1672 (P : Params) : Obj := { cls := (.type "tuple"), dict := none, data := .seq #[.none] 0, slots := #[] }
def ob1678 (P : Params) : Obj := { cls := (.type "code"), dict := none, data := .fields #[(.str (Str.ofString "__init__") 1482), (.str (Str.ofString "CountableList.__init__") 1483), (.str (Str.ofString "/claim/cut.py") 1484), (.int 189 0), (.int 3 0), (.int 0 0), (.int 0 0), (.int 3 0), (.ref 1673), (.bool true), (.int 181 0), (.ref 1674), .none, (.ref 1675), (.ref 1676), (.ref 1677), (.int 1488 0), (.int 189 0), (.str (Str.ofString "/claim/cut.py") 1489)], slots := #[] }
def ob1679 (P : Params) : Obj := { cls := (.type "function"), dict := none, data := .func { name := (Str.ofString "__init__"), qualname := (Str.ofString "CountableList.__init__"), params := fdA (mAt 27 0), body := .stmts (fdB (mAt 27 0)), scope := fdS (mAt 27 0), globals := 3, closure := [], defaults := (.ref 1672), kwdefaults := .none, doc := .none, pyModule := (.str (Str.ofString "rlp.sedes.lists") 1389), code := (.ref 1678), closureTuple := .none, builtins := 0 }, slots := #[] }
def ob1685 (P : Params) : Obj := { cls := (.type "code"), dict := none, data := .fields #[(.str (Str.ofString "serialize") 1491), (.str (Str.ofString "CountableList.serialize") 1492), (.str (Str.ofString "/claim/cut.py") 1493), (.int 193 0), (.int 2 0), (.int 0 0), (.int 0 0), (.int 3 0), (.ref 1680), (.bool true), (.int 181 0), (.ref 1681), .none, (.ref 1682), (.ref 1683), (.ref 1684), (.int 1500 0), (.int 193 0), (.str (Str.ofString "/claim/cut.py") 1501)], slots := #[] }
def ob1686 (P : Params) : Obj := { cls := (.type "function"), dict := none, data := .func { name := (Str.ofString "serialize"), qualname := (Str.ofString "CountableList.serialize"), params := fdA (mAt 27 1), body := .stmts (fdB (mAt 27 1)), scope := fdS (mAt 27 1), globals := 3, closure := [], defaults := .none, kwdefaults := .none, doc := .none, pyModule := (.str (Str.ofString "rlp.sedes.lists") 1389), code := (.ref 1685), closureTuple := .none, builtins := 0 }, slots := #[] }
def ob1692 (P : Params) : Obj := { cls := (.type "code"), dict := none, data := .fields #[(.str (Str.ofString "deserialize") 1503), (.str (Str.ofString "CountableList.deserialize") 1504), (.str (Str.ofString "/claim/cut.py") 1505), (.int 206 0), (.int 2 0), (.int 0 0), (.int 0 0), (.int 3 0), (.ref 1687), (.bool true), (.int 181 0), (.ref 1688), .none, (.ref 1689), (.ref 1690), (.ref 1691), (.int 1512 0), (.int 206 0), (.str (Str.ofString "/claim/cut.py") 1513)], slots := #[] }
def ob1693 (P : Params) : Obj := { cls := (.type "function"), dict := none, data := .func { name := (Str.ofString "deserialize"), qualname := (Str.ofString "CountableList.deserialize"), params := fdA (mAt 27 2), body := .stmts (fdB (mAt 27 2)), scope := fdS (mAt 27 2), globals := 3, closure := [], defaults := .none, kwdefaults := .none, doc := .none, pyModule := (.str (Str.ofString "rlp.sedes.lists") 1389), code := (.ref 1692), closureTuple := .none, builtins := 0 }, slots := #[] }
def ob1695 (P : Params) : Obj := { cls := (.type "dict"), dict := none, data := .dict #[⟨PyData.keyHash P (Str.ofString "__module__"), (.str (Str.ofString "__module__") 1477), (.str (Str.ofString "rlp.sedes.lists") 1389)⟩, ⟨PyData.keyHash P (Str.ofString "__firstlineno__"), (.str (Str.ofString "__firstlineno__") 1481), (.int 187 1480)⟩, ⟨PyData.keyHash P (Str.ofString "__init__"), (.str (Str.ofString "__init__") 1490), (.ref 1679)⟩, ⟨PyData.keyHash P (Str.ofString "serialize"), (.str (Str.ofString "serialize") 1502), (.ref 1686)⟩, ⟨PyData.keyHash P (Str.ofString "deserialize"), (.str (Str.ofString "deserialize") 1514), (.ref 1693)⟩, ⟨PyData.keyHash P (Str.ofString "__static_attributes__"), (.str (Str.ofString "__static_attributes__") 1517), (.ref 1694)⟩, ⟨PyData.keyHash P (Str.ofString "__dict__"), (.str (Str.ofString "__dict__") 1519), (.ref 1697)⟩, ⟨PyData.keyHash P (Str.ofString "__weakref__"), (.str (Str.ofString "__weakref__") 1521), (.ref 1698)⟩, ⟨PyData.keyHash P (Str.ofString "__doc__"), (.str (Str.ofString "__doc__") 1522), .none⟩] 4, slots := #[] }
def ob1696 (P : Params) : Obj := { cls := (.type "type"), dict := none, data := .cls { name := (Str.ofString "CountableList"), bases := [(.type "object")], mro := [(.ref 1696), (.type "object")], ns := 1695, qualname := (Str.ofString "CountableList"), hasDict := true, slotNames := [], subclasses := [], abstract := false, collection := none, hasDel := false }, slots := #[none, none, some (.str (Str.ofString "CountableList") 1470), some (.str (Str.ofString "CountableList") 1478), some (.builtin "object.__new__"), some (.bool true)] }
def ob1701 (P : Params) : Obj := { cls := (.type "tuple"), dict := none, data := .seq #[] 0, slots := #[] }
def ob1702 (P : Params) : Obj := { cls := .none, dict := none, data := .fields #[], slots := #[] }
def ob1706 (P : Params) : Obj := { cls := (.type "code"), dict := none, data := .fields #[(.str (Str.ofString "encode_raw") 1527), (.str (Str.ofString "encode_raw") 1528), (.str (Str.ofString "/claim/cut.py") 1529), (.int 219 0), (.int 1 0), (.int 0 0), (.int 0 0), (.int 3 0), (.ref 1701), (.bool true), (.int 181 0), (.ref 1702), .none, (.ref 1703), (.ref 1704), (.ref 1705), (.int 1535 0), (.int 219 0), (.str (Str.ofString "/claim/cut.py") 1536)], slots := #[] }
def ob1707 (P : Params) : Obj := { cls := (.type "function"), dict := none, data := .func { name := (Str.ofString "encode_raw"), qualname := (Str.ofString "encode_raw"), params := fdA (sAt 29), body := .stmts (fdB (sAt 29)), scope := fdS (sAt 29), globals := 3, closure := [], defaults := .none, kwdefaults := .none, doc := .none, pyModule := (.str (Str.ofString "rlp.codec") 1525), code := (.ref 1706), closureTuple := .none, builtins := 0 }, slots := #[] }
def ob1713 (P : Params) : Obj := { cls := (.type "code"), dict := none, data := .fields #[(.str (Str.ofString "decode_raw") 1538), (.str (Str.ofString "decode_raw") 1539), (.str (Str.ofString "/claim/cut.py") 1540), (.int 236 0), (.int 3 0), (.int 0 0), (.int 0 0), (.int 3 0), (.ref 1708), (.bool true), (.int 181 0), (.ref 1709), .none, (.ref 1710), (.ref 1711), (.ref 1712), (.int 1548 0), (.int 236 0), (.str (Str.ofString "/claim/cut.py") 1549)], slots := #[] }
def ob1714 (P : Params) : Obj := { cls := (.type "function"), dict := none, data := .func { name := (Str.ofString "decode_raw"), qualname := (Str.ofString "decode_raw"), params := fdA (sAt 30), body := .stmts (fdB (sAt 30)), scope := fdS (sAt 30), globals := 3, closure := [], defaults := .none, kwdefaults := .none, doc := .none, pyModule := (.str (Str.ofString "rlp.codec") 1525), code := (.ref 1713), closureTuple := .none, builtins := 0 }, slots := #[] }
def ob1715 (P : Params) : Obj := { cls := (.type "tuple"), dict := none, data := .seq #[.none, (.bool true), (.bool true)] 0, slots := #[] }
def ob1721 (P : Params) : Obj := { cls := (.type "code"), dict := none, data := .fields #[(.str (Str.ofString "encode") 1551), (.str (Str.ofString "encode") 1552), (.str (Str.ofString "/claim/cut.py") 1553), (.int 245 0), (.int 4 0), (.int 0 0), (.int 0 0), (.int 3 0), (.ref 1716), (.bool true), (.int 181 0), (.ref 1717), .none, (.ref 1718), (.ref 1719), (.ref 1720), (.int 1560 0), (.int 245 0), (.str (Str.ofString "/claim/cut.py") 1561)], slots := #[] }
def ob1722 (P : Params) : Obj := { cls := (.type "function"), dict := none, data := .func { name := (Str.ofString "encode"), qualname := (Str.ofString "encode"), params := fdA (sAt 31), body := .stmts (fdB (sAt 31)), scope := fdS (sAt 31), globals := 3, closure := [], defaults := (.ref 1715), kwdefaults := .none, doc := .none, pyModule := (.str (Str.ofString "rlp.codec") 1525), code := (.ref 1721), closureTuple := .none, builtins := 0 }, slots := #[] }
def ob1728 (P : Params) : Obj := { cls := (.type "code"), dict := none, data := .fields #[(.str (Str.ofString "length_prefix") 1567), (.str (Str.ofString "length_prefix") 1568), (.str (Str.ofString "/claim/cut.py") 1569), (.int 255 0), (.int 2 0), (.int 0 0), (.int 0 0), (.int 3 0), (.ref 1723), (.bool true), (.int 181 0), (.ref 1724), .none, (.ref 1725), (.ref 1726), (.ref 1727), (.int 1573 0), (.int 255 0), (.str (Str.ofString "/claim/cut.py") 1574)], slots := #[] }
def ob1729 (P : Params) : Obj := { cls := (.type "function"), dict := none, data := .func { name := (Str.ofString "length_prefix"), qualname := (Str.ofString "length_prefix"), params := fdA (sAt 33), body := .stmts (fdB (sAt 33)), scope := fdS (sAt 33), globals := 3, closure := [], defaults := .none, kwdefaults := .none, doc := .none, pyModule := (.str (Str.ofString "rlp.codec") 1525), code := (.ref 1728), closureTuple := .none, builtins := 0 }, slots := #[] }
def ob1735 (P : Params) : Obj := { cls := (.type "code"), dict := none, data := .fields #[(.str (Str.ofString "consume_length_prefix") 1580), (.str (Str.ofString "consume_length_prefix") 1581), (.str (Str.ofString "/claim/cut.py") 1582), (.int 264 0), (.int 2 0), (.int 0 0), (.int 0 0), (.int 3 0), (.ref 1730), (.bool true), (.int 181 0), (.ref 1731), .none, (.ref 1732), (.ref 1733), (.ref 1734), (.int 1589 0), (.int 264 0), (.str (Str.ofString "/claim/cut.py") 1590)], slots := #[] }
def ob1736 (P : Params) : Obj := { cls := (.type "function"), dict := none, data := .func { name := (Str.ofString "consume_length_prefix"), qualname := (Str.ofString "consume_length_prefix"), params := fdA (sAt 35), body := .stmts (fdB (sAt 35)), scope := fdS (sAt 35), globals := 3, closure := [], defaults := .none, kwdefaults := .none, doc := .none, pyModule := (.str (Str.ofString "rlp.codec") 1525), code := (.ref 1735), closureTuple := .none, builtins := 0 }, slots := #[] }
def ob1742 (P : Params) : Obj := { cls := (.type "code"), dict := none, data := .fields #[(.str (Str.ofString "consume_payload") 1592), (.str (Str.ofString "consume_payload") 1593), (.str (Str.ofString "/claim/cut.py") 1594), (.int 292 0), (.int 5 0), (.int 0 0), (.int 0 0), (.int 3 0), (.ref 1737), (.bool true), (.int 181 0), (.ref 1738), .none, (.ref 1739), (.ref 1740), (.ref 1741), (.int 1611 0), (.int 292 0), (.str (Str.ofString "/claim/cut.py") 1612)], slots := #[] }
def ob1743 (P : Params) : Obj := { cls := (.type "function"), dict := none, data := .func { name := (Str.ofString "consume_payload"), qualname := (Str.ofString "consume_payload"), params := fdA (sAt 36), body := .stmts (fdB (sAt 36)), scope := fdS (sAt 36), globals := 3, closure := [], defaults := .none, kwdefaults := .none, doc := .none, pyModule := (.str (Str.ofString "rlp.codec") 1525), code := (.ref 1742), closureTuple := .none, builtins := 0 }, slots := #[] }
def ob1749 (P : Params) : Obj := { cls := (.type "code"), dict := none, data := .fields #[(.str (Str.ofString "consume_item") 1614), (.str (Str.ofString "consume_item") 1615), (.str (Str.ofString "/claim/cut.py") 1616), (.int 314 0), (.int 2 0), (.int 0 0), (.int 0 0), (.int 3 0), (.ref 1744), (.bool true), (.int 181 0), (.ref 1745), .none, (.ref 1746), (.ref 1747), (.ref 1748), (.int 1623 0), (.int 314 0), (.str (Str.ofString "/claim/cut.py") 1624)], slots := #[] }
def ob1750 (P : Params) : Obj := { cls := (.type "function"), dict := none, data := .func { name := (Str.ofString "consume_item"), qualname := (Str.ofString "consume_item"), params := fdA (sAt 37), body := .stmts (fdB (sAt 37)), scope := fdS (sAt 37), globals := 3, closure := [], defaults := .none, kwdefaults := .none, doc := .none, pyModule := (.str (Str.ofString "rlp.codec") 1525), code := (.ref 1749), closureTuple := .none, builtins := 0 }, slots := #[] }
def ob1751 (P : Params) : Obj := { cls := (.type "tuple"), dict := none, data := .seq #[.none, (.bool true), (.bool false)] 0, slots := #[] }
def ob1757 (P : Params) : Obj := { cls := (.type "code"), dict := none, data := .fields #[(.str (Str.ofString "decode") 1626), (.str (Str.ofString "decode") 1627), (.str (Str.ofString "/claim/cut.py") 1628), (.int 317 0), (.int 4 0), (.int 0 0), (.int 0 0), (.int 3 0), (.ref 1752), (.bool true), (.int 181 0), (.ref 1753), .none, (.ref 1754), (.ref 1755), (.ref 1756), (.int 1635 0), (.int 317 0), (.str (Str.ofString "/claim/cut.py") 1636)], slots := #[] }
def ob1758 (P : Params) : Obj := { cls := (.type "function"), dict := none, data := .func { name := (Str.ofString "decode"), qualname := (Str.ofString "decode"), params := fdA (sAt 38), body := .stmts (fdB (sAt 38)), scope := fdS (sAt 38), globals := 3, closure := [], defaults := (.ref 1751), kwdefaults := .none, doc := .none, pyModule := (.str (Str.ofString "rlp.codec") 1525), code := (.ref 1757), closureTuple := .none, builtins := 0 }, slots := #[] }
def ob1764 (P : Params) : Obj := { cls := (.type "tuple"), dict := none, data := .seq #[(.int 128 1646), (.int 193 1647), (.int 5 1648), (.int 129 1649), (.int 194 1650), (.int 0 1651), (.int 127 1652), (.int 130 1653), (.int 192 1654), (.int 195 1655), (.int 1 1656), (.int 131 1657), (.int 183 1658), (.int 184 1659), (.int 191 1660), (.int 196 1661), (.int 247 1662), (.int 248 1663), (.int 255 1664)] 0, slots := #[] }
def ob1770 (P : Params) : Obj := { cls := (.type "code"), dict := none, data := .fields #[(.str (Str.ofString "_law_letters") 1666), (.str (Str.ofString "_law_letters") 1667), (.str (Str.ofString "/claim/cut.py") 1668), (.int 338 0), (.int 1 0), (.int 0 0), (.int 0 0), (.int 3 0), (.ref 1765), (.bool true), (.int 181 0), (.ref 1766), .none, (.ref 1767), (.ref 1768), (.ref 1769), (.int 1673 0), (.int 338 0), (.str (Str.ofString "/claim/cut.py") 1674)], slots := #[] }
def ob1771 (P : Params) : Obj := { cls := (.type "function"), dict := none, data := .func { name := (Str.ofString "_law_letters"), qualname := (Str.ofString "_law_letters"), params := fdA (sAt 42), body := .stmts (fdB (sAt 42)), scope := fdS (sAt 42), globals := 3, closure := [], defaults := .none, kwdefaults := .none, doc := .none, pyModule := (.str (Str.ofString "law_ff0024_03") 1644), code := (.ref 1770), closureTuple := .none, builtins := 0 }, slots := #[] }
def ob1777 (P : Params) : Obj := { cls := (.type "code"), dict := none, data := .fields #[(.str (Str.ofString "_law_kind") 1676), (.str (Str.ofString "_law_kind") 1677), (.str (Str.ofString "/claim/cut.py") 1678), (.int 350 0), (.int 3 0), (.int 0 0), (.int 0 0), (.int 3 0), (.ref 1772), (.bool true), (.int 181 0), (.ref 1773), .none, (.ref 1774), (.ref 1775), (.ref 1776), (.int 1684 0), (.int 350 0), (.str (Str.ofString "/claim/cut.py") 1685)], slots := #[] }
def ob1778 (P : Params) : Obj := { cls := (.type "function"), dict := none, data := .func { name := (Str.ofString "_law_kind"), qualname := (Str.ofString "_law_kind"), params := fdA (sAt 43), body := .stmts (fdB (sAt 43)), scope := fdS (sAt 43), globals := 3, closure := [], defaults := .none, kwdefaults := .none, doc := .none, pyModule := (.str (Str.ofString "law_ff0024_03") 1644), code := (.ref 1777), closureTuple := .none, builtins := 0 }, slots := #[] }
def ob1784 (P : Params) : Obj := { cls := (.type "code"), dict := none, data := .fields #[(.str (Str.ofString "_law_sedes") 1687), (.str (Str.ofString "_law_sedes") 1688), (.str (Str.ofString "/claim/cut.py") 1689), (.int 360 0), (.int 1 0), (.int 0 0), (.int 0 0), (.int 3 0), (.ref 1779), (.bool true), (.int 181 0), (.ref 1780), .none, (.ref 1781), (.ref 1782), (.ref 1783), (.int 1691 0), (.int 360 0), (.str (Str.ofString "/claim/cut.py") 1692)], slots := #[] }
def ob1785 (P : Params) : Obj := { cls := (.type "function"), dict := none, data := .func { name := (Str.ofString "_law_sedes"), qualname := (Str.ofString "_law_sedes"), params := fdA (sAt 44), body := .stmts (fdB (sAt 44)), scope := fdS (sAt 44), globals := 3, closure := [], defaults := .none, kwdefaults := .none, doc := .none, pyModule := (.str (Str.ofString "law_ff0024_03") 1644), code := (.ref 1784), closureTuple := .none, builtins := 0 }, slots := #[] }
def ob1791 (P : Params) : Obj := { cls := (.type "code"), dict := none, data := .fields #[(.str (Str.ofString "_law_fits") 1694), (.str (Str.ofString "_law_fits") 1695), (.str (Str.ofString "/claim/cut.py") 1696), (.int 368 0), (.int 2 0), (.int 0 0), (.int 0 0), (.int 3 0), (.ref 1786), (.bool true), (.int 181 0), (.ref 1787), .none, (.ref 1788), (.ref 1789), (.ref 1790), (.int 1699 0), (.int 368 0), (.str (Str.ofString "/claim/cut.py") 1700)], slots := #[] }
def ob1792 (P : Params) : Obj := { cls := (.type "function"), dict := none, data := .func { name := (Str.ofString "_law_fits"), qualname := (Str.ofString "_law_fits"), params := fdA (sAt 45), body := .stmts (fdB (sAt 45)), scope := fdS (sAt 45), globals := 3, closure := [], defaults := .none, kwdefaults := .none, doc := .none, pyModule := (.str (Str.ofString "law_ff0024_03") 1644), code := (.ref 1791), closureTuple := .none, builtins := 0 }, slots := #[] }
def ob1796 (P : Params) : Obj := { cls := (.type "code"), dict := none, data := .fields #[(.str (Str.ofString "_law_count") 1702), (.str (Str.ofString "_law_count") 1703), (.str (Str.ofString "/claim/cut.py") 1704), (.int 372 0), (.int 3 0), (.int 0 0), (.int 0 0), (.int 3 0), (.ref 1793), (.bool true), (.int 181 0), (.ref 1794), .none, .none, .none, (.ref 1795), (.int 1705 0), (.int 372 0), (.str (Str.ofString "/claim/cut.py") 1706)], slots := #[] }
def ob1797 (P : Params) : Obj := { cls := (.type "function"), dict := none, data := .func { name := (Str.ofString "_law_count"), qualname := (Str.ofString "_law_count"), params := fdA (sAt 46), body := .stmts (fdB (sAt 46)), scope := fdS (sAt 46), globals := 3, closure := [], defaults := .none, kwdefaults := .none, doc := .none, pyModule := (.str (Str.ofString "law_ff0024_03") 1644), code := (.ref 1796), closureTuple := .none, builtins := 0 }, slots := #[] }
def ob1803 (P : Params) : Obj := { cls := (.type "code"), dict := none, data := .fields #[(.str (Str.ofString "_law_rows") 1708), (.str (Str.ofString "_law_rows") 1709), (.str (Str.ofString "/claim/cut.py") 1710), (.int 397 0), (.int 4 0), (.int 0 0), (.int 0 0), (.int 3 0), (.ref 1798), (.bool true), (.int 181 0), (.ref 1799), .none, (.ref 1800), (.ref 1801), (.ref 1802), (.int 1719 0), (.int 397 0), (.str (Str.ofString "/claim/cut.py") 1720)], slots := #[] }
def ob1804 (P : Params) : Obj := { cls := (.type "function"), dict := none, data := .func { name := (Str.ofString "_law_rows"), qualname := (Str.ofString "_law_rows"), params := fdA (sAt 47), body := .stmts (fdB (sAt 47)), scope := fdS (sAt 47), globals := 3, closure := [], defaults := .none, kwdefaults := .none, doc := .none, pyModule := (.str (Str.ofString "law_ff0024_03") 1644), code := (.ref 1803), closureTuple := .none, builtins := 0 }, slots := #[] }
def ob1810 (P : Params) : Obj := { cls := (.type "code"), dict := none, data := .fields #[(.str (Str.ofString "_law_reads") 1722), (.str (Str.ofString "_law_reads") 1723), (.str (Str.ofString "/claim/cut.py") 1724), (.int 414 0), (.int 2 0), (.int 0 0), (.int 0 0), (.int 3 0), (.ref 1805), (.bool true), (.int 181 0), (.ref 1806), .none, (.ref 1807), (.ref 1808), (.ref 1809), (.int 1729 0), (.int 414 0), (.str (Str.ofString "/claim/cut.py") 1730)], slots := #[] }
def ob1811 (P : Params) : Obj := { cls := (.type "function"), dict := none, data := .func { name := (Str.ofString "_law_reads"), qualname := (Str.ofString "_law_reads"), params := fdA (sAt 48), body := .stmts (fdB (sAt 48)), scope := fdS (sAt 48), globals := 3, closure := [], defaults := .none, kwdefaults := .none, doc := .none, pyModule := (.str (Str.ofString "law_ff0024_03") 1644), code := (.ref 1810), closureTuple := .none, builtins := 0 }, slots := #[] }
def ob1815 (P : Params) : Obj := { cls := (.type "code"), dict := none, data := .fields #[(.str (Str.ofString "law") 1732), (.str (Str.ofString "law") 1733), (.str (Str.ofString "/claim/cut.py") 1734), (.int 426 0), (.int 1 0), (.int 0 0), (.int 0 0), (.int 3 0), (.ref 1812), (.bool true), (.int 181 0), (.ref 1813), .none, .none, .none, (.ref 1814), (.int 1735 0), (.int 426 0), (.str (Str.ofString "/claim/cut.py") 1736)], slots := #[] }
def ob1816 (P : Params) : Obj := { cls := (.type "function"), dict := none, data := .func { name := (Str.ofString "law"), qualname := (Str.ofString "law"), params := fdA (sAt 49), body := .stmts (fdB (sAt 49)), scope := fdS (sAt 49), globals := 3, closure := [], defaults := .none, kwdefaults := .none, doc := .none, pyModule := (.str (Str.ofString "law_ff0024_03") 1644), code := (.ref 1815), closureTuple := .none, builtins := 0 }, slots := #[] }

def tupO : Obj := { cls := .type "tuple", data := .seq ((List.range 256).map itemB).toArray }
def objs (P : Params) : List (Nat × Obj) := [(2, ob2 P), (3, ob3 P), (4, ob4 P), (5, ob5 P), (30, ob30 P), (31, ob31 P), (59, ob59 P), (64, ob64 P), (66, ob66 P), (70, ob70 P), (71, ob71 P), (73, ob73 P), (74, ob74 P), (123, ob123 P), (128, ob128 P), (130, ob130 P), (134, ob134 P), (135, ob135 P), (137, ob137 P), (138, ob138 P), (144, ob144 P), (149, ob149 P), (150, ob150 P), (152, ob152 P), (156, ob156 P), (157, ob157 P), (159, ob159 P), (160, ob160 P), (1456, ob1456 P), (1457, ob1457 P), (1463, ob1463 P), (1464, ob1464 P), (1470, ob1470 P), (1471, ob1471 P), (1502, ob1502 P), (1503, ob1503 P), (1518, ob1518 P), (1524, ob1524 P), (1525, ob1525 P), (1542, ob1542 P), (1543, ob1543 P), (1544, ob1544 P), (1545, ob1545 P), (1552, ob1552 P), (1553, ob1553 P), (1559, ob1559 P), (1560, ob1560 P), (1566, ob1566 P), (1567, ob1567 P), (1569, ob1569 P), (1570, ob1570 P), (1590, ob1590 P), (1591, ob1591 P), (1597, ob1597 P), (1598, ob1598 P), (1600, ob1600 P), (1601, ob1601 P), (1613, ob1613 P), (1614, ob1614 P), (1620, ob1620 P), (1621, ob1621 P), (1629, ob1629 P), (1635, ob1635 P), (1636, ob1636 P), (1642, ob1642 P), (1643, ob1643 P), (1649, ob1649 P), (1650, ob1650 P), (1656, ob1656 P), (1657, ob1657 P), (1659, ob1659 P), (1660, ob1660 P), (1672, ob1672 P), (1678, ob1678 P), (1679, ob1679 P), (1685, ob1685 P), (1686, ob1686 P), (1692, ob1692 P), (1693, ob1693 P), (1695, ob1695 P), (1696, ob1696 P), (1701, ob1701 P), (1706, ob1706 P), (1707, ob1707 P), (1713, ob1713 P), (1714, ob1714 P), (1715, ob1715 P), (1721, ob1721 P), (1722, ob1722 P), (1728, ob1728 P), (1729, ob1729 P), (1735, ob1735 P), (1736, ob1736 P), (1742, ob1742 P), (1743, ob1743 P), (1749, ob1749 P), (1750, ob1750 P), (1751, ob1751 P), (1757, ob1757 P), (1758, ob1758 P), (1764, ob1764 P), (1770, ob1770 P), (1771, ob1771 P), (1777, ob1777 P), (1778, ob1778 P), (1784, ob1784 P), (1785, ob1785 P), (1791, ob1791 P), (1792, ob1792 P), (1796, ob1796 P), (1797, ob1797 P), (1803, ob1803 P), (1804, ob1804 P), (1810, ob1810 P), (1811, ob1811 P), (1815, ob1815 P), (1816, ob1816 P)]

def globs : List (Str × Value) := [(Str.ofString "_wall", (.ref 21)), (Str.ofString "RLPException", (.ref 31)), (Str.ofString "EncodingError", (.ref 53)), (Str.ofString "DecodingError", (.ref 74)), (Str.ofString "SerializationError", (.ref 95)), (Str.ofString "ListSerializationError", (.ref 117)), (Str.ofString "DeserializationError", (.ref 138)), (Str.ofString "ListDeserializationError", (.ref 160)), (Str.ofString "ALL_BYTES", (.ref 1450)), (Str.ofString "is_bytes", (.ref 1457)), (Str.ofString "big_endian_to_int", (.ref 1464)), (Str.ofString "int_to_big_endian", (.ref 1471)), (Str.ofString "BigEndianInt", (.ref 1503)), (Str.ofString "big_endian_int", (.ref 1509)), (Str.ofString "Binary", (.ref 1570)), (Str.ofString "binary", (.ref 1576)), (Str.ofString "Boolean", (.ref 1601)), (Str.ofString "boolean", (.ref 1607)), (Str.ofString "is_sedes", (.ref 1614)), (Str.ofString "is_sequence", (.ref 1621)), (Str.ofString "List", (.ref 1660)), (Str.ofString "CountableList", (.ref 1696)), (Str.ofString "encode_raw", (.ref 1707)), (Str.ofString "decode_raw", (.ref 1714)), (Str.ofString "encode", (.ref 1722)), (Str.ofString "LONG_LENGTH", (.int 18446744073709551616 1565)), (Str.ofString "length_prefix", (.ref 1729)), (Str.ofString "SHORT_STRING", (.int 184 1578)), (Str.ofString "consume_length_prefix", (.ref 1736)), (Str.ofString "consume_payload", (.ref 1743)), (Str.ofString "consume_item", (.ref 1750)), (Str.ofString "decode", (.ref 1758)), (Str.ofString "infer_sedes", (.ref 1763)), (Str.ofString "_law_often", (.ref 1764)), (Str.ofString "_law_letters", (.ref 1771)), (Str.ofString "_law_kind", (.ref 1778)), (Str.ofString "_law_sedes", (.ref 1785)), (Str.ofString "_law_fits", (.ref 1792)), (Str.ofString "_law_count", (.ref 1797)), (Str.ofString "_law_rows", (.ref 1804)), (Str.ofString "_law_reads", (.ref 1811)), (Str.ofString "law", (.ref 1816))]
def qv : Program := { pw with main := { pw.main with body := [sAt 49] } }
def lse : List Str := [Str.ofString "_wall", Str.ofString "RLPException", Str.ofString "EncodingError", Str.ofString "DecodingError", Str.ofString "SerializationError", Str.ofString "ListSerializationError", Str.ofString "DeserializationError", Str.ofString "ListDeserializationError", Str.ofString "ALL_BYTES", Str.ofString "is_bytes", Str.ofString "big_endian_to_int", Str.ofString "int_to_big_endian", Str.ofString "BigEndianInt", Str.ofString "big_endian_int", Str.ofString "Binary", Str.ofString "binary", Str.ofString "Boolean", Str.ofString "boolean", Str.ofString "is_sedes", Str.ofString "is_sequence", Str.ofString "List", Str.ofString "CountableList", Str.ofString "encode_raw", Str.ofString "decode_raw", Str.ofString "encode", Str.ofString "LONG_LENGTH", Str.ofString "length_prefix", Str.ofString "SHORT_STRING", Str.ofString "consume_length_prefix", Str.ofString "consume_payload", Str.ofString "consume_item", Str.ofString "decode", Str.ofString "infer_sedes", Str.ofString "_law_often", Str.ofString "_law_letters", Str.ofString "_law_kind", Str.ofString "_law_sedes", Str.ofString "_law_fits", Str.ofString "_law_count", Str.ofString "_law_rows", Str.ofString "_law_reads"]
def mods : List Str := importedModules pw.main.body
def Xt (s : Shared) : Bool := recOk [] s
def Yf (s : Shared) : Bool × List (Option Value) × List (Option Obj) × Option Obj := (s.heap.isNs mainGlobals, (globs.map (·.1)).map (s.heap.nsMap mainGlobals), [2, 3, 4, 5, 30, 31, 59, 64, 66, 70, 71, 73, 74, 123, 128, 130, 134, 135, 137, 138, 144, 149, 150, 152, 156, 157, 159, 160, 1456, 1457, 1463, 1464, 1470, 1471, 1502, 1503, 1518, 1524, 1525, 1542, 1543, 1544, 1545, 1552, 1553, 1559, 1560, 1566, 1567, 1569, 1570, 1590, 1591, 1597, 1598, 1600, 1601, 1613, 1614, 1620, 1621, 1629, 1635, 1636, 1642, 1643, 1649, 1650, 1656, 1657, 1659, 1660, 1672, 1678, 1679, 1685, 1686, 1692, 1693, 1695, 1696, 1701, 1706, 1707, 1713, 1714, 1715, 1721, 1722, 1728, 1729, 1735, 1736, 1742, 1743, 1749, 1750, 1751, 1757, 1758, 1764, 1770, 1771, 1777, 1778, 1784, 1785, 1791, 1792, 1796, 1797, 1803, 1804, 1810, 1811, 1815, 1816, 1702].map s.heap.get?, s.heap.get? 1450)
def Ya (w : World) : Bool × List (Option Value) × List (Option Obj) × Option Obj := (true, globs.map (fun x => some x.2), ((objs w.params) ++ [(1702, ob1702 w.params)] : List (Nat × Obj)).map (fun x => some x.2), some tupO)
def okT (P : Params) (s : Shared) : Bool := staticsOk mods (boot_heap P) s.heap && namesBound pw s.heap && gensDone s && laidKept (boot_heap P) s.heap
def lkF (w : World) (x : Flow × SharedT × Code × Pos) := (x.1, x.2.2, okT w.params x.2.1.abs, openSeen qv lse mods Xt true x.2.1.abs, Yf x.2.1.abs)
def LK (w : World) (os : OsState) := (R3 w os).map (lkF w)
def LKR (w : World) := some (Flow.next, ((cE, (⟨426, 0, 446, 15⟩ : Pos)) : Code × Pos), true, openGood qv lse, Ya w)
def SZ (P : Params) := ((boot_heap P).isNs mainGlobals && (#[] : Array GenState).size == 0, (boot_heap P).objs.size, (boot_heap P).nsMap mainGlobals "__annotations__")
def OPl (w : World) := (importEnds treeTable (opening pw) w 600 (start (opening pw)).1 (start (opening pw)).2).map (fun s => (s.heap, s.gens, s.drawn, s.toks))
def OPr (w : World) : Option (Heap × Array GenState × Drawn × Nat) := some (boot_heap w.params, #[], boot_drawn, boot_toks)
def LN : Nat := (behindTheImports pw).length
def SZR : Bool × Nat × Option Value := (true, 11, ann)
def useless {α : Type} (_ : α) : Bool := true
theorem twins : useless (fun w os o j k g l c p kp => ((EL 3 w os o j k g l c p kp).isSome, (ER w os o j k g l c p kp).isSome, (EAR 3 w os o).isSome, (EC 3 3 w os o).isSome, (ECR w os o).isSome)) = true := by k_qdec
theorem twins2 : useless (fun w os => ((G0 w os).isSome, (G0R w os).isSome, (R1 w os).isSome, (R1R w os).isSome, (R3 w os).isSome, (Bk w os).isSome, (BkR w os).isSome)) = true := by k_qdec
theorem twins3 : useless (fun w os => ((LK w os).isSome, (LKR w).isSome, SZ w.params, SZR, (OPl w).isSome, (OPr w).isSome, LN)) = true := by k_qdec
end
end Mine
end

section
open PySem PySem.W PyProof.Rows
set_option Elab.async false
set_option maxRecDepth 100000
set_option maxHeartbeats 0
namespace Mine
noncomputable section
theorem ea_true_true (w : World) (os : OsState) (o : Nat → Obj) : EA 141 ((w.withFollow "comprehension-iter-twice" true).withFollow "special-get-raises" true) os o = EAR 141 ((w.withFollow "comprehension-iter-twice" true).withFollow "special-get-raises" true) os o := by
  rw [PySem.W.Fast.te1921675249460523465, PySem.W.Fast.te6424779280274547231]
  kernel_rfl
theorem ec_true_true (w : World) (os : OsState) (o : Nat → Obj) : EC 57 141 ((w.withFollow "comprehension-iter-twice" true).withFollow "special-get-raises" true) os o = ECR ((w.withFollow "comprehension-iter-twice" true).withFollow "special-get-raises" true) os o := by
  rw [PySem.W.Fast.te4354342035555260938, PySem.W.Fast.te14644559438984715080]
  kernel_rfl
theorem ea_true_false (w : World) (os : OsState) (o : Nat → Obj) : EA 141 ((w.withFollow "comprehension-iter-twice" true).withFollow "special-get-raises" false) os o = EAR 141 ((w.withFollow "comprehension-iter-twice" true).withFollow "special-get-raises" false) os o := by
  rw [PySem.W.Fast.te1921675249460523465, PySem.W.Fast.te6424779280274547231]
  kernel_rfl
theorem ec_true_false (w : World) (os : OsState) (o : Nat → Obj) : EC 57 141 ((w.withFollow "comprehension-iter-twice" true).withFollow "special-get-raises" false) os o = ECR ((w.withFollow "comprehension-iter-twice" true).withFollow "special-get-raises" false) os o := by
  rw [PySem.W.Fast.te4354342035555260938, PySem.W.Fast.te14644559438984715080]
  kernel_rfl
theorem ea_false_true (w : World) (os : OsState) (o : Nat → Obj) : EA 151 ((w.withFollow "comprehension-iter-twice" false).withFollow "special-get-raises" true) os o = EAR 151 ((w.withFollow "comprehension-iter-twice" false).withFollow "special-get-raises" true) os o := by
  rw [PySem.W.Fast.te1921675249460523465, PySem.W.Fast.te6424779280274547231]
  kernel_rfl
theorem ec_false_true (w : World) (os : OsState) (o : Nat → Obj) : EC 57 151 ((w.withFollow "comprehension-iter-twice" false).withFollow "special-get-raises" true) os o = ECR ((w.withFollow "comprehension-iter-twice" false).withFollow "special-get-raises" true) os o := by
  rw [PySem.W.Fast.te4354342035555260938, PySem.W.Fast.te14644559438984715080]
  kernel_rfl
theorem ea_false_false (w : World) (os : OsState) (o : Nat → Obj) : EA 151 ((w.withFollow "comprehension-iter-twice" false).withFollow "special-get-raises" false) os o = EAR 151 ((w.withFollow "comprehension-iter-twice" false).withFollow "special-get-raises" false) os o := by
  rw [PySem.W.Fast.te1921675249460523465, PySem.W.Fast.te6424779280274547231]
  kernel_rfl
theorem ec_false_false (w : World) (os : OsState) (o : Nat → Obj) : EC 57 151 ((w.withFollow "comprehension-iter-twice" false).withFollow "special-get-raises" false) os o = ECR ((w.withFollow "comprehension-iter-twice" false).withFollow "special-get-raises" false) os o := by
  rw [PySem.W.Fast.te4354342035555260938, PySem.W.Fast.te14644559438984715080]
  kernel_rfl
end
end Mine
end

section
open PySem PySem.W PyProof.Rows
set_option Elab.async false
set_option maxRecDepth 100000
set_option maxHeartbeats 0
namespace Mine
noncomputable section
theorem el_true_0 (w : World) (os : OsState) (o : Nat → Obj) (k : Result → Sem Fin) (g : Bool) (l : List Value) (c : Code) (p : Pos) (kp : List Value) : EL 4947 (w.withFollow "special-get-raises" true) os o 1 k g l c p kp = ER (w.withFollow "special-get-raises" true) os o 52 k g l c p kp := by
  rw [PySem.W.Fast.te4898573563867984347, PySem.W.Fast.te3664524753501116749]
  kernel_rfl
theorem el_true_1 (w : World) (os : OsState) (o : Nat → Obj) (k : Result → Sem Fin) (g : Bool) (l : List Value) (c : Code) (p : Pos) (kp : List Value) : EL 4947 (w.withFollow "special-get-raises" true) os o 52 k g l c p kp = ER (w.withFollow "special-get-raises" true) os o 103 k g l c p kp := by
  rw [PySem.W.Fast.te4898573563867984347, PySem.W.Fast.te3664524753501116749]
  kernel_rfl
theorem el_true_2 (w : World) (os : OsState) (o : Nat → Obj) (k : Result → Sem Fin) (g : Bool) (l : List Value) (c : Code) (p : Pos) (kp : List Value) : EL 4947 (w.withFollow "special-get-raises" true) os o 103 k g l c p kp = ER (w.withFollow "special-get-raises" true) os o 154 k g l c p kp := by
  rw [PySem.W.Fast.te4898573563867984347, PySem.W.Fast.te3664524753501116749]
  kernel_rfl
theorem el_true_3 (w : World) (os : OsState) (o : Nat → Obj) (k : Result → Sem Fin) (g : Bool) (l : List Value) (c : Code) (p : Pos) (kp : List Value) : EL 4947 (w.withFollow "special-get-raises" true) os o 154 k g l c p kp = ER (w.withFollow "special-get-raises" true) os o 205 k g l c p kp := by
  rw [PySem.W.Fast.te4898573563867984347, PySem.W.Fast.te3664524753501116749]
  kernel_rfl
theorem el_true_4 (w : World) (os : OsState) (o : Nat → Obj) (k : Result → Sem Fin) (g : Bool) (l : List Value) (c : Code) (p : Pos) (kp : List Value) : EL 4947 (w.withFollow "special-get-raises" true) os o 205 k g l c p kp = ER (w.withFollow "special-get-raises" true) os o 256 k g l c p kp := by
  rw [PySem.W.Fast.te4898573563867984347, PySem.W.Fast.te3664524753501116749]
  kernel_rfl
theorem el_false_0 (w : World) (os : OsState) (o : Nat → Obj) (k : Result → Sem Fin) (g : Bool) (l : List Value) (c : Code) (p : Pos) (kp : List Value) : EL 4947 (w.withFollow "special-get-raises" false) os o 1 k g l c p kp = ER (w.withFollow "special-get-raises" false) os o 52 k g l c p kp := by
  rw [PySem.W.Fast.te4898573563867984347, PySem.W.Fast.te3664524753501116749]
  kernel_rfl
theorem el_false_1 (w : World) (os : OsState) (o : Nat → Obj) (k : Result → Sem Fin) (g : Bool) (l : List Value) (c : Code) (p : Pos) (kp : List Value) : EL 4947 (w.withFollow "special-get-raises" false) os o 52 k g l c p kp = ER (w.withFollow "special-get-raises" false) os o 103 k g l c p kp := by
  rw [PySem.W.Fast.te4898573563867984347, PySem.W.Fast.te3664524753501116749]
  kernel_rfl
theorem el_false_2 (w : World) (os : OsState) (o : Nat → Obj) (k : Result → Sem Fin) (g : Bool) (l : List Value) (c : Code) (p : Pos) (kp : List Value) : EL 4947 (w.withFollow "special-get-raises" false) os o 103 k g l c p kp = ER (w.withFollow "special-get-raises" false) os o 154 k g l c p kp := by
  rw [PySem.W.Fast.te4898573563867984347, PySem.W.Fast.te3664524753501116749]
  kernel_rfl
theorem el_false_3 (w : World) (os : OsState) (o : Nat → Obj) (k : Result → Sem Fin) (g : Bool) (l : List Value) (c : Code) (p : Pos) (kp : List Value) : EL 4947 (w.withFollow "special-get-raises" false) os o 154 k g l c p kp = ER (w.withFollow "special-get-raises" false) os o 205 k g l c p kp := by
  rw [PySem.W.Fast.te4898573563867984347, PySem.W.Fast.te3664524753501116749]
  kernel_rfl
theorem el_false_4 (w : World) (os : OsState) (o : Nat → Obj) (k : Result → Sem Fin) (g : Bool) (l : List Value) (c : Code) (p : Pos) (kp : List Value) : EL 4947 (w.withFollow "special-get-raises" false) os o 205 k g l c p kp = ER (w.withFollow "special-get-raises" false) os o 256 k g l c p kp := by
  rw [PySem.W.Fast.te4898573563867984347, PySem.W.Fast.te3664524753501116749]
  kernel_rfl
end
end Mine
end

section
open PySem PySem.W PyProof.Rows
set_option Elab.async false
set_option maxRecDepth 100000
set_option maxHeartbeats 0
namespace Mine
noncomputable section
theorem g0 (w : World) (os : OsState) : G0 w os = G0R w os := by
  rw [PySem.W.Fast.te611192506989134180, PySem.W.Fast.te13083875196316467895]
  kernel_rfl
theorem bk (w : World) (os : OsState) : Bk w os = BkR w os := by
  rw [PySem.W.Fast.te3719428003080448926, PySem.W.Fast.te18312238530879716678]
  kernel_rfl
theorem r1 (w : World) (os : OsState) : R1 w os = R1R w os := by
  rw [PySem.W.Fast.te17688134274955554779, PySem.W.Fast.te13141749965803697517]
  kernel_rfl
theorem sz (P : Params) : SZ P = SZR := by
  rw [PySem.W.Fast.te3250599103589649655]
  kernel_rfl
end
end Mine
end

section
open PySem PySem.W PyProof.Rows
set_option Elab.async false
set_option maxRecDepth 100000
set_option maxHeartbeats 0
namespace Mine
noncomputable section
theorem lk (w : World) (os : OsState) : LK w os = LKR w := by
  rw [PySem.W.Fast.te8631066523828424393, PySem.W.Fast.te4113058564118718911]
  kernel_rfl
end
end Mine
end

section
open PySem PySem.W PyProof.Rows
set_option Elab.async false
set_option maxRecDepth 100000
set_option maxHeartbeats 0
namespace Mine
noncomputable section
theorem op (w : World) : OPl w = OPr w := by
  rw [PySem.W.Fast.te5927332761300638722]
  kernel_rfl
theorem ln : LN = 50 := by
  rw [PySem.W.Fast.te15074930748297270999]
  kernel_rfl
end
end Mine
end

section
open PySem PySem.W PyProof.Rows
set_option Elab.async false
set_option maxRecDepth 100000
set_option maxHeartbeats 0
namespace Mine
noncomputable section
def P10 (os : OsState) (o : Nat → Obj) (w : World) : Prop := ∃ n, Nat.ble n 25000 = true ∧ segRun treeTable pw w 11 ann 1 n (st10 w os o).abs (pieceOf stA env cE ⟨47, 0, 47, 8⟩ B) = some (.next, (st11 w os o).abs, cE, (⟨48, 0, 48, 9⟩ : Pos))
theorem p10_of {w : World} {os : OsState} {o : Nat → Obj} {m : Nat} (hm : Nat.ble (m + (4947 + (4947 + (4947 + (4947 + (4947 + 57)))))) 25000 = true) (ea : EA m w os o = EAR m w os o) (ec : EC 57 m w os o = ECR w os o)
      (e0 : ∀ k g l c p kp, EL 4947 w os o 1 k g l c p kp = ER w os o 52 k g l c p kp) (e1 : ∀ k g l c p kp, EL 4947 w os o 52 k g l c p kp = ER w os o 103 k g l c p kp)
      (e2 : ∀ k g l c p kp, EL 4947 w os o 103 k g l c p kp = ER w os o 154 k g l c p kp) (e3 : ∀ k g l c p kp, EL 4947 w os o 154 k g l c p kp = ER w os o 205 k g l c p kp)
      (e4 : ∀ k g l c p kp, EL 4947 w os o 205 k g l c p kp = ER w os o 256 k g l c p kp) : P10 os o w :=
  ⟨_, hm, seg_go (segGo_of ea) (seg_go (segGo_of (e0 ..)) (seg_go (segGo_of (e1 ..)) (seg_go (segGo_of (e2 ..)) (seg_go (segGo_of (e3 ..)) (seg_go (segGo_of (e4 ..)) (segRun_of ec))))))⟩
theorem p10 (w : World) (os : OsState) (o : Nat → Obj) : P10 os o w := by
  refine byRow2 "special-get-raises" (P := P10 os o) (fun w => ?_) (fun w => ?_) w
  · refine byRow2 "comprehension-iter-twice" (P := fun w => P10 os o (w.withFollow "special-get-raises" false)) (fun w => ?_) (fun w => ?_) w
    · exact p10_of (by decide) (ea_false_false w os o) (ec_false_false w os o) (el_false_0 _ os o) (el_false_1 _ os o) (el_false_2 _ os o) (el_false_3 _ os o) (el_false_4 _ os o)
    · exact p10_of (by decide) (ea_true_false w os o) (ec_true_false w os o) (el_false_0 _ os o) (el_false_1 _ os o) (el_false_2 _ os o) (el_false_3 _ os o) (el_false_4 _ os o)
  · refine byRow2 "comprehension-iter-twice" (P := fun w => P10 os o (w.withFollow "special-get-raises" true)) (fun w => ?_) (fun w => ?_) w
    · exact p10_of (by decide) (ea_false_true w os o) (ec_false_true w os o) (el_true_0 _ os o) (el_true_1 _ os o) (el_true_2 _ os o) (el_true_3 _ os o) (el_true_4 _ os o)
    · exact p10_of (by decide) (ea_true_true w os o) (ec_true_true w os o) (el_true_0 _ os o) (el_true_1 _ os o) (el_true_2 _ os o) (el_true_3 _ os o) (el_true_4 _ os o)
theorem parts_of {σ β γ κ : Type} {r : Option (Flow × σ × κ)} {f1 : σ → Bool} {f2 : σ → β} {f3 : σ → γ} {v2 : β} {v3 : γ} {cp : κ}
    (h : r.map (fun x => (x.1, x.2.2, f1 x.2.1, f2 x.2.1, f3 x.2.1)) = some (Flow.next, cp, true, v2, v3)) : ∃ s, r = some (.next, s, cp) ∧ f1 s = true ∧ f2 s = v2 ∧ f3 s = v3 := by
  cases r with
  | none => cases h
  | some x =>
    obtain ⟨f, s, c⟩ := x
    simp only [Option.map_some, Option.some.injEq, Prod.mk.injEq] at h
    obtain ⟨rfl, rfl, h1, h2, h3⟩ := h
    exact ⟨s, rfl, h1, h2, h3⟩
/-- where the run of the top ends -/
theorem lk_parts (w : World) (os : OsState) : ∃ s : SharedT, R3 w os = some (.next, s, cE, ⟨426, 0, 446, 15⟩) ∧ okT w.params s.abs = true ∧ openSeen qv lse mods Xt true s.abs = openGood qv lse ∧ Yf s.abs = Ya w :=
  parts_of (r := R3 w os) (f1 := fun s => okT w.params s.abs) (f2 := fun s => openSeen qv lse mods Xt true s.abs) (f3 := fun s => Yf s.abs) (lk w os)
theorem end_top (w : World) (s : Shared) (c : Code) (p : Pos) : topRun treeTable pw w 11 ann 3 s ⟨doneF .next, c, p, [topFrame default]⟩ = some s := by
  obtain ⟨heap, gens, drawn, toks, os⟩ := s
  rfl
theorem cut46 (l : List Stmt) (h : l.length = 50) : l = (l.drop 0).take 10 ++ ((l[10]?).getD (.Pass default) :: ((l.drop 11).take 39 ++ [])) := by
  have h10 : 10 < l.length := by omega
  have e1 : l[10]? = some l[10] := List.getElem?_eq_getElem h10
  have e2 : (l.drop 11).take 39 = l.drop 11 := List.take_of_length_le (by rw [List.length_drop]; omega)
  rw [e1, e2, Option.getD_some, List.append_nil, List.drop_zero, ← List.drop_eq_getElem_cons h10, List.take_append_drop]
theorem body_cut : behindTheImports pw = sts 0 10 ++ (stA :: (sts 11 39 ++ [])) := cut46 _ ln
theorem top_ends (w : World) (os : OsState) : ∃ s : Shared, topRun treeTable pw w 11 ann 60000 (S0 w os) (topStub pw) = some s ∧ okT w.params s = true ∧ openSeen qv lse mods Xt true s = openGood qv lse ∧ Yf s = Ya w := by
  obtain ⟨s, r3, h1, h2, h3⟩ := lk_parts w os
  obtain ⟨n10, hn, h10⟩ := p10 w os (o10 w os)
  have k4 := piece_app (q := default) (rest := []) (segRun_of r3) (piece_nil (end_top w s.abs cE ⟨426, 0, 446, 15⟩))
  have k3 := piece_cons h10 k4
  have k2 := piece_app (segRun_of (r1 w os)) k3
  rw [← body_cut] at k2
  have k1 := go_top (g0 w os) (piece_block (segRun_of (bk w os)) k2)
  have hn' := Nat.le_of_ble_eq_true hn
  have k0 := topRun_mono (60000 - (12 + (1 + (3000 + (n10 + (6000 + 3)))))) _ _ _ _ k1
  rw [show 12 + (1 + (3000 + (n10 + (6000 + 3)))) + (60000 - (12 + (1 + (3000 + (n10 + (6000 + 3)))))) = 60000 by omega] at k0
  exact ⟨s.abs, k0, h1, h2, h3⟩
theorem fence_eq (s : Shared) : fenceModules? pw s = some s := by rfl
theorem boot_open' (w : World) : (fencedOpening treeTable pw w 60000).map (fun s => (s.heap, s.gens, s.drawn, s.toks)) = some (boot_heap w.params, #[], boot_drawn, boot_toks) := by
  obtain ⟨s, hs, hv⟩ := Option.map_eq_some_iff.mp (op w)
  have m := importEnds_mono (60000 - 600) _ _ _ _ hs
  unfold fencedOpening
  rw [show 60000 = 600 + (60000 - 600) by decide, m]
  show ((fenceModules? pw s)).map _ = _
  rw [show fenceModules? pw s = some s from fence_eq s]
  exact congrArg some hv
theorem left_of {p q : Program} {loose mods : List Str} {Xt : Shared → Bool} {α : Type} {Yf : Shared → α} {Ya : World → α} {N m : Nat} {ann : Option Value} {H : Params → Heap} {gs : Array GenState} {d : Drawn} {k : Nat} {ok : Params → Shared → Bool}
    (hm : mods = importedModules p.main.body) (hok : ok = fun P s => staticsOk mods (H P) s.heap && namesBound p s.heap && gensDone s && laidKept (H P) s.heap)
    (op : ∀ w, (fencedOpening treeTable p w N).map (fun s => (s.heap, s.gens, s.drawn, s.toks)) = some (H w.params, gs, d, k))
    (sz : ∀ P, ((H P).isNs mainGlobals && gs.size == 0, (H P).objs.size, (H P).nsMap mainGlobals "__annotations__") = (true, m, ann))
    (top : ∀ w os, ∃ s, topRun treeTable p w m ann N ⟨H w.params, gs, d, k, os⟩ (topStub p) = some s ∧ ok w.params s = true ∧ openSeen q loose mods Xt true s = openGood q loose ∧ Yf s = Ya w) : LeftO p q loose Xt Yf Ya N := fun w => by
  subst hm hok
  obtain ⟨⟨h, gs', d', k', os⟩, e, e'⟩ := Option.map_eq_some_iff.mp (op w)
  obtain ⟨rfl, rfl, rfl, rfl⟩ : h = H w.params ∧ gs' = gs ∧ d' = d ∧ k' = k := by simpa using e'
  obtain ⟨z1, z2, z3⟩ : _ ∧ _ ∧ _ := by simpa only [Prod.mk.injEq] using sz w.params
  obtain ⟨s, k0, h1, h2, h3⟩ := top w os
  replace h1 : (staticsOk (importedModules p.main.body) (H w.params) s.heap && namesBound p s.heap && gensDone s && laidKept (H w.params) s.heap) = true := h1
  have t : topFrom treeTable p w N ⟨H w.params, gs', d', k', os⟩ = some s := by
    unfold topFrom
    dsimp only
    rw [z1, z2, z3, k0]
    show (match staticsOk (importedModules p.main.body) (H w.params) s.heap && namesBound p s.heap && gensDone s && laidKept (H w.params) s.heap with | true => _ | false => _) = _
    rw [h1]
  unfold openEnds
  rw [e]
  show (topFrom treeTable p w N _).map _ = _
  rw [t]
  exact congrArg some (Prod.ext h2 h3)
theorem left : LeftO pw qv lse Xt Yf Ya 60000 := left_of (mods := mods) (ok := okT) rfl rfl boot_open' sz top_ends
end
end Mine
end

section
open PySem PySem.W PySem.Calls PyProof.Rows PySem.Spec
set_option Elab.async false
set_option maxRecDepth 100000
set_option maxHeartbeats 400000
namespace Mine
/-- names that are the built-ins' alone -/
def bltNames : List Str := ["len", "range", "isinstance", "int", "str", "bytes", "bytearray", "list", "tuple", "IndexError", "ValueError", "TypeError", "super", "bool", "zip", "enumerate", "any", "sorted", "sum", "min", "max"]
/-- what stands from the top on -/
structure Base (w : World) (h : Heap) : Prop where
  at_ : ∀ p ∈ objs w.params, h.get? p.1 = some p.2
  tup : h.get? 1450 = some tupO
  g : ∃ mg, h.Ns mainGlobals mg ∧ (∀ p ∈ globs, mg p.1 = some p.2) ∧ ∀ x ∈ bltNames, mg x = none
  b : ∃ mb, h.Ns builtinsNs mb ∧ ∀ x : Str, x ≠ "__name__" → mb x = bootBuiltins x
  nolimit : h.NoLimit
  nodigits : ∃ mc, h.Ns cStatics mc ∧ mc "sys.int_max_str_digits" = none
theorem Base.keeps {w : World} {h h' : Heap} (B : Base w h) (hk : ∀ b o, h.get? b = some o → h'.get? b = some o) : Base w h' where
  at_ := fun p hp => hk _ _ (B.at_ p hp)
  tup := hk _ _ B.tup
  g := let ⟨mg, h1, h2⟩ := B.g; ⟨mg, h1.keeps hk, h2⟩
  b := let ⟨mb, h1, h2⟩ := B.b; ⟨mb, h1.keeps hk, h2⟩
  nolimit := B.nolimit.keeps hk
  nodigits := let ⟨mc, h1, h2⟩ := B.nodigits; ⟨mc, h1.keeps hk, h2⟩
abbrev look (ρ : List (Str × Value)) : Str → Option Value := fun x => ρ.lookup x
theorem look_cons (ρ : List (Str × Value)) (x : Str) (v : Value) : (fun y => if y = x then some v else look ρ y) = look ((x, v) :: ρ) := by
  funext y
  by_cases h : y = x
  · subst h; simp [look]
  · have : (y == x) = false := beq_eq_false_iff_ne.mpr h
    show (if y = x then some v else ρ.lookup y) = List.lookup y ((x, v) :: ρ)
    rw [if_neg h, List.lookup_cons, this]

section
variable {M : Model} {A : Around} {E : Value → Shared → Prop} {gs : Array GenState} {dr : Drawn} {tk : Nat} {os : OsState} {h g : Heap} {L a : Addr} {m : Str → Option Value} {ρ : List (Str × Value)} {news : List (Addr × Obj)} {name : Str} {scope : Scope} {cd : Value} {Q : Value → Shared → Prop} {w : World}
/-! names -/
theorem x_name {x : Str} {pos : Pos} {v : Value} (F : Fr g L h (look ρ)) (hv : ρ.lookup x = some v) (hk : scope.kind = .function) (hl : scope.names.lookup x = some .local)
    (hd : (x == ("__debug__" : Str)) = false) (k : Q v ⟨h, gs, dr, tk, os⟩) : wpAny M A (eval (.Name x pos) (envOf name scope L a cd)) Q E ⟨h, gs, dr, tk, os⟩ := ld (s := ⟨h, gs, dr, tk, os⟩) F hv k hk hl hd
theorem x_load {x : Str} {v : Value} (F : Fr g L h (look ρ)) (hv : ρ.lookup x = some v) (hk : scope.kind = .function) (hl : scope.names.lookup x = some .local)
    (k : Q v ⟨h, gs, dr, tk, os⟩) : wpAny M A (loadName (envOf name scope L a cd) x) Q E ⟨h, gs, dr, tk, os⟩ := ldn (s := ⟨h, gs, dr, tk, os⟩) F hv k hk hl
theorem globs_mem {x : Str} {v : Value} (h : globs.lookup x = some v) : (x, v) ∈ globs := by
  have : ∀ (l : List (Str × Value)), l.lookup x = some v → (x, v) ∈ l := by
    intro l
    induction l with
    | nil => intro h; cases h
    | cons p l ih =>
      obtain ⟨k, u⟩ := p
      intro h
      rw [List.lookup_cons] at h
      by_cases e : x = k
      · subst e; simp at h; subst h; exact .head _
      · rw [beq_eq_false_iff_ne.mpr e] at h; exact .tail _ (ih h)
  exact this _ h
theorem x_glob {x : Str} {pos : Pos} {v : Value} (F : Fr g L h m) (B : Base w g) (hv : globs.lookup x = some v) (hk : scope.kind = .function) (hl : scope.names.lookup x = some .globalImplicit)
    (hd : (x == ("__debug__" : Str)) = false) (k : Q v ⟨h, gs, dr, tk, os⟩) : wpAny M A (eval (.Name x pos) (envOf name scope L a cd)) Q E ⟨h, gs, dr, tk, os⟩ := by
  obtain ⟨mg, h1, h2, _⟩ := (B.keeps F.keep).g
  exact Name_function_global hk hl (loadGlobal_global (s := ⟨h, gs, dr, tk, os⟩) h1 (h2 _ (globs_mem hv)) k) hd
theorem x_blt {x : Str} {pos : Pos} {v : Value} (F : Fr g L h m) (B : Base w g) (hb : bltNames.contains x = true) (hv : bootBuiltins x = some v) (hk : scope.kind = .function) (hl : scope.names.lookup x = some .globalImplicit)
    (hd : (x == ("__debug__" : Str)) = false) (hn : x ≠ "__name__") (k : Q v ⟨h, gs, dr, tk, os⟩) : wpAny M A (eval (.Name x pos) (envOf name scope L a cd)) Q E ⟨h, gs, dr, tk, os⟩ := by
  obtain ⟨mg, h1, _, h3⟩ := (B.keeps F.keep).g
  obtain ⟨mb, b1, b2⟩ := (B.keeps F.keep).b
  exact Name_function_global hk hl (loadGlobal_builtin (s := ⟨h, gs, dr, tk, os⟩) h1 (h3 _ (List.contains_iff_mem.mp hb)) b1 ((b2 _ hn).trans hv) k) hd
/-! constants -/
theorem x_int {i k pos} {env : Env} (H : ∀ t tk', Q (.int i t) ⟨h, gs, dr, tk', os⟩) : wpAny M A (eval (.Constant (.int i) k pos) env) Q E ⟨h, gs, dr, tk, os⟩ := wpAny_Constant_int (H _ _)
theorem x_str {i k pos} {env : Env} (H : ∀ t tk', Q (.str i t) ⟨h, gs, dr, tk', os⟩) : wpAny M A (eval (.Constant (.str i) k pos) env) Q E ⟨h, gs, dr, tk, os⟩ := Constant_str (H _ _)
theorem x_bytes {i k pos} {env : Env} (H : ∀ t tk', Q (.bytes i.toArray t) ⟨h, gs, dr, tk', os⟩) : wpAny M A (eval (.Constant (.bytes i) k pos) env) Q E ⟨h, gs, dr, tk, os⟩ := Constant_bytes (H _ _)
theorem x_none {k pos} {env : Env} (H : Q .none ⟨h, gs, dr, tk, os⟩) : wpAny M A (eval (.Constant .none k pos) env) Q E ⟨h, gs, dr, tk, os⟩ := wpAny_Constant_none H
theorem x_bool {b k pos} {env : Env} (H : Q (.bool b) ⟨h, gs, dr, tk, os⟩) : wpAny M A (eval (.Constant (.bool b) k pos) env) Q E ⟨h, gs, dr, tk, os⟩ := wpAny_Constant_bool H
/-! stores -/
theorem x_store {x : Str} {v : Value} {Q : Unit → Shared → Prop} (F : Fr g L h (look ρ)) (N : News g L h news) (hk : scope.kind = .function) (hl : scope.names.lookup x = some .local)
    (H : ∀ h' tk', Fr g L h' (look ((x, v) :: ρ)) → News g L h' news → Q () ⟨h', gs, dr, tk', os⟩) :
    wpAny M A (storeName (envOf name scope L a cd) x v) Q E ⟨h, gs, dr, tk, os⟩ := stN (s := ⟨h, gs, dr, tk, os⟩) F N (fun h' F' N' => H h' _ (look_cons ρ x v ▸ F') N') hk hl
/-! displays -/
theorem x_tup {vs : List Value} (F : Fr g L h m) (N : News g L h news) (hsz : vs.length ≤ 4096) (H : ∀ h' u, u = h.objs.size → Fr g L h' m → News g L h' ((u, { cls := .type "tuple", data := .seq vs.toArray }) :: news) → Q (.ref u) ⟨h', gs, dr, tk, os⟩) :
    wpAny M A (newTuple vs) Q E ⟨h, gs, dr, tk, os⟩ := newTuple_N (s := ⟨h, gs, dr, tk, os⟩) F N (fun h' F' N' => H h' _ rfl F' N') (Nat.le_trans hsz (by decide))
theorem x_list {vs : List Value} (F : Fr g L h m) (N : News g L h news) (hsz : vs.length ≤ 4096) (H : ∀ h' u, u = h.objs.size → Fr g L h' m → News g L h' ((u, { cls := .type "list", data := .seq vs.toArray }) :: news) → Q (.ref u) ⟨h', gs, dr, tk, os⟩) :
    wpAny M A (newList vs) Q E ⟨h, gs, dr, tk, os⟩ := newList_N (s := ⟨h, gs, dr, tk, os⟩) F N (fun h' F' N' => H h' _ rfl F' N') (Nat.le_trans hsz (by decide))
/-! tests -/
theorem x_truthy {b : Bool} {Q : Bool → Shared → Prop} (k : Q b ⟨h, gs, dr, tk, os⟩) : wpAny M A (truthy (.bool b)) Q E ⟨h, gs, dr, tk, os⟩ := wpAny_truthy_bool k
theorem x_ite {c : Bool} {P R : Prop} (h1 : c = true → P) (h2 : c = false → R) : if c = true then P else R := by
  cases c
  · rw [if_neg (by decide)]; exact h2 rfl
  · rw [if_pos rfl]; exact h1 rfl
end
section
variable {prog : Program} {w : World} {A : Around} {E : Value → Shared → Prop} {gs : Array GenState} {dr : Drawn} {tk : Nat} {os : OsState} {h g : Heap} {L a : Addr} {m : Str → Option Value} {news : List (Addr × Obj)} {Q : Value → Shared → Prop} {i j : Int} {t u : Tok}
theorem x_add (H : ∀ t' tk', Q (.int (i + j) t') ⟨h, gs, dr, tk', os⟩) : wpAny (model prog w) A (binaryOp .Add (.int i t) (.int j u)) Q E ⟨h, gs, dr, tk, os⟩ := add_int (H _ _)
theorem x_sub (H : ∀ t' tk', Q (.int (i - j) t') ⟨h, gs, dr, tk', os⟩) : wpAny (model prog w) A (binaryOp .Sub (.int i t) (.int j u)) Q E ⟨h, gs, dr, tk, os⟩ := sub_int (H _ _)
theorem x_mul (hm : IntMulOk i j) (H : ∀ t' tk', Q (.int (i * j) t') ⟨h, gs, dr, tk', os⟩) : wpAny (model prog w) A (binaryOp .Mult (.int i t) (.int j u)) Q E ⟨h, gs, dr, tk, os⟩ := mul_int (H _ _) hm
theorem x_eq (H : Q (.bool (i == j)) ⟨h, gs, dr, tk, os⟩) : wpAny (model prog w) A (compareOp .Eq (.int i t) (.int j u)) Q E ⟨h, gs, dr, tk, os⟩ := eq_int H
theorem x_ne (H : Q (.bool (i != j)) ⟨h, gs, dr, tk, os⟩) : wpAny (model prog w) A (compareOp .NotEq (.int i t) (.int j u)) Q E ⟨h, gs, dr, tk, os⟩ := ne_int H
theorem x_lt (H : Q (.bool (decide (i < j))) ⟨h, gs, dr, tk, os⟩) : wpAny (model prog w) A (compareOp .Lt (.int i t) (.int j u)) Q E ⟨h, gs, dr, tk, os⟩ := lt_int H
theorem x_gt (H : Q (.bool (decide (i > j))) ⟨h, gs, dr, tk, os⟩) : wpAny (model prog w) A (compareOp .Gt (.int i t) (.int j u)) Q E ⟨h, gs, dr, tk, os⟩ := gt_int H
theorem x_ge (H : Q (.bool (decide (i ≥ j))) ⟨h, gs, dr, tk, os⟩) : wpAny (model prog w) A (compareOp .GtE (.int i t) (.int j u)) Q E ⟨h, gs, dr, tk, os⟩ := ge_int H
theorem x_isnone {v : Value} (H : Q (.bool (v == .none)) ⟨h, gs, dr, tk, os⟩) : wpAny (model prog w) A (compareOp .Is v .none) Q E ⟨h, gs, dr, tk, os⟩ := is_none H
/-! bytes -/
theorem x_badd {b c : List UInt8} (hsz : b.length + c.length ≤ 16777216) (H : ∀ t' tk', Q (.bytes (b ++ c).toArray t') ⟨h, gs, dr, tk', os⟩) : wpAny (model prog w) A (binaryOp .Add (.bytes b.toArray t) (.bytes c.toArray u)) Q E ⟨h, gs, dr, tk, os⟩ :=
  KBy.add_bytes (by simpa using hsz) fun t' k => by have := H t' k; simpa using this
theorem x_beq {b c : List UInt8} (H : Q (.bool (b == c)) ⟨h, gs, dr, tk, os⟩) : wpAny (model prog w) A (compareOp .Eq (.bytes b.toArray t) (.bytes c.toArray u)) Q E ⟨h, gs, dr, tk, os⟩ := eq_bytes H
theorem x_bitem {x : List UInt8} {i : Int} {ui : Tok} {value slice : Expr} (h0 : 0 ≤ i) (h1 : i < (x.length : Int)) (hfit : x.length ≤ 1099511627776)
    (hs : subscripted slice false (.bytes x.toArray t) (.int i ui) = operate [.bytes x.toArray t, .int i ui] (getItem (.bytes x.toArray t) (.int i ui)))
    (ht : ∀ r, letTemporaryGo value (.bytes x.toArray t) r = pure ()) (H : ∀ t' tk', Q (.int (x.getD i.toNat 0).toNat t') ⟨h, gs, dr, tk', os⟩) :
    wpAny (model prog w) A (subscriptTail value slice (.bytes x.toArray t) (.int i ui)) Q E ⟨h, gs, dr, tk, os⟩ := KBy.item_N hfit h0 h1 (H _ _) hs ht
end
/-! slices -/
def SlQ (Q : Value → Shared → Prop) (l u : Value) (s : Shared) : Prop := Q (.ref s.heap.objs.size) { s with heap := s.heap.push { cls := .type "slice", data := .fields #[l, u, .none] } }
def sl (x : List UInt8) (lo hi : Option Int) : List UInt8 := (x.drop (lo.elim 0 (clipAt x.length))).take (hi.elim x.length (clipAt x.length) - lo.elim 0 (clipAt x.length))
section
variable {M : Model} {A : Around} {E : Value → Shared → Prop} {s : Shared} {env : Env}
theorem x_slice {lower upper : Option Expr} {p : Pos} {Q : Value → Shared → Prop} (h : wpAny M A (evalPart lower env) (fun l s₁ => wpAny M A (evalPart upper env) (fun u s₂ => SlQ Q l u s₂) E s₁) E s) :
    wpAny M A (eval (.Slice lower upper none p) env) Q E s :=
  wpAny_Slice (wpAny_mono h (fun _ _ h₁ => wpAny_mono h₁ (fun _ _ h₂ => wpAny_pure h₂) fun _ _ x => x) fun _ _ x => x)
theorem x_part {e : Expr} {Q : Value → Shared → Prop} (h : wpAny M A (eval e env) Q E s) : wpAny M A (evalPart (some e) env) Q E s := h
theorem x_nopart {Q : Value → Shared → Prop} (h : Q .none s) : wpAny M A (evalPart none env) Q E s := wpAny_pure h
end
section
variable {prog : Program} {w : World} {A : Around} {E : Value → Shared → Prop} {gs : Array GenState} {dr : Drawn} {tk : Nat} {os : OsState} {h g : Heap} {L a : Addr} {m : Str → Option Value} {news : List (Addr × Obj)} {Q : Value → Shared → Prop} {t u : Tok}
theorem x_btail {x : List UInt8} {l u : Value} {lo hi : Option Int} {value slice : Expr} (F : Fr g L h m) (N : News g L h news) (hl : IsPart l lo) (hu : IsPart u hi) (hz : x.length ≤ 16777216)
    (hs : ∀ h : Heap, subscripted slice false (.bytes x.toArray t) (.ref h.objs.size) = operate [.ref h.objs.size, .bytes x.toArray t] (getItem (.bytes x.toArray t) (.ref h.objs.size)))
    (ht : ∀ r, letTemporaryGo value (.bytes x.toArray t) r = pure ())
    (H : ∀ h' t' tk', Fr g L h' m → News g L h' news → Q (.bytes (sl x lo hi).toArray t') ⟨h', gs, dr, tk', os⟩) :
    SlQ (fun i s₂ => wpAny (model prog w) A (subscriptTail value slice (.bytes x.toArray t) i) Q E s₂) l u ⟨h, gs, dr, tk, os⟩ :=
  KBc.slice_K (s := ⟨h, gs, dr, tk, os⟩) (ks := KBw.bInts x.toArray) F N rfl hl hu (by rw [KBw.ints_length]; simpa using hz) (fun h' t' k F' N' _ => by
    have := H h' t' k F' N'
    rw [KBc.picked_eq]
    simpa [sl] using this) (hs h) ht
/-! calls -/
variable {name : Str} {scope : Scope} {cd : Value}
theorem Base.get {w : World} {h : Heap} (B : Base w h) {a : Addr} {o : Obj} (e : (objs w.params).lookup a = some o) : h.get? a = some o := by
  refine B.at_ (a, o) ?_
  have : ∀ (l : List (Nat × Obj)), l.lookup a = some o → (a, o) ∈ l := by
    intro l
    induction l with
    | nil => intro h; cases h
    | cons p l ih =>
      obtain ⟨k, u⟩ := p
      intro h
      rw [List.lookup_cons] at h
      by_cases e : a = k
      · subst e; simp at h; subst h; exact .head _
      · rw [beq_eq_false_iff_ne.mpr e] at h; exact .tail _ (ih h)
  exact this _ e
theorem Base.inK {w : World} {h : Heap} (B : Base w h) : Frag.In (objs w.params) h := fun _ _ e => B.get e
/-- a call of one of the program's functions is ready -/
def Called (w : World) (A : Around) (E : Value → Shared → Prop) (f : Addr) (Q : Value → Shared → Prop) (vs : List Value) (s : Shared) : Prop := (∃ o, (objs w.params).lookup f = some o ∧ s.heap.get? f = some o) ∧ wpAny (model pw w) A (call (.ref f) vs) Q E s
theorem x_call {x : Str} {np pos : Pos} {e : Expr} {rest : List Expr} {f : Addr} {o : Obj} {fd : FuncData} (F : Fr g L h m) (B : Base w g) (hv : globs.lookup x = some (.ref f)) (hk : scope.kind = .function) (hl : scope.names.lookup x = some .globalImplicit)
    (hd : (x == ("__debug__" : Str)) = false) (ho : (objs w.params).lookup f = some o) (hdat : o.data = .func fd) (he : starEach (e :: rest) (envOf name scope L a cd) = (false, eval e (envOf name scope L a cd)) :: starEach rest (envOf name scope L a cd))
    (H : wpAny (model pw w) A (spliced (backTo pos (starEach (e :: rest) (envOf name scope L a cd)))) (Called w A E f Q) E ⟨h, gs, dr, tk, os⟩) :
    wpAny (model pw w) A (eval (.Call (.Name x np) (e :: rest) [] pos) (envOf name scope L a cd)) Q E ⟨h, gs, dr, tk, os⟩ := by
  refine wpAny_Call_ofName (x_glob F B hv hk hl hd ?_)
  refine callWith_def (o := o) hdat (wpAny_mono H (fun vs s₁ h₁ => ?_) fun _ _ x => x) he
  obtain ⟨⟨o', e1, e2⟩, h2⟩ := h₁
  rw [ho] at e1
  cases e1
  exact ⟨e2, h2⟩
theorem x_called {f : Addr} {o : Obj} {vs : List Value} (F : Fr g L h m) (B : Base w g) (ho : (objs w.params).lookup f = some o) (H : wpAny (model pw w) A (call (.ref f) vs) Q E ⟨h, gs, dr, tk, os⟩) :
    Called w A E f Q vs ⟨h, gs, dr, tk, os⟩ := ⟨⟨o, ho, (B.keeps F.keep).get ho⟩, H⟩
end
end Mine
end

section
open PySem PySem.W PySem.Calls PyProof.Rows PySem.Spec
set_option Elab.async false
set_option maxRecDepth 100000
set_option maxHeartbeats 400000
namespace Mine
abbrev Ke (h h' : Heap) : Prop := ∀ b o, h.get? b = some o → h'.get? b = some o
theorem Ke.trans {h₁ h₂ h₃ : Heap} (a : Ke h₁ h₂) (b : Ke h₂ h₃) : Ke h₁ h₃ := fun c o e => b c o (a c o e)
section
variable {w : World} {A : Around} {E : Value → Shared → Prop} {gs : Array GenState} {dr : Drawn} {tk : Nat} {os : OsState} {h : Heap} {Q : Value → Shared → Prop}
theorem x_enter {name : Str} {params : Arguments} {body : List Stmt} {scope : Scope} {pm doc : Value} {f c : Addr} {o oc : Obj} {vs : Array Value} {tq : Tok} {vals : List Value} {binds : List (Str × Value)}
    (B : Base w h) (hdep : A.depth < recursionLimit) (ho : (objs w.params).lookup f = some o) (hdat : o.data = .func (docDef name params body scope pm (.ref c) doc))
    (hc : (objs w.params).lookup c = some oc) (hcd : oc.data = .fields vs) (hq : vs[1]? = some (.str name tq))
    (hbind : bindArgs (docDef name params body scope pm (.ref c) doc) ⟨vals, []⟩ = pure binds)
    (hloc : ∀ x ∈ binds, scope.names.lookup x.1 = some .local) (hco : scope.isCoroutine = false) (hgen : scope.isGenerator = false) (hk : scope.kind = .function) (hcell : ∀ x ∈ scope.names, x.2 ≠ .cell)
    (H : ∀ h₁ L tk', L = h.objs.size → Fr h L h₁ (look binds.reverse) → News h L h₁ [] →
      wpAny (model pw w) (A.deeper (envOf name scope L f (.ref c))) (execs body (envOf name scope L f (.ref c))) (fun fl s' => Q (match fl with | .ret v => v | _ => .none) s')
        (fun e s' => wpAny (model pw w) (A.deeper (envOf name scope L f (.ref c))) (leaving (envOf name scope L f (.ref c)) e) (fun _ s'' => E e s'') (fun e' s'' => E e' s'') s') ⟨h₁, gs, dr, tk', os⟩) :
    wpAny (model pw w) A (call (.ref f) vals) Q E ⟨h, gs, dr, tk, os⟩ :=
  wpAny_call (call_plain (s := ⟨h, gs, dr, tk, os⟩) hdep (B.get ho) hdat B.nolimit ⟨c, oc, vs, tq, rfl, B.get hc, hcd, hq⟩ hbind hloc (fun h₁ F => wpAny_mono (H h₁ _ _ rfl F News.nil) (fun fl s' x => x) fun _ _ x => x) hco hgen hk hcell)
end
local macro_rules | `(tactic| tb_start) => `(tactic| first
  | (with_reducible refine' wpAny_execs_cons ?_)
  | (with_reducible refine' wpAny_If ?_)
  | (with_reducible refine' wpAny_Return_some ?_)
  | ((with_reducible refine' wpAny_Assign_Name ?_ ?hs); (case hs => rfl))
  | ((with_reducible refine' wpAny_isTrue_Compare1 ?_ ?hs); (case hs => with_unfolding_all rfl))
  | ((with_reducible refine' wpAny_Compare1 ?_ ?hs); (case hs => with_unfolding_all rfl))
  | (with_reducible refine' wpAny_BinOp ?_)
  | (with_reducible refine' Subscript_ ?_)
  | (with_reducible refine' x_slice ?_)
  | (with_reducible refine' x_part ?_)
  | (with_reducible refine' x_nopart ?_)
  | (with_reducible refine' Tuple_ ?_)
  | (with_reducible refine' List_ ?_)
  | (with_reducible refine' wpAny_items_nil ?_)
  | ((with_reducible refine' wpAny_items_cons ?_ ?hs); (case hs => rfl))
  | ((with_reducible refine' MethodCall_ ?_ ?hs); (case hs => rfl))
  | ((with_reducible refine' x_name ?F ?hv ?hk ?hl ?hd ?_); (case F => assumption); (case hv => rfl); (case hk => rfl); (case hl => rfl); (case hd => decide))
  | ((with_reducible refine' x_glob ?F ?B ?hv ?hk ?hl ?hd ?_); (case F => assumption); (case B => assumption); (case hv => rfl); (case hk => rfl); (case hl => rfl); (case hd => decide))
  | ((with_reducible refine' x_blt ?F ?B ?hb ?hv ?hk ?hl ?hd ?hn ?_); (case F => assumption); (case B => assumption); (case hb => rfl); (case hv => first | reg3_boot | boot_fact); (case hk => rfl); (case hl => rfl); (case hd => decide); (case hn => decide))
  | ((with_reducible refine' x_int ?_); intro _ _)
  | ((with_reducible refine' x_str ?_); intro _ _)
  | ((with_reducible refine' x_bytes ?_); intro _ _)
  | (with_reducible refine' x_none ?_)
  | (with_reducible refine' x_bool ?_)
  | (with_reducible refine' x_truthy ?_)
  | ((with_reducible refine' x_add ?_); intro _ _)
  | ((with_reducible refine' x_sub ?_); intro _ _)
  | (with_reducible refine' x_lt ?_)
  | (with_reducible refine' x_eq ?_)
  | (with_reducible refine' x_beq ?_)
  | ((with_reducible refine' x_store ?F ?N ?hk ?hl ?_); (case F => assumption); (case N => assumption); (case hk => rfl); (case hl => rfl); intro _ _ _ _)
  | ((with_reducible refine' x_tup ?F ?N ?hz ?_); (case F => assumption); (case N => assumption); (case hz => simp); intro _ _ _ _ _)
  | ((with_reducible refine' x_btail ?F ?N ?hl ?hu ?hz ?hs ?ht ?_); (case F => assumption); (case N => assumption); (case hl => first | exact .int _ _ | exact .none); (case hu => first | exact .int _ _ | exact .none); (case hz => omega); (case hs => intro _; with_unfolding_all rfl); (case ht => intro _; with_unfolding_all rfl); intro _ _ _ _ _)
  | ((with_reducible refine' x_bitem ?h0 ?h1 ?hf ?hs ?ht ?_); (case h0 => omega); (case h1 => omega); (case hf => omega); (case hs => with_unfolding_all rfl); (case ht => intro _; with_unfolding_all rfl); intro _ _)
  | ((with_reducible refine' x_call ?F ?B ?hv ?hk ?hl ?hd ?ho ?hdat ?he ?_); (case F => assumption); (case B => assumption); (case hv => rfl); (case hk => rfl); (case hl => rfl); (case hd => decide); (case ho => rfl); (case hdat => rfl); (case he => rfl))
  | ((with_reducible refine' x_called ?F ?B ?ho ?_); (case F => assumption); (case B => assumption); (case ho => rfl))
  | ((with_reducible refine' x_ite ?_ ?_) <;> intro _)
  | (dsimp only))
def be (x : List UInt8) : Int := KFB.value (KBw.bInts x.toArray)
theorem b2i {w : World} {A : Around} {E : Value → Shared → Prop} {gs : Array GenState} {dr : Drawn} {tk : Nat} {os : OsState} {h : Heap} {Q : Value → Shared → Prop} {x : List UInt8} {t : Tok} (B : Base w h) (hd : A.depth < recursionLimit) (hx : x.length ≤ 8)
    (H : ∀ h' t' tk', Ke h h' → Q (.int (be x) t') ⟨h', gs, dr, tk', os⟩) : wpAny (model pw w) A (call (.ref 1464) [.bytes x.toArray t]) Q E ⟨h, gs, dr, tk, os⟩ := by
  refine x_enter B hd (by rfl) (by rfl) (by rfl) (by rfl) (by rfl) (binds := [(Str.ofString "value", _)]) (by rfl) (locs (by rfl)) (by rfl) (by rfl) (by rfl) (by decide) ?_
  intro h₁ L tk' _ F N
  show wpAny _ _ (execs (fdB (sAt 12)) _) _ _ _
  refine wpAny_execs_cons ?_
  repeat tb_start
  refine KFB.getm (s := ⟨h₁, gs, dr, _, os⟩) (K := objs w.params) F N B.inK (by rfl) ?_
  intro x1 h2 F N _
  dsimp only
  refine KFB.callWith_bound N (.head _) ?_
  repeat tb_start
  refine ⟨KFB.at_of N (.head _), KFB.call_big N (.head _) rfl (by rw [KBw.ints_length]; simpa using hx) ?_⟩
  intro t' k
  exact H _ _ _ F.keep
end Mine
end

section
open PySem PySem.W PySem.Calls PyProof.Rows PySem.Spec
set_option Elab.async false
set_option maxRecDepth 100000
set_option maxHeartbeats 400000
namespace Mine
/-- what is known of an exception: its class, its arguments' tuple, its own dict -/
structure Ex where
  cls : Value
  a0 : Value
  dict : Option Addr
  ctx : Value := .none
/-- the exception stands at e; no entry yet (none), or a head entry whose fourth cell is fl -/
def ExAt (h B : Heap) (e : Addr) (x : Ex) (st : Option Value) : Prop :=
  ∃ oe vs, h.get? e = some oe ∧ oe.cls = x.cls ∧ oe.dict = x.dict ∧ oe.data = .fields vs ∧ vs[0]? = some x.a0 ∧ vs[2]? = some x.ctx ∧
    match st with
    | none => vs[1]? = some .none
    | some fl => ∃ T oT ts, vs[1]? = some (.ref T) ∧ B.get? T = none ∧ T ≠ e ∧ h.get? T = some oT ∧ oT.data = .fields ts ∧ ts[3]? = some fl
theorem dict_mapFields (o : Obj) (f) : (o.mapFields f).dict = o.dict := by obtain ⟨c, d, dt, sl⟩ := o; cases dt <;> rfl
section
variable {M : Model} {A : Around} {E : Value → Shared → Prop} {gs : Array GenState} {dr : Drawn} {tk : Nat} {os : OsState} {h B : Heap} {env : Env} {outer : List Env} {L e : Addr} {x : Ex} {Q : Unit → Shared → Prop}
theorem ex_entry {oe : Obj} {vs : Array Value} {head : Value} {hadNext : Bool} (hfr : A.frames = some (env :: outer)) (hf : env.frame = some L) (hkb : B.StaysIn h) (hen : B.get? e = none) (hl : h.FunFrames B (env :: outer))
    (he : h.get? e = some oe) (hd : oe.data = .fields vs) (hsz : 1 < vs.size)
    (H : ∀ h' T oT ts, B.StaysIn h' → h'.FunFrames B (env :: outer) → h'.get? e = some (oe.mapFields (·.setIfInBounds 1 (.ref T))) → B.get? T = none → T ≠ e → h'.get? T = some oT → oT.data = .fields ts → ts[3]? = some (rawInt L) → h.UpToSlots h' → Q () ⟨h', gs, dr, tk, os⟩) :
    wpAny M A (do let a ← frameOf env; let pl ← entryPlaceOf L hadNext; let b ← EntryCells.newEntry head a .none (rawInt L) .none pl; setField (.ref e) 1 b) Q E ⟨h, gs, dr, tk, os⟩ := by
  have hene : e ∉ (env :: outer).filterMap (·.frame) := fun hm => by
    obtain ⟨_, o, ho, hnf⟩ := hl.mem hm
    rw [he] at ho
    cases ho
    exact hnf vs hd
  refine wpAny_bind (wpAny_frameOf_fun (s := ⟨h, gs, dr, tk, os⟩) hfr hl hf fun h₁ hs₁ => ?_)
  refine wpAny_bind (wpAny_entryPlaceOf fun pl hpl => ?_)
  unfold EntryCells.newEntry newFields
  refine wpAny_bind (wpAny_newObj_type ?_ (hpl.sizeOk5 _ _ _ _ _))
  have he₁ : h₁.get? e = some oe := (hs₁.2.1 e hene).trans he
  have kb₁ : B.StaysIn h₁ := fun b o hbo => (hs₁.2.1 b fun hm => by rw [(hl.mem hm).1] at hbo; cases hbo).trans (hkb b o hbo)
  generalize hpo : ({ cls := .type "traceback", dict := none, data := .fields ([head, .ref L, .none, rawInt L, .none] ++ (if pl.isEmpty then List.replicate 6 Value.none else pl)).toArray } : Obj) = po
  have hpd : po.data = .fields ([head, .ref L, .none, rawInt L, .none] ++ (if pl.isEmpty then List.replicate 6 Value.none else pl)).toArray := by rw [← hpo]
  have hpf : po.isFreed = false := by rw [← hpo]; rfl
  have he₂ := Heap.get?_push_of_some (h := h₁) po he₁
  refine wpAny_setField (s := ⟨h₁.push po, gs, dr, tk, os⟩) he₂ hd hsz ?_
  have hTe : h₁.objs.size ≠ e := Nat.ne_of_gt (Heap.lt_size he₁)
  have keep : ∀ b o, b ≠ e → h₁.get? b = some o → ((h₁.push po).update e (Obj.mapFields (·.setIfInBounds 1 (Value.ref h₁.objs.size)))).get? b = some o := fun b o hbe hb => by
    rw [Heap.get?_update_other _ _ (Ne.symm hbe)]
    exact Heap.get?_push_of_some _ hb
  have noRecord : ∀ b o, h.get? b = some o → (∀ vs, o.data ≠ .fields vs) → b ≠ e := fun b o hb hnf q => by
    rw [q, he] at hb
    cases hb
    exact hnf vs hd
  refine H _ h₁.objs.size po _ (fun b o hbo => keep b o (fun q => by rw [q, hen] at hbo; cases hbo) (kb₁ b o hbo)) (hl.of_keeps fun b o hb hnf => ?_)
    (Heap.get?_update_self _ he₂ (Obj.isFreed_of_fields (Obj.data_mapFields hd _))) kb₁.fresh hTe ?_ hpd (by simp) fun b o hb hnf => ?_
  · obtain ⟨sl, hs⟩ := hs₁.2.2 b o hb
    exact ⟨_, keep b _ (noRecord b o hb hnf) hs, rfl⟩
  · rw [Heap.get?_update_other _ _ (Ne.symm hTe)]
    exact Heap.get?_push_size _ hpf
  · obtain ⟨sl, hs⟩ := hs₁.2.2 b o hb
    exact ⟨sl, keep b _ (noRecord b o hb hnf) hs⟩
/-- an exception that is not yet noted in this frame -/
theorem ex_note {st : Option Value} (hfr : A.frames = some (env :: outer)) (hf : env.frame = some L) (hkb : B.StaysIn h) (hen : B.get? e = none) (hl : h.FunFrames B (env :: outer)) (ht : ExAt h B e x st) (hst : st = none ∨ st = some .none)
    (H : ∀ h', B.StaysIn h' → h'.FunFrames B (env :: outer) → ExAt h' B e x (some (rawInt L)) → h.UpToSlots h' → Q () ⟨h', gs, dr, tk, os⟩) : wpAny M A (noteFrame (.ref e) env) Q E ⟨h, gs, dr, tk, os⟩ := by
  obtain ⟨oe, vs, he, hc, hdi, hd, h0, h2, hr⟩ := ht
  unfold noteFrame
  simp only [hf]
  have hsz0 : 0 < vs.size := (Array.getElem?_eq_some_iff.mp h0).1
  rcases hst with rfl | rfl
  · refine wpAny_bind (wpAny_field he hd hr ?_)
    rw [if_neg (by decide)]
    refine ex_entry hfr hf hkb hen hl he hd (Array.getElem?_eq_some_iff.mp hr).1 fun h' T oT ts k1 k2 k3 k4 k5 k6 k7 k8 k9 => H h' k1 k2 ?_ k9
    exact ⟨_, _, k3, (Obj.cls_mapFields _ _).trans hc, (dict_mapFields _ _).trans hdi, Obj.data_mapFields hd _, by rw [Array.getElem?_setIfInBounds_ne (by decide)]; exact h0, by rw [Array.getElem?_setIfInBounds_ne (by decide)]; exact h2, T, oT, ts, by simp [(Array.getElem?_eq_some_iff.mp hr).1], k4, k5, k6, k7, k8⟩
  · obtain ⟨T, oT, ts, h1, hnT, hTe, hT, hdT, h3⟩ := hr
    refine wpAny_bind (wpAny_field he hd h1 ?_)
    rw [if_pos (show (Value.ref T != Value.none) = true from by simp)]
    refine wpAny_bind (wpAny_field hT hdT h3 ?_)
    rw [if_neg (show ¬ ((Value.none == rawInt L) = true) from by simp [rawInt])]
    refine wpAny_bind (wpAny_setField (s := ⟨h, gs, dr, tk, os⟩) hT hdT (Array.getElem?_eq_some_iff.mp h3).1 ?_)
    have other : ∀ b, b ≠ T → (h.update T (Obj.mapFields (·.setIfInBounds 3 Value.none))).get? b = h.get? b := fun b hb => Heap.get?_update_other _ _ (Ne.symm hb)
    have noRecord : ∀ b o, h.get? b = some o → (∀ vs, o.data ≠ .fields vs) → b ≠ T := fun b o hb hnf q => by
      rw [q, hT] at hb
      cases hb
      exact hnf ts hdT
    refine ex_entry hfr hf (fun b o hbo => (other b fun q => by rw [q, hnT] at hbo; cases hbo).trans (hkb b o hbo)) hen (hl.of_keeps fun b o hb hnf => ⟨o, (other b (noRecord b o hb hnf)).trans hb, rfl⟩)
      ((other e (Ne.symm hTe)).trans he) hd (Array.getElem?_eq_some_iff.mp h1).1 fun h' T' oT' ts' k1 k2 k3 k4 k5 k6 k7 k8 k9 => H h' k1 k2 ?_ fun b o hb hnf => k9 b o ((other b (noRecord b o hb hnf)).trans hb) hnf
    exact ⟨_, _, k3, (Obj.cls_mapFields _ _).trans hc, (dict_mapFields _ _).trans hdi, Obj.data_mapFields hd _, by rw [Array.getElem?_setIfInBounds_ne (by decide)]; exact h0, by rw [Array.getElem?_setIfInBounds_ne (by decide)]; exact h2, T', oT', ts', by simp [(Array.getElem?_eq_some_iff.mp h1).1], k4, k5, k6, k7, k8⟩
theorem ex_again (hf : env.frame = some L) (ht : ExAt h B e x (some (rawInt L))) (H : Q () ⟨h, gs, dr, tk, os⟩) : wpAny M A (noteFrame (.ref e) env) Q E ⟨h, gs, dr, tk, os⟩ := by
  obtain ⟨oe, vs, he, hc, hdi, hd, h0, h2, T, oT, ts, h1, hnT, hTe, hT, hdT, h3⟩ := ht
  unfold noteFrame
  simp only [hf]
  refine wpAny_bind (wpAny_field he hd h1 ?_)
  rw [if_pos (show (Value.ref T != Value.none) = true from by simp)]
  refine wpAny_bind (wpAny_field hT hdT h3 ?_)
  rw [if_pos (show (rawInt L == rawInt L) = true from by simp)]
  exact wpAny_pure H
theorem ex_flight {fl : Value} {to : Option Addr} {l : List Env} (hkb : B.StaysIn h) (hl : h.FunFrames B l) (ht : ExAt h B e x (some fl))
    (H : ∀ h', B.StaysIn h' → h'.FunFrames B l → ExAt h' B e x (some (to.elim .none fun f => rawInt f)) → h.UpToSlots h' → Q () ⟨h', gs, dr, tk, os⟩) : wpAny M A (setFlight (.ref e) to) Q E ⟨h, gs, dr, tk, os⟩ := by
  obtain ⟨oe, vs, he, hc, hdi, hd, h0, h2, T, oT, ts, h1, hnT, hTe, hT, hdT, h3⟩ := ht
  have hsz3 : 3 < ts.size := (Array.getElem?_eq_some_iff.mp h3).1
  have other : ∀ b, b ≠ T → (h.update T (Obj.mapFields (·.setIfInBounds 3 (to.elim Value.none fun f => rawInt f)))).get? b = h.get? b := fun b hb => Heap.get?_update_other _ _ (Ne.symm hb)
  have noRecord : ∀ b o, h.get? b = some o → (∀ vs, o.data ≠ .fields vs) → b ≠ T := fun b o hb hnf q => by
    rw [q, hT] at hb
    cases hb
    exact hnf ts hdT
  unfold setFlight
  refine wpAny_bind (wpAny_field he hd h1 ?_)
  rw [if_pos (show (Value.ref T != Value.none) = true from by simp)]
  refine wpAny_setField (s := ⟨h, gs, dr, tk, os⟩) hT hdT hsz3 (H _ (fun b o hbo => (other b fun q => by rw [q, hnT] at hbo; cases hbo).trans (hkb b o hbo))
    (hl.of_keeps fun b o hb hnf => ⟨o, (other b (noRecord b o hb hnf)).trans hb, rfl⟩) ?_ fun b o hb hnf => ⟨o.slots, (other b (noRecord b o hb hnf)).trans hb⟩)
  exact ⟨oe, vs, (other e (Ne.symm hTe)).trans he, hc, hdi, hd, h0, h2, T, _, _, h1, hnT, hTe, Heap.get?_update_self _ hT (Obj.isFreed_of_fields (Obj.data_mapFields hdT _)), Obj.data_mapFields hdT _, by simp [hsz3]⟩
end
/-- an exception comes up to the frames l: what B holds stands as it was -/
def Fly (B : Heap) (l : List Env) (e : Addr) (x : Ex) (st : Option Value) (h : Heap) : Prop := B.StaysIn h ∧ B.get? e = none ∧ h.FunFrames B l ∧ ExAt h B e x st
section
variable {M : Model} {A : Around} {E : Value → Shared → Prop} {gs : Array GenState} {dr : Drawn} {tk : Nat} {os : OsState} {h B : Heap} {env : Env} {outer : List Env} {L e : Addr} {x : Ex} {Q : Unit → Shared → Prop}
theorem fly_note {st : Option Value} (hfr : A.frames = some (env :: outer)) (hf : env.frame = some L) (X : Fly B (env :: outer) e x st h) (hst : st = none ∨ st = some .none)
    (H : ∀ h', Fly B (env :: outer) e x (some (rawInt L)) h' → h.UpToSlots h' → Q () ⟨h', gs, dr, tk, os⟩) : wpAny M A (noteFrame (.ref e) env) Q E ⟨h, gs, dr, tk, os⟩ :=
  ex_note hfr hf X.1 X.2.1 X.2.2.1 X.2.2.2 hst fun h' k1 k2 k3 k4 => H h' ⟨k1, X.2.1, k2, k3⟩ k4
theorem fly_flight {fl : Value} {to : Option Addr} {l : List Env} (X : Fly B l e x (some fl) h) (H : ∀ h', Fly B l e x (some (to.elim .none fun f => rawInt f)) h' → h.UpToSlots h' → Q () ⟨h', gs, dr, tk, os⟩) :
    wpAny M A (setFlight (.ref e) to) Q E ⟨h, gs, dr, tk, os⟩ := ex_flight X.1 X.2.2.1 X.2.2.2 fun h' k1 k2 k3 k4 => H h' ⟨k1, X.2.1, k2, k3⟩ k4
/-- out of a frame: fresh, flying, or held in this very frame -/
theorem fly_leave {st : Option Value} (hfr : A.frames = some (env :: outer)) (hf : env.frame = some L) (X : Fly B (env :: outer) e x st h) (hst : (st = none ∨ st = some .none) ∨ st = some (rawInt L))
    (H : ∀ h', Fly B outer e x (some .none) h' → h.UpToSlots h' → Q () ⟨h', gs, dr, tk, os⟩) : wpAny M A (leaving env (.ref e)) Q E ⟨h, gs, dr, tk, os⟩ := by
  unfold leaving
  have fin : ∀ h₁, Fly B (env :: outer) e x (some (rawInt L)) h₁ → h.UpToSlots h₁ → wpAny M A (setFlight (.ref e) none) Q E ⟨h₁, gs, dr, tk, os⟩ := fun h₁ X₁ u₁ =>
    fly_flight X₁ fun h' X' u' => H h' ⟨X'.1, X'.2.1, X'.2.2.1.2.2, X'.2.2.2⟩ (u₁.trans u')
  rcases hst with hst | rfl
  · exact wpAny_bind (fly_note hfr hf X hst fin)
  · exact wpAny_bind (ex_again hf X.2.2.2 (fin h X (.refl h)))
end
end Mine
end

section
open PySem PySem.W PySem.Calls PyProof.Rows PySem.Spec
set_option Elab.async false
set_option maxRecDepth 100000
set_option maxHeartbeats 400000
namespace Mine
abbrev fs (l : List Env) : List Addr := l.filterMap (·.frame)
/-- an exception came out of a call that began at the heap g, under the frames l -/
def Thrown (g : Heap) (l : List Env) (e : Addr) (x : Ex) (h' : Heap) : Prop := Fly (hideAll g (fs l)) l e x (some .none) h' ∧ g.UpToSlots h'
theorem Fly.weaken {B B' : Heap} {l : List Env} {e : Addr} {x : Ex} {st : Option Value} {h : Heap} (k : B'.StaysIn B) (X : Fly B l e x st h) : Fly B' l e x st h := by
  obtain ⟨a, b, c, oe, vs, d1, d2, d3, d4, d5, d5', d6⟩ := X
  refine ⟨fun p o q => a p o (k p o q), fresh_of_stays k b, funFrames_base k c, oe, vs, d1, d2, d3, d4, d5, d5', ?_⟩
  cases st with
  | none => exact d6
  | some fl =>
    obtain ⟨T, oT, ts, q1, q2, q3⟩ := d6
    exact ⟨T, oT, ts, q1, fresh_of_stays k q2, q3⟩
theorem hide_in {g h : Heap} {env : Env} {outer : List Env} {L : Addr} {m : Str → Option Value} (F : Fr g L h m) (hf : env.frame = some L) : (hideAll g (fs outer)).StaysIn (hideAll h (fs (env :: outer))) := fun b o q => by
  have hb : b ∉ fs outer := fun hm => by rw [hideAll_none _ hm] at q; cases q
  have q' := of_hideAll _ q
  refine hideAll_get _ (F.keep b o q') fun hm => ?_
  rw [fs, List.filterMap_cons, hf] at hm
  rcases List.mem_cons.mp hm with rfl | hm
  · exact absurd (Heap.lt_size q') (Nat.not_lt.mpr F.above)
  · exact hb hm
section
variable {M : Model} {A : Around} {E E' : Value → Shared → Prop} {gs : Array GenState} {dr : Drawn} {tk : Nat} {os : OsState} {hb g h h' : Heap} {outer : List Env} {L a e : Addr} {m : Str → Option Value} {name : Str} {scope : Scope} {cd : Value} {x : Ex}
theorem fly_made (K : Below A hb outer g) (F : Fr g L h m) (hk : scope.kind = .function) (k : Ke h h') (hn : h.get? e = none) (ht : ExAt h' h' e x none) :
    Fly (hideAll h (fs (envOf name scope L a cd :: outer))) (envOf name scope L a cd :: outer) e x none h' := by
  have K' := K.push (name := name) (a := a) (cd := cd) F hk
  refine ⟨fun b o q => k b o (of_hideAll _ q), ?_, ?_, ht⟩
  · cases q : (hideAll h (fs (envOf name scope L a cd :: outer))).get? e with
    | none => rfl
    | some o => have := of_hideAll _ q; rw [hn] at this; cases this
  · exact (funFrames_hide K'.frames fun env he b hb => List.mem_filterMap.mpr ⟨env, he, hb⟩).of_keeps fun b o hb _ => ⟨o, k b o hb, rfl⟩
/-- made here, out of the frame -/
theorem leave_made (K : Below A hb outer g) (F : Fr g L h m) (hk : scope.kind = .function) (k : Ke h h') (hn : h.get? e = none) (ht : ExAt h' h' e x none)
    (H : ∀ h'', Thrown g outer e x h'' → h'.UpToSlots h'' → E (.ref e) ⟨h'', gs, dr, tk, os⟩) :
    wpAny M (A.deeper (envOf name scope L a cd)) (leaving (envOf name scope L a cd) (.ref e)) (fun _ s'' => E (.ref e) s'') E' ⟨h', gs, dr, tk, os⟩ :=
  fly_leave (Around.frames_deeper K.stack) rfl (fly_made K F hk k hn ht) (.inl (.inl rfl)) fun h'' X u => H h'' ⟨X.weaken (hide_in F rfl), ((Heap.UpToSlots.of_keeps F.keep).trans (Heap.UpToSlots.of_keeps k)).trans u⟩ u
/-- come up from a call that began at the body's heap h -/
theorem leave_thrown (K : Below A hb outer g) (F : Fr g L h m) (T : Thrown h (envOf name scope L a cd :: outer) e x h')
    (H : ∀ h'', Thrown g outer e x h'' → h'.UpToSlots h'' → E (.ref e) ⟨h'', gs, dr, tk, os⟩) :
    wpAny M (A.deeper (envOf name scope L a cd)) (leaving (envOf name scope L a cd) (.ref e)) (fun _ s'' => E (.ref e) s'') E' ⟨h', gs, dr, tk, os⟩ :=
  fly_leave (Around.frames_deeper K.stack) rfl T.1 (.inl (.inr rfl)) fun h'' X u => H h'' ⟨X.weaken (hide_in F rfl), ((Heap.UpToSlots.of_keeps F.keep).trans T.2).trans u⟩ u
end
section
variable {prog : Program} {w : World} {A : Around} {E : Value → Shared → Prop} {gs : Array GenState} {dr : Drawn} {tk : Nat} {os : OsState} {h : Heap} {Q : Value → Shared → Prop} {t : Tok}
open Builtin in
theorem x_bitem_out {x : List UInt8} {i : Int} {ui : Tok} {value slice : Expr} (hA : A.handled = none) (h1 : (x.length : Int) ≤ i)
    (hs : subscripted slice false (.bytes x.toArray t) (.int i ui) = operate [.bytes x.toArray t, .int i ui] (getItem (.bytes x.toArray t) (.int i ui)))
    (ht : ∀ r, letTemporaryGo value (.bytes x.toArray t) r = pure ()) (H : ∀ h' e tk', Heap.NewExc h h' e "IndexError" → E (.ref e) ⟨h', gs, dr, tk', os⟩) :
    wpAny (model prog w) A (subscriptTail value slice (.bytes x.toArray t) (.int i ui)) Q E ⟨h, gs, dr, tk, os⟩ := by
  refine subscriptTail_builtin (typeIs_bytes _ _ _) FB.slot_bytes_getitem.lookup ?_ hs ht
  refine getItem_meets (S := raisesNew "IndexError") (typeIs_bytes _ _ _) (by decide) FB.slot_bytes_getitem FB.entry_bytes_getitem (FB.args_bytes_getitem_2 _ _) ?_ ⟨hA, fun h' tk' e hx => H h' e tk' hx⟩
  refine .of_wp fun prog w A R s hS => ?_
  show wpAny _ _ (Bytes.subscript? (.int i ui) >>= fun r => _) _ _ s
  refine wpAny_bind ?_
  unfold Bytes.subscript?
  refine wpAny_bind (wpAny_specialOf (typeIs_int s i ui) F.slot_int_index.lookup ?_)
  show wpAny _ _ (if (!Bytes.fitsIndex i) = true then _ else pure (some i)) _ _ s
  cases hf : Bytes.fitsIndex i with
  | false =>
    simp only [Bool.not_false, if_true]
    refine wpAny_bind (wpAny_rule (wpAny_bind ?_))
    refine wpAny_mono (Q := fun n s' => n = "int" ∧ s' = s) (E := fun _ _ => False) ?_ (fun n s' q => ?_) fun _ _ z => z.elim
    · first | exact wpAny_of_eq (a := "int") (by rfl) ⟨rfl, rfl⟩ | exact wpAny_of_eq (a := "int") (by kernel_rfl) ⟨rfl, rfl⟩
    · obtain ⟨rfl, rfl⟩ := q
      exact wpAny_bind (wpAny_raiseErrorMade plainExc_IndexError hS.1 hS.2 (by decide))
  | true =>
  simp only [Bool.not_true, Bool.false_eq_true, if_false]
  refine wpAny_pure ?_
  have hn : (seqIndex? i x.toArray.size).bind (x.toArray[·]?) = none := by
    have : seqIndex? i x.toArray.size = none := by
      unfold seqIndex?
      have h0 : ¬ i < 0 := by omega
      simp only [h0, if_false]
      rw [if_neg]
      simp only [List.size_toArray, Bool.and_eq_true, decide_eq_true_eq]
      omega
    rw [this]; rfl
  show wpAny _ _ (match (seqIndex? i x.toArray.size).bind (x.toArray[·]?) with | some x => retInt x.toNat | none => _) _ _ s
  rw [hn]
  exact wpAny_bind (wpAny_rule (wpAny_bind (wpAny_raiseErrorWords plainExc_IndexError hS.1 hS.2)))
theorem exAt_new {h' B : Heap} {e : Addr} {cls : String} (N : Heap.NewExc h h' e cls) : ∃ x : Ex, x.cls = .type cls ∧ x.ctx = .none ∧ ExAt h' B e x none := by
  obtain ⟨ob, t, h1, h2, h3⟩ := N.there
  exact ⟨⟨.type cls, t, ob.dict, .none⟩, rfl, rfl, ob, _, h1, h2, rfl, h3, rfl, rfl, rfl⟩
end
end Mine
end

section
open PySem PySem.W PySem.Calls PyProof.Rows PySem.Spec
set_option Elab.async false
set_option maxRecDepth 100000
set_option maxHeartbeats 400000
namespace Mine
section
variable {prog : Program} {w : World} {A : Around} {E : Value → Shared → Prop} {h : Heap} {g : Array GenState} {d : Drawn} {t : Nat} {os : OsState}
variable {nm q : Str} {C N : Addr} {bs bm bmB : List Value} {hdct : Bool} {sn : List Str} {sub : List Value} {ab : Bool} {col : Option Bool} {dd : Option Addr} {k0 k1 k2 k3 k5 : Option Value} {B newId initId : String}
/-- an exception class of the text's own, below another of the text's own, with an __init__ of its own: the call -/
theorem type_call_own (F : ExcBaseFacts B newId initId bmB) (T : OwnTail h bmB bm) {mN : Str → Option Value} {rest : List Value} {fI : Addr} {oI : Obj} {Q : Fin → Shared → Prop}
    (hC : h.get? C = some (excClassObj nm q C N bs bm hdct sn sub ab col dd k0 k1 k2 k3 k5 newId)) (hn : h.Ns N mN) (hi : mN "__init__" = some (.ref fI)) (hfI : h.get? fI = some oI) (hfc : oI.cls = .type "function")
    (hq : ∀ h' e, Heap.MadeExcOf h h' e (.ref C) rest → wpAny (model prog w) A (call (.ref fI) (.ref e :: rest)) (fun r s' => r = .none ∧ Q (.done (.ret (.ref e))) s') E ⟨h', g, d, t, os⟩) (hrest : rest.length ≤ sizeLine) :
    wpAny (model prog w) A (Builtin.«type.__call__» ⟨.ref C :: rest, []⟩) Q E ⟨h, g, d, t, os⟩ := by
  repeat (first | with_reducible refine wpAny_loadPart_at hC ?_ | with_reducible refine wpAny_madeBy_exc hC ?_ | wp_step)
  refine codeAny_call_builtin_code (Code.quiet_builtin _ F.quiet) (wpAny_check_new_subT F T hC ?_)
  refine codeAny_exc_new_subT F T hC ?_ hrest
  show wpAny _ _ _ _ _ _
  have hC₁ := Heap.get?_push_of_some { cls := .ref C, data := .fields #[.ref h.objs.size, .none, .none, .none, .bool false, .none] } (Heap.get?_push_of_some { cls := .type "tuple", data := .seq rest.toArray } hC)
  have hfI₁ := Heap.get?_push_of_some { cls := .ref C, data := .fields #[.ref h.objs.size, .none, .none, .none, .bool false, .none] } (Heap.get?_push_of_some { cls := .type "tuple", data := .seq rest.toArray } hfI)
  have hn₁ : ((h.push { cls := .type "tuple", data := .seq rest.toArray }).push { cls := .ref C, data := .fields #[.ref h.objs.size, .none, .none, .none, .bool false, .none] }).Ns N mN :=
    hn.keeps fun b o e => Heap.get?_push_of_some _ (Heap.get?_push_of_some _ e)
  have T₁ : OwnTail ((h.push { cls := .type "tuple", data := .seq rest.toArray }).push { cls := .ref C, data := .fields #[.ref h.objs.size, .none, .none, .none, .bool false, .none] }) bmB bm :=
    T.keeps fun b o e => Heap.get?_push_of_some _ (Heap.get?_push_of_some _ e)
  have hget : ((h.push { cls := .type "tuple", data := .seq rest.toArray }).push { cls := .ref C, data := .fields #[.ref h.objs.size, .none, .none, .none, .bool false, .none] }).get? (h.objs.size + 1) = some
      { cls := .ref C, data := .fields #[.ref h.objs.size, .none, .none, .none, .bool false, .none] } := by heap_get
  have hcC : (Value.ref C :: bm).contains (.ref C) = true := by simp
  unfold isInstance
  repeat (first | with_reducible refine wpAny_loadPart_at hget ?_ | (with_reducible refine wpAny_isSubtype_exc hC₁ ?_; rw [hcC]) | wp_step)
  show wpAny _ _ (typeLookup (.ref C) _) _ _ _
  refine wpAny_typeLookup_tail hC₁ hn₁ T₁ F.mroIs F.init.lookup ?_
  rw [hi]
  refine wpAny_holding (wpAny_bind ?_)
  unfold bindSpecial
  refine wpAny_bind (wpAny_typeOf (T := "function") ⟨_, hfI₁, hfc⟩ ?_)
  rw [if_pos (by decide)]
  refine wpAny_pure (wpAny_bind (wpAny_mono (hq _ (h.objs.size + 1) ⟨fun b o hb => Heap.get?_push_of_some _ (Heap.get?_push_of_some _ hb), Heap.get?_none_of_le (Nat.le_succ _), h.objs.size, hget, Heap.get?_none_of_le (Nat.le_refl _), ?_⟩) (fun r s' hr => ?_) fun _ _ x => x))
  · exact Heap.get?_push_of_some _ (Heap.get?_push_at rfl rfl)
  · obtain ⟨rfl, hQ⟩ := hr
    wp_walk
    exact hQ
theorem call_own (F : ExcBaseFacts B newId initId bmB) (T : OwnTail h bmB bm) {mN : Str → Option Value} {rest : List Value} {fI : Addr} {oI : Obj} {Q : Value → Shared → Prop}
    (hC : h.get? C = some (excClassObj nm q C N bs bm hdct sn sub ab col dd k0 k1 k2 k3 k5 newId)) (hn : h.Ns N mN) (hi : mN "__init__" = some (.ref fI)) (hfI : h.get? fI = some oI) (hfc : oI.cls = .type "function")
    (hq : ∀ h' e, Heap.MadeExcOf h h' e (.ref C) rest →
      wpAny (model prog w) (A.under (.builtin "type.__call__" ⟨.ref C :: rest, []⟩)) (call (.ref fI) (.ref e :: rest)) (fun r s' => r = .none ∧ Q (.ref e) s') E ⟨h', g, d, t, os⟩) (hrest : rest.length ≤ sizeLine) :
    wpAny (model prog w) A (call (.ref C) rest) Q E ⟨h, g, d, t, os⟩ := by
  have f1 := tc_lookup
  have f2 := tc_bind (.ref C)
  have hT : (⟨h, g, d, t, os⟩ : Shared).TypeIs (.ref C) "type" := ⟨_, hC, rfl⟩
  refine wpAny_call (codeAny_of_tree ?_)
  show wpAny _ _ (callAny (.ref C) _) _ _ _
  repeat (any_goals (first | assumption | with_reducible refine wpAny_loadPart_at hC ?_ | wp_step))
  refine ⟨rfl, ?_⟩
  refine codeAny_call_builtin_at (Code.quiet_builtin _ (by decide +kernel)) entry_typeCall (wpAny_check_type_call_sub hC (type_call_own (hrest := hrest) F T hC hn hi hfI hfc fun h' e hm => ?_))
  exact hq h' e hm
end
end Mine
end

section
open PySem PySem.W PySem.Calls PyProof.Rows PySem.Spec
set_option Elab.async false
set_option maxRecDepth 100000
set_option maxHeartbeats 400000
namespace Mine
theorem owner_init : (kfb_private% "ownerAndName") "Exception.__init__" = ("Exception", "__init__") := by first | decide +kernel | kernel_rfl
def initBound (x : Addr) : Obj := { cls := .type "method-wrapper", data := .fields #[.builtin "Exception.__init__", .ref x] }
theorem slot_wget : Slot "wrapper_descriptor" "__get__" "wrapper_descriptor.__get__" := .of (owner := "wrapper_descriptor") (n := "__get__") (by rw [typeLookup_type, builtinLookup_eq_fast]; kernel_rfl) (by decide +kernel) (by decide +kernel) (by decide +kernel) (by first | exact .inl (by decide +kernel) | exact .inr (by decide +kernel)) (by rw [isSubtype_type]; kernel_rfl)
theorem entry_wget : entryFor table "wrapper_descriptor.__get__" = some Builtin.«wrapper_descriptor.__get__» := entryFor_of_tree (by kernel_rfl)
theorem args_wget (a b c : Value) : argsOk "wrapper_descriptor.__get__" ⟨[a, b, c], []⟩ := by unfold argsOk; kernel_rfl
theorem type_init : typeOf (.builtin "Exception.__init__") = pure (.type "wrapper_descriptor") := by show builtinType _ = _; rw [builtinType_eq_fast]; kernel_rfl
section
variable {prog : Program} {w : World} {A : Around} {E : Value → Shared → Prop} {h : Heap} {g : Array GenState} {d : Drawn} {t : Nat} {os : OsState}
open Builtin in
theorem run_wget {x : Addr} {c : Value} {P : Fin → Shared → Prop} (hi : wpAny (model prog w) A (isInstance (.ref x) (.type "Exception")) (fun b s => b = true ∧ s = ⟨h, g, d, t, os⟩) (fun _ _ => False) ⟨h, g, d, t, os⟩)
    (hq : P (.done (.ret (.ref h.objs.size))) ⟨h.push (initBound x), g, d, t, os⟩) :
    wpAny (model prog w) A (Builtin.«wrapper_descriptor.__get__» ⟨[.builtin "Exception.__init__", .ref x, c], []⟩) P E ⟨h, g, d, t, os⟩ := by
  unfold Builtin.«wrapper_descriptor.__get__»
  refine wpAny_bind (wpAny_of_eq (a := (.builtin "Exception.__init__", some (.ref x), if c == .none then none else some c)) (by first | rfl | kernel_rfl) ?_)
  show wpAny _ _ (((kfb_private% "checkInstance") (.builtin "Exception.__init__") (.ref x)) >>= fun _ => newFields "method-wrapper" [.builtin "Exception.__init__", .ref x] >>= fun v => ret v) _ _ _
  refine wpAny_bind ?_
  have e : (kfb_private% "checkInstance") (.builtin "Exception.__init__") (.ref x) = (isInstance (.ref x) (.type "Exception") >>= fun b => if !b then (do
      rule "descr.get.wrong-instance"
      raiseError "TypeError" s!"descriptor '{(Str.ofString "__init__").toString}' for '{← typeName (.type "Exception")}' objects doesn't apply to a '{← typeNameOf (.ref x)}' object") else pure ()) := by first | rfl | kernel_rfl
  rw [e]
  refine wpAny_bind (wpAny_mono hi (fun b s hb => ?_) fun _ _ z => z.elim)
  obtain ⟨rfl, rfl⟩ := hb
  refine wpAny_pure ?_
  exact wpAny_bind (wpAny_newObj_type (wpAny_pure hq))
theorem super_ga_init {so D x C : Addr} {l₀ l : List Value} {K : Frag} {tk : Tok} {Q : Fin → Shared → Prop}
    (hso : h.get? so = some { cls := .type "super", dict := none, data := .fields #[.ref D, .ref x, .ref C], slots := #[] }) (hno : Looks (model prog w) h (opaqueClassAbove (.ref C)) none)
    (hC : Looks (model prog w) h (mroOf (.ref C)) l₀) (hl : (l₀.dropWhile (· != .ref D)).drop 1 = l) (X : K.In h)
    (hf : alongIn K "__init__" l = some (some (.builtin "Exception.__init__"))) (hxC : x ≠ C)
    (hi : ∀ A, wpAny (model prog w) A (isInstance (.ref x) (.type "Exception")) (fun b s => b = true ∧ s = ⟨h, g, d, t, os⟩) (fun _ _ => False) ⟨h, g, d, t, os⟩)
    (hq : Q (.done (.ret (.ref h.objs.size))) ⟨h.push (initBound x), g, d, t, os⟩) :
    wpAny (model prog w) A (Builtin.«super.__getattribute__» ⟨[.ref so, .str "__init__" tk], []⟩) Q E ⟨h, g, d, t, os⟩ := by
  have hlk := slot_wget.lookup
  have hne : (Value.ref x == Value.ref C) = false := by simp [hxC]
  have hn : (("__init__" : Str) == ("__class__" : Str)) = false := by decide
  have hty := type_init
  have hdt : ({ cls := .type "super", dict := none, data := .fields #[.ref D, .ref x, .ref C], slots := #[] } : Obj).data = .fields #[.ref D, .ref x, .ref C] := rfl
  have f0 : (#[.ref D, .ref x, .ref C] : Array Value)[0]? = some (.ref D) := rfl
  have f1 : (#[.ref D, .ref x, .ref C] : Array Value)[1]? = some (.ref x) := rfl
  have f2 : (#[.ref D, .ref x, .ref C] : Array Value)[2]? = some (.ref C) := rfl
  unfold Builtin.«super.__getattribute__»
  repeat (first
    | (with_reducible refine wpAny_field hso hdt f0 ?_) | (with_reducible refine wpAny_field hso hdt f1 ?_) | (with_reducible refine wpAny_field hso hdt f2 ?_)
    | (with_reducible refine ks_wpAny_notOpaque hno ?_)
    | (with_reducible refine Looks.at hC ?_; rw [hl])
    | (refine ks_forIn_along X (fun _ _ => rfl) rfl ?_ hf)
    | (with_reducible refine wpAny_of_eq hty ?_)
    | (with_reducible refine wpAny_of_eq hlk ?_)
    | (refine wpAny_call_entry slot_wget hty entry_wget (run_wget (hi _) ?_) (args_wget _ _ _))
    | (with_reducible refine ⟨_, rfl, ?_⟩)
    | (simp only [hn, hne, Bool.or_false, Bool.false_eq_true, if_false])
    | wp_step
    | dsimp only)
  all_goals exact hq
end
end Mine
end

section
open PySem PySem.W PySem.Calls PyProof.Rows PySem.Spec
set_option Elab.async false
set_option maxRecDepth 100000
set_option maxHeartbeats 400000
namespace Mine
section
variable {prog : Program} {w : World} {A : Around} {E : Value → Shared → Prop} {h : Heap} {g : Array GenState} {d : Drawn} {t : Nat} {os : OsState}
theorem get_init {so D x C : Addr} {l₀ l : List Value} {K : Frag} {pl : Sem Bool} {Q : Value × List Value → Shared → Prop}
    (hso : h.get? so = some { cls := .type "super", dict := none, data := .fields #[.ref D, .ref x, .ref C], slots := #[] }) (hno : Looks (model prog w) h (opaqueClassAbove (.ref C)) none)
    (hC : Looks (model prog w) h (mroOf (.ref C)) l₀) (hl : (l₀.dropWhile (· != .ref D)).drop 1 = l) (X : K.In h)
    (hf : alongIn K "__init__" l = some (some (.builtin "Exception.__init__"))) (hxC : x ≠ C)
    (hi : ∀ A t, wpAny (model prog w) A (isInstance (.ref x) (.type "Exception")) (fun b s => b = true ∧ s = ⟨h, g, d, t, os⟩) (fun _ _ => False) ⟨h, g, d, t, os⟩)
    (hq : Q (.ref h.objs.size, []) ⟨h.push (initBound x), g, d, t + 1, os⟩) : wpAny (model prog w) A (getMethod (.ref so) "__init__" pl) Q E ⟨h, g, d, t, os⟩ := by
  have hlk := F.ks_slot_super_ga.lookup
  have hcan := F.ks_canon_super_ga
  have hT : ∀ t', (⟨h, g, d, t', os⟩ : Shared).TypeIs (.ref so) "super" := fun _ => ⟨_, hso, rfl⟩
  unfold getMethod
  refine wpAny_bind (wpAny_specialOf (hT _) hlk ?_)
  show wpAny _ _ (if (Manifest.canonical "super.__getattribute__" != "object.__getattribute__") = true then _ else _) _ _ _
  rw [if_pos hcan]
  unfold getAttr getAttrBy
  refine wpAny_bind (wpAny_bind (wpAny_mkText (wpAny_holding (wpAny_bind (wpAny_typeOf (hT _) (wpAny_bind (wpAny_of_eq hlk ?_)))))))
  show wpAny _ _ (getAttrByItsOwn (.ref so) (.str "__init__" t) (.type "super") (.builtin "super.__getattribute__") true false) _ _ _
  unfold getAttrByItsOwn hookBefore callGetattribute boundAndCalled
  refine wpAny_bind (wpAny_of_eq (show (if onTheHeap (.type "super") then typeLookup (.type "super") "__getattr__" else pure none) = pure none from rfl) ?_)
  refine wpAny_bind (wpAny_attempt (wpAny_holding ?_))
  show wpAny _ _ (bindSpecial (.builtin "super.__getattribute__") (.ref so) >>= _) _ _ _
  refine wpAny_bind (wpAny_of_eq (F.ks_slot_super_ga.bind _) ?_)
  refine wpAny_mono (Q := fun v s' => v = .ref h.objs.size ∧ s' = ⟨h.push (initBound x), g, d, t + 1, os⟩) (E := fun _ _ => False)
    (wpAny_call_entry F.ks_slot_super_ga (hT _) F.ks_entry_super_ga (super_ga_init hso hno hC hl X hf hxC (fun A => hi A _) ⟨_, rfl, rfl, rfl⟩) (F.ks_gaArgs_super _ _)) (fun v s' hv => ?_) fun _ _ z => z.elim
  obtain ⟨rfl, rfl⟩ := hv
  exact wpAny_pure (wpAny_pure hq)
variable {nm q : Str} {C N : Addr} {bs bm bmB : List Value} {hdct : Bool} {sn : List Str} {sub : List Value} {ab : Bool} {col : Option Bool} {dd : Option Addr} {k0 k1 k2 k3 k5 : Option Value} {newId : String}
theorem check_init {M : Model} {e : Addr} {oe : Obj} {m : Value} {Q : Unit → Shared → Prop} (T : OwnTail h [.type "Exception", .type "BaseException", .type "object"] bm)
    (hC : h.get? C = some (excClassObj nm q C N bs bm hdct sn sub ab col dd k0 k1 k2 k3 k5 newId)) (he : h.get? e = some oe) (hcls : oe.cls = .ref C) (hq : Q () ⟨h, g, d, t, os⟩) : wpAny M A (checkBoundCall "Exception.__init__" ⟨[.ref e, m], []⟩) Q E ⟨h, g, d, t, os⟩ := by
  have FX := PySem.F.excBase_Exception
  have hcB : (Value.ref C :: bm).contains (.type "Exception") = true := by rw [List.contains_cons, T.hasType FX.hasB, Bool.or_true]
  have hshort := FX.noStar
  simp only [checkBoundCall, FX.initKind, FX.initRow]
  repeat (first | (with_reducible refine wpAny_loadPart_at he ?_; rw [hcls]) | with_reducible refine wpAny_loadPart_at hC ?_ | (with_reducible refine wpAny_isSubtype_exc hC ?_; rw [hcB]) | wp_step)
  exact hq
theorem quiet_init {as : Args} : (Code.builtin "Exception.__init__" as).quiet = true := Code.quiet_builtin _ (by decide +kernel)
theorem call_init {b e : Addr} {oe : Obj} {vs : Array Value} {m : Value} {Q : Value → Shared → Prop} (T : OwnTail h [.type "Exception", .type "BaseException", .type "object"] bm)
    (hC : h.get? C = some (excClassObj nm q C N bs bm hdct sn sub ab col dd k0 k1 k2 k3 k5 newId)) (he : h.get? e = some oe) (hcls : oe.cls = .ref C) (hd : oe.data = .fields vs) (hsz : 0 < vs.size) (hb : h.get? b = some (initBound e))
    (hq : Q .none ⟨(h.push { cls := .type "tuple", data := .seq #[m] }).update e (Obj.mapFields (·.setIfInBounds 0 (.ref h.objs.size))), g, d, t, os⟩) :
    wpAny (model prog w) A (call (.ref b) [m]) Q E ⟨h, g, d, t, os⟩ := by
  refine wpAny_call (codeAny_of_tree ?_)
  show wpAny _ A.in1 (callAny (.ref b) ⟨[m], []⟩) _ _ _
  simp only [callAny]
  refine wpAny_bind (wpAny_load hb ?_)
  simp only [initBound, show (Value.type "method-wrapper" == Value.type "method" || Value.type "method-wrapper" == Value.type "builtin_function_or_method" || Value.type "method-wrapper" == Value.type "method-wrapper") = true by decide, if_true]
  refine KFB.if_so (by decide) ?_
  refine wpAny_bind (check_init T hC he hcls ?_)
  refine wpAny_pure ?_
  show _ ∧ codeAny _ _ (.builtin "Exception.__init__" ⟨[.ref e, m], []⟩) _ _
  refine ⟨quiet_init, codeAny_builtin PySem.F.excBase_Exception.initEntry ?_⟩
  unfold Builtin.«BaseException.__init__»
  refine wpAny_bind (wpAny_newObj_type ?_ (by show (#[m] : Array Value).size ≤ sizeLine; exact (by decide : 1 ≤ sizeLine)))
  have he' := Heap.get?_push_of_some { cls := .type "tuple", data := .seq #[m] } he
  obtain ⟨v0, h0⟩ : ∃ v0, vs[0]? = some v0 := ⟨vs[0], Array.getElem?_eq_getElem hsz⟩
  unfold Builtin.BaseException.bexcPut
  refine wpAny_bind (wpAny_bind (wpAny_field he' hd h0 ?_))
  refine wpAny_bind (wpAny_setField (s := ⟨h.push { cls := .type "tuple", data := .seq #[m] }, g, d, t, os⟩) he' hd hsz ?_)
  cases v0 <;> (wp_walk; exact hq)
end
end Mine
end

section
open PySem PySem.W PySem.Calls PyProof.Rows PySem.Spec
set_option Elab.async false
set_option maxRecDepth 100000
set_option maxHeartbeats 400000
namespace Mine
def fd71 : FuncData := { name := "__init__", qualname := "DecodingError.__init__", params := fdA (mAt 4 0), body := .stmts (fdB (mAt 4 0)), scope := fdS (mAt 4 0), globals := 3, closure := [("__class__", 59)], defaults := .none, kwdefaults := .none, doc := .none, pyModule := (.str (Str.ofString "rlp.exceptions") 194), code := .ref 70, closureTuple := .ref 64, builtins := 0 }
section
variable {w : World} {A : Around} {E : Value → Shared → Prop} {h : Heap} {gs : Array GenState} {dr : Drawn} {tk : Nat} {os : OsState}
theorem c74 (B : Base w h) : h.get? 74 = some (excClassObj "DecodingError" "DecodingError" 74 73 [.ref 31] [.ref 31, .type "Exception", .type "BaseException", .type "object"] true [] [] false none none (some (.ref 56)) none (some (.str "DecodingError" 244)) (some (.str "DecodingError" 252)) (some (.bool true)) "Exception.__new__") := B.get (by rfl)
theorem strKeys_of (es : Array DictEntry) (h : (es.toList.all fun e => match e.key with | .str _ _ => true | _ => false) = true) : StrKeys es := fun e he => by
  have := List.all_eq_true.mp h e (Array.mem_toList_iff.mpr he)
  revert this
  cases e.key <;> simp
theorem ns_of {a : Addr} {o : Obj} {es : Array DictEntry} {n : Nat} (hg : h.get? a = some o) (hd : o.data = .dict es n) (hs : (es.toList.all fun e => match e.key with | .str _ _ => true | _ => false) = true) : h.Ns a (nsFind es) := ⟨o, es, n, hg, hd, strKeys_of es hs, fun _ => rfl⟩
theorem t74 (B : Base w h) : OwnTail h [.type "Exception", .type "BaseException", .type "object"] [.ref 31, .type "Exception", .type "BaseException", .type "object"] :=
  .own (B.get (a := 31) (by rfl)) (ns_of (a := 30) (B.get (by rfl)) (by rfl) (by rfl)) (by rfl) .base
theorem callWith_init {M : Model} {pos : Pos} {u e : Addr} {args : List (Bool × Sem Value)} {s : Shared} {Q : Value → Shared → Prop} (hplain : args.any (·.1) = false)
    (H : wpAny M A (evalArgs (.ref u) true args []) (fun x s₁ => s₁.heap.get? u = some (initBound e) ∧ wpAny M A (call (.ref u) ([] ++ x.pos) x.kw) Q E s₁) E s) : wpAny M A (callWith pos (.ref u) [] args []) Q E s := by
  unfold callWith
  refine wpAny_bind (wpAny_holding (wpAny_mono H (fun x s₁ h₁ => wpAny_bind (wpAny_standAt ?_)) fun _ _ x => x))
  obtain ⟨ho, hcall⟩ := h₁
  simp only [hplain, List.any_nil, Bool.or_false]
  refine wpAny_bind (m := keeperOf (.ref u)) ?_
  unfold keeperOf
  refine wpAny_bind (wpAny_load ho ?_)
  simp only [initBound, show (Value.type "method-wrapper" != Value.type "method") = true by decide, show (Value.type "method-wrapper" == Value.type "builtin_function_or_method" || Value.type "method-wrapper" == Value.type "method-wrapper") = true by decide, if_true]
  refine wpAny_pure ?_
  exact wpAny_bind (wpAny_mono hcall (fun r s₂ hr => wpAny_bind (wpAny_holding (wpAny_point (wpAny_pure hr)))) fun _ _ x => x)
theorem isi_exc {M : Model} {e : Addr} {oe : Obj} (B : Base w h) (he : h.get? e = some oe) (hcls : oe.cls = .ref 74) (A : Around) (t : Nat) :
    wpAny M A (isInstance (.ref e) (.type "Exception")) (fun b s => b = true ∧ s = ⟨h, gs, dr, t, os⟩) (fun _ _ => False) ⟨h, gs, dr, t, os⟩ := by
  have hC := c74 B
  unfold isInstance
  repeat (first | (with_reducible refine wpAny_loadPart_at he ?_; rw [hcls]) | (with_reducible refine wpAny_isSubtype_exc hC ?_) | wp_step)
  exact ⟨rfl, rfl⟩
open Builtin Builtin.ObjectAttr in
theorem set_entry {e : Addr} {oe : Obj} {vs : Array Value} {name : Str} {tk' : Tok} {v : Value} {Q : Fin → Shared → Prop} (B : Base w h) (he : h.get? e = some oe) (hc : oe.cls = .ref 74) (hdn : oe.dict = none) (hd : oe.data = .fields vs)
    (hf : findIn (objs w.params) (.ref 74) name = some none)
    (H : ∀ h' D tk', (∀ b o, b ≠ e → h.get? b = some o → h'.get? b = some o) → h'.get? e = some { cls := .ref 74, dict := some D, data := .fields vs, slots := oe.slots } → h'.Ns D (fun y => if y = name then some v else none) → h.get? D = none → Q (.done (.ret .none)) ⟨h', gs, dr, tk', os⟩) :
    wpAny (model pw w) A (Builtin.«object.__setattr__» ⟨[.ref e, .str name tk', v], []⟩) Q E ⟨h, gs, dr, tk, os⟩ := by
  have hC := c74 B
  have hpass := PySem.F.store_Exception.passes (.ref e)
  unfold Builtin.«object.__setattr__»
  repeat (first | rw [refuse_eq] | (rw [refuseLoop_ref, refuseLoop_ref, hpass]) | (with_reducible refine wpAny_loadPart_at he ?_; rw [hc]) | with_reducible refine wpAny_mroOf_exc hC ?_ | (with_reducible refine (looks_findIn B.inK hf).at ?_) | wp_step)
  obtain ⟨oc, od, oda, osl⟩ := oe
  dsimp only at hc hdn hd
  subst hc hdn hd
  dsimp only
  rw [if_neg (by simp [typeHasDict])]
  have he₁ : (h.push { cls := .type "dict", data := .dict #[] }).get? e = some ⟨.ref 74, none, .fields vs, osl⟩ := Heap.get?_push_of_some _ he
  have hes : e ≠ h.objs.size := Nat.ne_of_lt (Heap.lt_size he)
  refine wpAny_bind (wpAny_alloc' ?_)
  refine wpAny_bind (wpAny_update' he₁ ?_)
  refine wpAny_pure ?_
  have hgd : ((h.push { cls := .type "dict", data := .dict #[] }).update e fun o => { cls := o.cls, dict := some h.objs.size, data := o.data, slots := o.slots }).get? h.objs.size = some { cls := .type "dict", data := .dict #[] } :=
    (Heap.get?_update_ne _ _ _ _ hes.symm).trans (Heap.get?_push_at rfl rfl)
  have hnd : ((h.push { cls := .type "dict", data := .dict #[] }).update e fun o => { cls := o.cls, dict := some h.objs.size, data := o.data, slots := o.slots }).Ns h.objs.size (fun _ => none) :=
    ⟨_, #[], _, hgd, rfl, fun e he => absurd he (by simp), fun _ => rfl⟩
  show wpAny _ _ (storeInDict h.objs.size (.str name tk') name v) _ _ _
  unfold storeInDict newKeyGuard
  refine wpAny_bind (wpAny_pure (wpAny_bind (wpAny_nsSet1 (Heap.Ns1.of_empty hnd) fun h' hn' hs => ?_)))
  obtain ⟨oD, esD, epD, hoD, hdD, hcD⟩ := hn'.count (Within.cons name v Within.nil)
  refine wpAny_bind (wpAny_lookBehind hoD (by rw [hdD]; exact pastItsLine_dict (Nat.le_trans hcD (by rw [List.length_cons, List.length_nil, sizeLine_eq]; omega))) ?_)
  wp_walk
  refine H h' h.objs.size _ (fun b ob hbe hb => ?_) ?_ ?_ (Heap.get?_none_of_le (Nat.le_refl _))
  · exact (hs.2 b (Nat.ne_of_lt (Heap.lt_size hb))).trans ((Heap.get?_update_ne _ _ _ _ hbe).trans (Heap.get?_push_of_some _ hb))
  · exact (hs.2 e hes).trans (Heap.get?_update_self _ he₁ rfl)
  · obtain ⟨o', es, ep, e1, e2, e3, eu, e4⟩ := hn'
    exact ⟨o', es, ep, e1, e2, e3, fun y => by rw [e4 y]⟩
theorem check_sa {M : Model} {e : Addr} {oe : Obj} {nameV v : Value} {Q : Unit → Shared → Prop} (B : Base w h) (he : h.get? e = some oe) (hc : oe.cls = .ref 74) (hq : Q () ⟨h, gs, dr, tk, os⟩) :
    wpAny M A (checkBuiltinCall "object.__setattr__" ⟨[.ref e, nameV, v], []⟩) Q E ⟨h, gs, dr, tk, os⟩ := by
  have hC := c74 B
  have SF := PySem.F.store_object
  have ha := SF.args (.ref e) nameV v
  simp only [checkBuiltinCall, SF.kind, SF.split]
  refine wpAny_bind ?_
  · unfold isInstance
    repeat (first | (with_reducible refine wpAny_loadPart_at he ?_; rw [hc]) | (with_reducible refine wpAny_isSubtype_exc hC ?_) | wp_step)
    exact hq
theorem set_attr {e : Addr} {oe : Obj} {vs : Array Value} {name : Str} {v : Value} {Q : Unit → Shared → Prop} (B : Base w h) (he : h.get? e = some oe) (hc : oe.cls = .ref 74) (hdn : oe.dict = none) (hd : oe.data = .fields vs)
    (hf : findIn (objs w.params) (.ref 74) name = some none)
    (H : ∀ h' D tk', (∀ b o, b ≠ e → h.get? b = some o → h'.get? b = some o) → h'.get? e = some { cls := .ref 74, dict := some D, data := .fields vs, slots := oe.slots } → h'.Ns D (fun y => if y = name then some v else none) → h.get? D = none → Q () ⟨h', gs, dr, tk', os⟩) :
    wpAny (model pw w) A (setAttr (.ref e) name v) Q E ⟨h, gs, dr, tk, os⟩ := by
  have SF := PySem.F.store_object
  have f3 := SF.slot.bind (.ref e)
  have hsa : findIn (objs w.params) (.ref 74) "__setattr__" = some (some (.builtin "object.__setattr__")) := by rfl
  unfold setAttr callSpecial? specialOf
  repeat (any_goals (first | assumption | (with_reducible refine wpAny_loadPart_at he ?_; rw [hc]) | (with_reducible refine (looks_findIn B.inK hsa).at ?_) | wp_step))
  refine codeAny_call_builtin SF.slot.plain SF.entry (check_sa B he hc (set_entry B he hc hdn hd hf (fun h' D tk' k1 k2 k3 k4 => ?_)))
  repeat (any_goals (first | assumption | wp_step))
  exact H h' D tk' k1 k2 k3 k4
theorem dec_init {g₀ : Heap} {e : Addr} {t0 m r : Value} {Q : Value → Shared → Prop} (B₀ : Base w g₀) (k₀ : Ke g₀ h) (hn₀ : g₀.get? e = none) (hdep : A.depth < recursionLimit) (he : h.get? e = some { cls := .ref 74, data := .fields #[t0, .none, .none, .none, .bool false, .none] })
    (H : ∀ h' D ta tk', (∀ b o, b ≠ e → h.get? b = some o → h'.get? b = some o) → h'.get? e = some { cls := .ref 74, dict := some D, data := .fields #[.ref ta, .none, .none, .none, .bool false, .none] } → h'.get? ta = some { cls := .type "tuple", data := .seq #[m] } →
      h'.Ns D (fun y => if y = "rlp" then some r else none) → h.get? D = none → h.get? ta = none → Q .none ⟨h', gs, dr, tk', os⟩) :
    wpAny (model pw w) A (call (.ref 71) [.ref e, m, r]) Q E ⟨h, gs, dr, tk, os⟩ := by
  have B : Base w h := B₀.keeps k₀
  refine wpAny_call (ks_codeAny_call_defAt (s := ⟨h, gs, dr, tk, os⟩) (fd := fd71) (body := fdB (mAt 4 0)) (binds := [("self", .ref e), ("message", m), ("rlp", r)]) hdep (B.get (by rfl)) (by rfl) B.nolimit ⟨70, _, _, _, rfl, B.get (by rfl), rfl, rfl⟩ rfl (BindsTo.of_eq rfl) (by decide) (locs rfl) (fun h₁ hns hk => ?_))
  refine ks_wpAt_execs_cons ?_
  refine ks_wpAt_Expr_any ?_
  refine ks_wpAt_MethodCall ?_ (by rfl)
  refine ks_wpAt_super_base (f := 71) (cc := 70) (by rfl) (by rfl) (by rfl) (by rfl) (hk _ _ (B.get (by rfl))) (by rfl) (by rfl) (by rfl) (hk _ _ (B.get (by rfl))) (by rfl) (by rfl) (by rfl) (by rfl) ?_
  have B₁ : Base w h₁ := B.keeps hk
  have he₁ := hk _ _ he
  dsimp only at hns hk ⊢
  obtain ⟨mg, g1, g2, g3⟩ := B₁.g
  obtain ⟨mb, b1, b2⟩ := B₁.b
  refine ks_loadName_global (by rfl) (by rfl) (loadGlobal_builtin (env := callEnv fd71 h.objs.size 71) g1 (g3 _ (by decide)) b1 ((b2 _ (by decide)).trans (by kernel_rfl)) ⟨rfl, ?_⟩)
  refine wpAny_loadName_free (by rfl) (by rfl) (by rfl) ⟨_, B₁.get (by rfl), rfl⟩ ?_
  refine wpAny_loadName_local (by rfl) (by rfl) hns (by rfl) ?_
  refine ks_wpAny_isType_cls (B₁.get (by rfl)) (by rfl) ⟨rfl, ?_⟩
  refine ks_wpAny_call_super (C := 74) (B₁.get (by rfl)) (by rfl) he₁ rfl (fun c q => by cases q) (looks_mroIn B₁.inK (by rfl)) (fun h₂ hso hk₂ => ?_)
  have B₂ : Base w h₂ := B₁.keeps hk₂
  have he₂ := hk₂ _ _ he₁
  have hns₂ := hns.keeps hk₂
  refine get_init hso (looks_opaque B₂.inK (by rfl)) ((looks_clsIn B₂.inK (by rfl)).andThen .now) (by rfl) B₂.inK (by rfl) ?_ (isi_exc B₂ he₂ rfl) ?_
  · intro q
    subst q
    have := c74 B₂
    rw [he₂] at this
    cases this
  · dsimp only
    refine callWith_init (e := e) (by rfl) (evalArgs_plain ?_)
    refine spliced_cons ?_
    have k₃ : ∀ b o, h₂.get? b = some o → (h₂.push (initBound e)).get? b = some o := fun b o q => Heap.get?_push_of_some _ q
    have B₃ := B₂.keeps k₃
    have he₃ := k₃ _ _ he₂
    have hns₃ := hns₂.keeps k₃
    have hb₃ : (h₂.push (initBound e)).get? h₂.objs.size = some (initBound e) := Heap.get?_push_size _ rfl
    generalize h₂.push (initBound e) = h₃ at k₃ B₃ he₃ hns₃ hb₃ ⊢
    refine wpAny_Name (wpAny_loadName_local (by rfl) (by rfl) hns₃ (by rfl) ?_)
    refine spliced_nil ⟨hb₃, ?_⟩
    refine call_init (t74 B₃) (c74 B₃) he₃ rfl rfl (by simp) hb₃ ?_
    have k₄ : ∀ b o, b ≠ e → h₃.get? b = some o → ((h₃.push { cls := .type "tuple", data := .seq #[m] }).update e (Obj.mapFields (·.setIfInBounds 0 (.ref h₃.objs.size)))).get? b = some o := fun b o hb q => by
      rw [Heap.get?_update_other _ _ (Ne.symm hb)]
      exact Heap.get?_push_of_some _ q
    have he₄ : ((h₃.push { cls := .type "tuple", data := .seq #[m] }).update e (Obj.mapFields (·.setIfInBounds 0 (.ref h₃.objs.size)))).get? e = some { cls := .ref 74, data := .fields #[.ref h₃.objs.size, .none, .none, .none, .bool false, .none] } :=
      Heap.get?_update_self _ (Heap.get?_push_of_some _ he₃) rfl
    have ht₄ : ((h₃.push { cls := .type "tuple", data := .seq #[m] }).update e (Obj.mapFields (·.setIfInBounds 0 (.ref h₃.objs.size)))).get? h₃.objs.size = some { cls := .type "tuple", data := .seq #[m] } := by
      rw [Heap.get?_update_other _ _ (Nat.ne_of_lt (Heap.lt_size he₃))]
      exact Heap.get?_push_size _ rfl
    generalize (h₃.push { cls := .type "tuple", data := .seq #[m] }).update e (Obj.mapFields (·.setIfInBounds 0 (.ref h₃.objs.size))) = h₄ at k₄ he₄ ht₄ ⊢
    refine ks_wpAt_execs_cons ?_
    refine ks_wpAt_Assign_Attr ?_ (by rfl)
    refine wpAt_of_wpAny ?_
    have hns₄ := hns₃.at fun o q => k₄ _ o (fun z => Nat.ne_of_lt (Heap.lt_size he) z.symm) q
    refine wpAny_Name (wpAny_loadName_local (by rfl) (by rfl) hns₄ (by rfl) ?_)
    refine wpAny_Name (wpAny_loadName_local (by rfl) (by rfl) hns₄ (by rfl) ?_)
    have B₄ : Base w h₄ := B₀.keeps fun b o q => k₄ b o (fun z => by subst z; rw [hn₀] at q; cases q) (k₃ _ _ (hk₂ _ _ (hk _ _ (k₀ _ _ q))))
    refine set_attr B₄ he₄ rfl rfl rfl (by rfl) (fun h₅ D tk' k1 k2 k3 k4 => ?_)
    have fresh : ∀ b, h₃.get? b = none → h.get? b = none := fun b q => by
      cases z : h.get? b with
      | none => rfl
      | some o => rw [k₃ _ _ (hk₂ _ _ (hk _ _ z))] at q; cases q
    have hta : h₃.objs.size ≠ e := Nat.ne_of_gt (Heap.lt_size he₃)
    refine wpAt_of_wpAny (wpAny_execs_nil ?_)
    refine H h₅ D h₃.objs.size tk' (fun b o hb q => k1 b o hb (k₄ b o hb (k₃ _ _ (hk₂ _ _ (hk _ _ q))))) k2 (k1 _ _ hta ht₄) k3 ?_ (fresh _ (Heap.get?_none_of_le (Nat.le_refl _)))
    cases z : h.get? D with
    | none => rfl
    | some o =>
      by_cases hDe : D = e
      · subst hDe
        rw [he₄] at k4
        cases k4
      · rw [k₄ _ _ hDe (k₃ _ _ (hk₂ _ _ (hk _ _ z)))] at k4
        cases k4
end
end Mine
end

section
open PySem PySem.W PySem.Calls PyProof.Rows PySem.Spec
set_option Elab.async false
set_option maxRecDepth 100000
set_option maxHeartbeats 400000
namespace Mine
/-- a DecodingError stands at e: its words, its octets -/
def IsDec (g h : Heap) (e : Addr) (x : Ex) (m r : Value) : Prop := x.cls = .ref 74 ∧ ∃ D ta, x.dict = some D ∧ x.a0 = .ref ta ∧ h.TupAt ta [m] ∧ h.Ns D (fun y => if y = "rlp" then some r else none) ∧ g.get? D = none ∧ g.get? ta = none
theorem IsDec.upTo {g h h' : Heap} {e : Addr} {x : Ex} {m r : Value} (X : IsDec g h e x m r) (u : h.UpToSlots h') : IsDec g h' e x m r := by
  obtain ⟨a, D, ta, b, c, d, f, k⟩ := X
  exact ⟨a, D, ta, b, c, d.of_slots u, u.ns f, k⟩
theorem IsDec.down {g g' h : Heap} {e : Addr} {x : Ex} {m r : Value} (X : IsDec g' h e x m r) (k : ∀ b o, g.get? b = some o → g'.get? b = some o) : IsDec g h e x m r := by
  obtain ⟨a, D, ta, b, c, d, f, k1, k2⟩ := X
  have fresh : ∀ b, g'.get? b = none → g.get? b = none := fun b q => by
    cases z : g.get? b with
    | none => rfl
    | some o => rw [k _ _ z] at q; cases q
  exact ⟨a, D, ta, b, c, d, f, fresh _ k1, fresh _ k2⟩
theorem fresh1 {h h' : Heap} (k : ∀ b o, h.get? b = some o → h'.get? b = some o) {u : Addr} (q : h'.get? u = none) : h.get? u = none := by
  cases z : h.get? u with
  | none => rfl
  | some o => rw [k _ _ z] at q; cases q
section
variable {w : World} {A : Around} {E : Value → Shared → Prop} {h : Heap} {gs : Array GenState} {dr : Drawn} {tk : Nat} {os : OsState}
theorem dec_new {m r : Value} {Q : Value → Shared → Prop} (B : Base w h) (hdep : A.depth + 1 < recursionLimit)
    (H : ∀ h' e D ta tk', Ke h h' → h.get? e = none → h'.get? e = some { cls := .ref 74, dict := some D, data := .fields #[.ref ta, .none, .none, .none, .bool false, .none] } → h'.get? ta = some { cls := .type "tuple", data := .seq #[m] } →
      h'.Ns D (fun y => if y = "rlp" then some r else none) → h.get? D = none → h.get? ta = none → Q (.ref e) ⟨h', gs, dr, tk', os⟩) : wpAny (model pw w) A (call (.ref 74) [m, r]) Q E ⟨h, gs, dr, tk, os⟩ := by
  refine call_own PySem.F.excBase_Exception (t74 B) (c74 B) (ns_of (a := 73) (B.get (by rfl)) (by rfl) (by rfl)) (fI := 71) (by rfl) (B.get (by rfl)) (by rfl) (fun h₁ e M => ?_) (by show 2 ≤ sizeLine; decide)
  obtain ⟨t, he, _, _⟩ := M.there
  refine dec_init B M.keeps M.new (by simp only [depth_under_make]; exact hdep) he fun h₂ D ta tk' k1 k2 k3 k4 k5 k6 => ⟨rfl, H h₂ e D ta tk' (fun b o q => k1 b o (fun z => by subst z; rw [M.new] at q; cases q) (M.keeps _ _ q)) M.new k2 k3 k4 (fresh1 M.keeps k5) (fresh1 M.keeps k6)⟩
/-- the statement raise, of a made DecodingError, where no exception is being handled -/
theorem raise_made {env : Env} {x : Sem Value} {Q : Flow → Shared → Prop} {s : Shared} (hh : A.handled = none)
    (H : wpAny (model pw w) A x (fun v s₁ => ∃ e ta D, v = .ref e ∧ Base w s₁.heap ∧ s₁.heap.get? e = some { cls := .ref 74, dict := some D, data := .fields #[.ref ta, .none, .none, .none, .bool false, .none] } ∧ E (.ref e) s₁) E s) :
    wpAny (model pw w) A (raiseStmt env (some x) none) Q E s := by
  unfold raiseStmt
  refine wpAny_bind (wpAny_mono H (fun v s₁ h₁ => ?_) fun _ _ x => x)
  obtain ⟨e, ta, D, rfl, B, he, hE⟩ := h₁
  obtain ⟨hp, g, d, tk, os⟩ := s₁
  have hC := c74 B
  repeat (first | with_reducible refine wpAny_loadPart_at he ?_ | with_reducible refine wpAny_loadPart_at hC ?_ | (with_reducible refine wpAny_isSubtype_exc hC ?_) | wp_step)
  exact wpAny_raiseNew_none hh hE
theorem x_raise {env : Env} {c : Expr} {pos : Pos} {Q : Flow → Shared → Prop} {s : Shared} (hh : A.handled = none)
    (H : wpAny (model pw w) A (eval c env) (fun v s₁ => ∃ e ta D, v = .ref e ∧ Base w s₁.heap ∧ s₁.heap.get? e = some { cls := .ref 74, dict := some D, data := .fields #[.ref ta, .none, .none, .none, .bool false, .none] } ∧ E (.ref e) s₁) E s) :
    wpAny (model pw w) A (exec (.Raise (some c) none pos) env) Q E s := by
  rw [arm_exec_Raise]
  show wpAny _ A (do standAt pos; raiseStmt env (some (do let v ← eval c env; standAt pos; pure v)) none) Q E s
  exact wpAny_bind (wpAny_standAt (raise_made hh (wpAny_bind (wpAny_mono H (fun v s₁ h₁ => wpAny_bind (wpAny_standAt (wpAny_pure h₁))) fun _ _ x => x))))
variable {g : Heap} {L a : Addr} {mm : Str → Option Value} {news : List (Addr × Obj)} {name : Str} {scope : Scope} {cd : Value}
/-- the call of the class, up to its arguments -/
theorem x_dec {np pos : Pos} {e : Expr} {rest : List Expr} {Q : Value → Shared → Prop} (F : Fr g L h mm) (B : Base w g) (hk : scope.kind = .function) (hl : scope.names.lookup (Str.ofString "DecodingError") = some .globalImplicit)
    (he : starEach (e :: rest) (envOf name scope L a cd) = (false, eval e (envOf name scope L a cd)) :: starEach rest (envOf name scope L a cd)) (hp : (backTo pos (starEach (e :: rest) (envOf name scope L a cd))).any (·.1) = false)
    (H : wpAny (model pw w) A (spliced (backTo pos (starEach (e :: rest) (envOf name scope L a cd)))) (fun vs s₁ => Base w s₁.heap ∧ wpAny (model pw w) A (call (.ref 74) vs) Q E s₁) E ⟨h, gs, dr, tk, os⟩) :
    wpAny (model pw w) A (eval (.Call (.Name "DecodingError" np) (e :: rest) [] pos) (envOf name scope L a cd)) Q E ⟨h, gs, dr, tk, os⟩ := by
  refine wpAny_Call_ofName (x_glob F B (by rfl) hk hl (by decide) ?_)
  refine callWith_of (P := fun h => Base w h) (by rw [hp]; rfl) (fun h B => keeps_K (K := objs w.params) (by rfl) h B.inK) ?_
  rw [he] at H ⊢
  exact evalArgs_plain (wpAny_mono H (fun vs s₁ h₁ => ⟨h₁.1, h₁.2⟩) fun _ _ x => x)
end
end Mine
end

section
open PySem PySem.W PySem.Calls PyProof.Rows PySem.Spec
set_option Elab.async false
set_option maxRecDepth 100000
set_option maxHeartbeats 400000
namespace Mine
theorem news_ke {g h h' : Heap} {L : Addr} {news : List (Addr × Obj)} (N : News g L h news) (k : Ke h h') : News g L h' news := fun p hp => ⟨k _ _ (N p hp).1, (N p hp).2⟩
theorem sl_len (x : List UInt8) (a b : Int) (ha : 0 ≤ a) (hb : a ≤ b) : ((sl x (some a) (some b)).length : Int) ≤ b - a := by
  have h1 := clipAt_cast x.length a
  have h2 := clipAt_cast x.length b
  simp only [sl, Option.elim, List.length_take, List.length_drop]
  split at h1 <;> split at h2 <;> omega
theorem sl_le (x : List UInt8) (lo hi : Option Int) : (sl x lo hi).length ≤ x.length := by
  simp only [sl, List.length_take, List.length_drop]
  omega
section
variable {w : World} {A : Around} {E E'' : Value → Shared → Prop} {gs : Array GenState} {dr : Drawn} {tk : Nat} {os : OsState} {h g hb : Heap} {outer : List Env} {L a : Addr} {mm : Str → Option Value} {news : List (Addr × Obj)} {name : Str} {scope : Scope} {cd : Value} {Q : Value → Shared → Prop}
/-- DecodingError(m, r) is made in a body and leaves it -/
theorem dec_leave {m r : Value} (K : Below A hb outer g) (F : Fr g L h mm) (B : Base w g) (hk : scope.kind = .function) (hdep : A.depth + 2 < recursionLimit)
    (H : ∀ h'' e x tk', IsDec g h'' e x m r → Thrown g outer e x h'' → E (.ref e) ⟨h'', gs, dr, tk', os⟩) :
    Base w (⟨h, gs, dr, tk, os⟩ : Shared).heap ∧ wpAny (model pw w) (A.deeper (envOf name scope L a cd)) (call (.ref 74) [m, r]) (fun v s₁ => ∃ e ta D, v = .ref e ∧ Base w s₁.heap ∧
        s₁.heap.get? e = some { cls := .ref 74, dict := some D, data := .fields #[.ref ta, .none, .none, .none, .bool false, .none] } ∧
        wpAny (model pw w) (A.deeper (envOf name scope L a cd)) (leaving (envOf name scope L a cd) (.ref e)) (fun _ s'' => E (.ref e) s'') (fun e' s'' => E e' s'') s₁) E'' ⟨h, gs, dr, tk, os⟩ := by
  have Bh := B.keeps F.keep
  refine ⟨Bh, dec_new Bh (by show A.depth + 1 + 1 < _; exact hdep) fun h' e D ta tk' k1 k2 k3 k4 k5 k6 k7 => ⟨e, ta, D, rfl, Bh.keeps k1, k3, ?_⟩⟩
  have X : IsDec g h' e ⟨.ref 74, .ref ta, some D, .none⟩ m r := ⟨rfl, D, ta, rfl, rfl, ⟨_, 0, k4, rfl, rfl⟩, k5, fresh1 F.keep k6, fresh1 F.keep k7⟩
  exact leave_made (x := ⟨.ref 74, .ref ta, some D, .none⟩) K F hk k1 k2 ⟨_, _, k3, rfl, rfl, rfl, rfl, rfl, rfl⟩ fun h'' T u => H h'' e _ tk' (X.upTo u) T
/-- an item of bytes, within or past the end -/
theorem x_bitem_or {prog : Program} {x : List UInt8} {i : Int} {t ui : Tok} {value slice : Expr} (hA : A.handled = none) (h0 : 0 ≤ i) (hfit : x.length ≤ 1099511627776)
    (hs : subscripted slice false (.bytes x.toArray t) (.int i ui) = operate [.bytes x.toArray t, .int i ui] (getItem (.bytes x.toArray t) (.int i ui)))
    (ht : ∀ r, letTemporaryGo value (.bytes x.toArray t) r = pure ()) (Hout : (x.length : Int) ≤ i → ∀ h' e tk', Heap.NewExc h h' e "IndexError" → E (.ref e) ⟨h', gs, dr, tk', os⟩)
    (Hin : i < (x.length : Int) → ∀ t' tk', Q (.int (x.getD i.toNat 0).toNat t') ⟨h, gs, dr, tk', os⟩) :
    wpAny (model prog w) A (subscriptTail value slice (.bytes x.toArray t) (.int i ui)) Q E ⟨h, gs, dr, tk, os⟩ := by
  by_cases hi : i < (x.length : Int)
  · exact x_bitem h0 hi hfit hs ht (Hin hi)
  · exact x_bitem_out hA (by omega) hs ht (Hout (by omega))
theorem index_leave {e : Addr} {h' : Heap} {E' : Value → Shared → Prop} (K : Below A hb outer g) (F : Fr g L h mm) (hk : scope.kind = .function) (N : Heap.NewExc h h' e "IndexError")
    (H : ∀ h'' x, x.cls = .type "IndexError" ∧ x.ctx = .none → Thrown g outer e x h'' → E (.ref e) ⟨h'', gs, dr, tk, os⟩) :
    wpAny (model pw w) (A.deeper (envOf name scope L a cd)) (leaving (envOf name scope L a cd) (.ref e)) (fun _ s'' => E (.ref e) s'') E' ⟨h', gs, dr, tk, os⟩ := by
  obtain ⟨x, hx, hx2, X⟩ := exAt_new (B := h') N
  exact leave_made K F hk N.keeps N.new X fun h'' T _ => H h'' x ⟨hx, hx2⟩ T
theorem x_b2i {x : List UInt8} {t : Tok} (F : Fr g L h mm) (N : News g L h news) (B : Base w g) (hd : A.depth < recursionLimit) (hx : x.length ≤ 8)
    (H : ∀ h' t' tk', Fr g L h' mm → News g L h' news → Q (.int (be x) t') ⟨h', gs, dr, tk', os⟩) : wpAny (model pw w) A (call (.ref 1464) [.bytes x.toArray t]) Q E ⟨h, gs, dr, tk, os⟩ :=
  b2i (B.keeps F.keep) hd hx fun h' t' tk' k => H h' t' tk' (F.keeps k) (news_ke N k)
theorem x_badd_sl {prog : Program} {x y : List UInt8} {lo hi lo' hi' : Option Int} {t u : Tok} (hx : x.length ≤ 8388608) (hy : y.length ≤ 8388608) (H : ∀ t' tk', Q (.bytes (sl x lo hi ++ sl y lo' hi').toArray t') ⟨h, gs, dr, tk', os⟩) :
    wpAny (model prog w) A (binaryOp .Add (.bytes (sl x lo hi).toArray t) (.bytes (sl y lo' hi').toArray u)) Q E ⟨h, gs, dr, tk, os⟩ :=
  x_badd (Nat.le_trans (Nat.add_le_add (Nat.le_trans (sl_le x lo hi) hx) (Nat.le_trans (sl_le y lo' hi') hy)) (by decide)) H
theorem x_b2i_sl {x : List UInt8} {i j : Int} {t : Tok} (F : Fr g L h mm) (N : News g L h news) (B : Base w g) (hd : A.depth < recursionLimit) (h0 : 0 ≤ i) (h1 : i ≤ j) (h2 : j ≤ i + 8)
    (H : ∀ h' t' tk', Fr g L h' mm → News g L h' news → Q (.int (be (sl x (some i) (some j))) t') ⟨h', gs, dr, tk', os⟩) : wpAny (model pw w) A (call (.ref 1464) [.bytes (sl x (some i) (some j)).toArray t]) Q E ⟨h, gs, dr, tk, os⟩ :=
  x_b2i F N B hd (by have := sl_len x i j h0 h1; omega) H
end
end Mine
end

section
open PySem PySem.W PySem.Calls PyProof.Rows PySem.Spec
set_option Elab.async false
set_option maxRecDepth 100000
set_option maxHeartbeats 1000000
namespace Mine
local macro_rules | `(tactic| tb_start) => `(tactic| first
  | (with_reducible refine' wpAny_execs_cons ?_)
  | (with_reducible refine' wpAny_If ?_)
  | (with_reducible refine' wpAny_Return_some ?_)
  | ((with_reducible refine' wpAny_Assign_Name ?_ ?hs); (case hs => rfl))
  | ((with_reducible refine' wpAny_isTrue_Compare1 ?_ ?hs); (case hs => with_unfolding_all rfl))
  | ((with_reducible refine' wpAny_Compare1 ?_ ?hs); (case hs => with_unfolding_all rfl))
  | (with_reducible refine' wpAny_BinOp ?_)
  | (with_reducible refine' Subscript_ ?_)
  | (with_reducible refine' x_slice ?_)
  | (with_reducible refine' x_part ?_)
  | (with_reducible refine' x_nopart ?_)
  | (with_reducible refine' Tuple_ ?_)
  | (with_reducible refine' List_ ?_)
  | (with_reducible refine' wpAny_items_nil ?_)
  | ((with_reducible refine' wpAny_items_cons ?_ ?hs); (case hs => rfl))
  | ((with_reducible refine' MethodCall_ ?_ ?hs); (case hs => rfl))
  | ((with_reducible refine' x_name ?F ?hv ?hk ?hl ?hd ?_); (case F => assumption); (case hv => rfl); (case hk => rfl); (case hl => rfl); (case hd => decide))
  | ((with_reducible refine' x_glob ?F ?B ?hv ?hk ?hl ?hd ?_); (case F => assumption); (case B => assumption); (case hv => rfl); (case hk => rfl); (case hl => rfl); (case hd => decide))
  | ((with_reducible refine' x_blt ?F ?B ?hb ?hv ?hk ?hl ?hd ?hn ?_); (case F => assumption); (case B => assumption); (case hb => rfl); (case hv => first | reg3_boot | boot_fact); (case hk => rfl); (case hl => rfl); (case hd => decide); (case hn => decide))
  | ((with_reducible refine' x_int ?_); intro _ _)
  | ((with_reducible refine' x_str ?_); intro _ _)
  | ((with_reducible refine' x_bytes ?_); intro _ _)
  | (with_reducible refine' x_none ?_)
  | (with_reducible refine' x_bool ?_)
  | (with_reducible refine' x_truthy ?_)
  | ((with_reducible refine' x_add ?_); intro _ _)
  | ((with_reducible refine' x_sub ?_); intro _ _)
  | (with_reducible refine' x_lt ?_)
  | (with_reducible refine' x_eq ?_)
  | (with_reducible refine' x_beq ?_)
  | ((with_reducible refine' x_store ?F ?N ?hk ?hl ?_); (case F => assumption); (case N => assumption); (case hk => rfl); (case hl => rfl); intro _ _ _ _)
  | ((with_reducible refine' x_tup ?F ?N ?hz ?_); (case F => assumption); (case N => assumption); (case hz => simp); intro _ _ _ _ _)
  | ((with_reducible refine' x_btail ?F ?N ?hl ?hu ?hz ?hs ?ht ?_); (case F => assumption); (case N => assumption); (case hl => first | exact .int _ _ | exact .none); (case hu => first | exact .int _ _ | exact .none); (case hz => omega); (case hs => intro _; with_unfolding_all rfl); (case ht => intro _; with_unfolding_all rfl); intro _ _ _ _ _)
  | ((with_reducible refine' x_bitem_or ?hA ?h0 ?hf ?hs ?ht ?_ ?_); (case hA => assumption); (case h0 => omega); (case hf => omega); (case hs => with_unfolding_all rfl); (case ht => intro _; with_unfolding_all rfl))
  | ((with_reducible refine' x_call ?F ?B ?hv ?hk ?hl ?hd ?ho ?hdat ?he ?_); (case F => assumption); (case B => assumption); (case hv => rfl); (case hk => rfl); (case hl => rfl); (case hd => decide); (case ho => rfl); (case hdat => rfl); (case he => rfl))
  | ((with_reducible refine' x_called ?F ?B ?ho ?_); (case F => assumption); (case B => assumption); (case ho => rfl))
  | ((with_reducible refine' x_ite ?_ ?_) <;> intro _)
  | (with_reducible refine' wpAny_isTrue_BoolOp ?_)
  | (with_reducible refine' wpAny_allTrue_And_cons ?_)
  | (with_reducible refine' wpAny_allTrue_And_nil ?_)
  | (with_reducible refine' wpAny_execs_nil ?_)
  | ((with_reducible refine' x_raise ?hh ?_); (case hh => assumption))
  | ((with_reducible refine' x_dec ?F ?B ?hk ?hl ?he ?hp ?_); (case F => assumption); (case B => assumption); (case hk => rfl); (case hl => rfl); (case he => rfl); (case hp => rfl))
  | (with_reducible intro _)
  | ((with_reducible refine' x_badd_sl ?hx ?hy ?_); (case hx => omega); (case hy => omega))
  | ((with_reducible refine' x_b2i_sl ?F ?N ?B ?hd ?h0 ?h1 ?h2 ?_); (case F => assumption); (case N => assumption); (case B => assumption); (case hd => assumption); (case h0 => tb_rel); (case h1 => tb_rel); (case h2 => tb_rel))
  | (dsimp only))

local macro_rules | `(tactic| tb_rel) => `(tactic| first
  | omega
  | (simp only [decide_eq_true_eq, decide_eq_false_iff_not] at *; omega))
inductive PR where
  | ok (pre : List UInt8) (ty : Str) (len st : Int)
  | index
  | dec (m : Str)
/-- what consume_length_prefix answers -/
def clp (o : List UInt8) (st : Int) : PR :=
  if (o.length : Int) ≤ st then .index else
  let b0 : Int := (o.getD st.toNat 0).toNat
  if b0 < 128 then .ok [] "bytes" 1 st
  else if b0 < 184 then
    if b0 - 128 = 1 then
      if (o.length : Int) ≤ st + 1 then .index
      else if ((o.getD (st + 1).toNat 0).toNat : Int) < 128 then .dec "Encoded as short string although single byte was possible"
      else .ok (sl o (some st) (some (st + 1))) "bytes" (b0 - 128) (st + 1)
    else .ok (sl o (some st) (some (st + 1))) "bytes" (b0 - 128) (st + 1)
  else if b0 < 192 then
    if (sl o (some (st + 1)) (some (st + 2)) == [0]) = true then .dec "Length starts with zero bytes"
    else
      let p := sl o (some (st + 1)) (some (st + 1 + (b0 - 183)))
      if be p < 56 then .dec "Long string prefix used for short string" else .ok (sl o (some st) (some (st + 1)) ++ p) "bytes" (be p) (st + 1 + (b0 - 183))
  else if b0 < 248 then .ok (sl o (some st) (some (st + 1))) "list" (b0 - 192) (st + 1)
  else if (sl o (some (st + 1)) (some (st + 2)) == [0]) = true then .dec "Length starts with zero bytes"
  else
    let p := sl o (some (st + 1)) (some (st + 1 + (b0 - 192 - 56 + 1)))
    if be p < 56 then .dec "Long list prefix used for short list" else .ok (sl o (some st) (some (st + 1)) ++ p) "list" (be p) (st + 1 + (b0 - 192 - 56 + 1))
section
variable {w : World} {A : Around} {E : Value → Shared → Prop} {gs : Array GenState} {dr : Drawn} {tk : Nat} {os : OsState} {h hb : Heap} {outer : List Env} {Q : Value → Shared → Prop}
theorem clp_call {o : List UInt8} {st : Int} {t1 t2 : Tok} (B : Base w h) (K : Below A hb outer h) (hd : A.depth + 3 < recursionLimit) (hh : A.handled = none) (ho : o.length ≤ 10000) (hs : 0 ≤ st)
    (Hok : ∀ pre ty len st', clp o st = .ok pre ty len st' → ∀ h' u t1 t2 t3 t4 tk', Ke h h' → h.get? u = none → h'.get? u = some { cls := .type "tuple", data := .seq #[.bytes pre.toArray t1, .str ty t2, .int len t3, .int st' t4] } → Q (.ref u) ⟨h', gs, dr, tk', os⟩)
    (Hix : clp o st = .index → ∀ h' e x tk', (x.cls = .type "IndexError" ∧ x.ctx = .none) → Thrown h outer e x h' → E (.ref e) ⟨h', gs, dr, tk', os⟩)
    (Hdec : ∀ m, clp o st = .dec m → ∀ h' e x t1 t2 tk', IsDec h h' e x (.str m t1) (.bytes o.toArray t2) → Thrown h outer e x h' → E (.ref e) ⟨h', gs, dr, tk', os⟩) :
    wpAny (model pw w) A (call (.ref 1736) [.bytes o.toArray t1, .int st t2]) Q E ⟨h, gs, dr, tk, os⟩ := by
  refine x_enter B (by omega) (by rfl) (by rfl) (by rfl) (by rfl) (by rfl) (binds := [(Str.ofString "rlp", _), (Str.ofString "start", _)]) (by rfl) (locs (by rfl)) (by rfl) (by rfl) (by rfl) (by decide) ?_
  intro h₁ L tk' _ F N
  have hh' : (A.deeper (envOf (Str.ofString "consume_length_prefix") (fdS (sAt 35)) L 1736 (Value.ref 1735))).handled = none := hh
  have hd' : (A.deeper (envOf (Str.ofString "consume_length_prefix") (fdS (sAt 35)) L 1736 (Value.ref 1735))).depth < recursionLimit := by show A.depth + 1 < _; omega
  have hb0 : (o.getD st.toNat 0).toNat < 256 := UInt8.toNat_lt _
  show wpAny _ _ (execs (fdB (sAt 35)) _) _ _ _
  refine wpAny_execs_cons ?_
  repeat' tb_start
  all_goals try (refine index_leave K (by assumption) rfl (by assumption) (fun h'' x hx T => Hix ?_ h'' _ x _ hx T))
  all_goals try (refine dec_leave K (by assumption) B rfl (by omega) (fun h'' e x tk' X T => Hdec _ ?_ h'' e x _ _ tk' X T))
  all_goals try (refine Hok _ _ _ _ ?_ _ _ _ _ _ _ _ (Fr.keep (by assumption)) (News.fresh (by assumption) (.head _)) (News.get (by assumption) (.head _)))
  all_goals try (simp only [decide_eq_true_eq, decide_eq_false_iff_not, beq_iff_eq, Bool.true_eq_false, Bool.false_eq_true] at *)
  all_goals (unfold clp; dsimp only)
  all_goals ((repeat' split) <;> first | rfl | (exfalso; omega) | (exfalso; simp_all; done))
end
end Mine
end

section
open PySem PySem.W PySem.Calls PyProof.Rows PySem.Spec
set_option Elab.async false
set_option maxRecDepth 100000
set_option maxHeartbeats 400000
namespace Mine
theorem boot_bytearray : bootBuiltins (Str.ofString "bytearray") = some (.type "bytearray") := by kernel_rfl
/-- what a loop's turn has stored is said again in front: the names that the next turn asks -/
theorem look_front {ρ : List (Str × Value)} : ∀ {fr : List (Str × Value)}, (∀ p ∈ fr, ρ.lookup p.1 = some p.2) → look (fr ++ ρ) = look ρ
  | [], _ => rfl
  | (k, v) :: fr, H => by
    have ih := look_front (fr := fr) fun p hp => H p (.tail _ hp)
    funext y
    show List.lookup y ((k, v) :: (fr ++ ρ)) = List.lookup y ρ
    rw [List.lookup_cons]
    by_cases e : y = k
    · subst e
      simp only [beq_self_eq_true]
      exact (H _ (.head _)).symm
    · rw [beq_eq_false_iff_ne.mpr e]
      exact congrFun ih y
theorem fr_front {g h : Heap} {L : Addr} {ρ : List (Str × Value)} (F : Fr g L h (look ρ)) (fr : List (Str × Value)) (H : ∀ p ∈ fr, ρ.lookup p.1 = some p.2) : Fr g L h (look (fr ++ ρ)) := by rw [look_front H]; exact F
section
variable {w : World} {A : Around} {E E'' : Value → Shared → Prop} {gs : Array GenState} {dr : Drawn} {tk : Nat} {os : OsState} {h g hb : Heap} {outer : List Env} {L a : Addr} {mm : Str → Option Value} {news : List (Addr × Obj)} {name : Str} {scope : Scope} {cd : Value}
theorem extBut_ke {h h' : Heap} (x : Heap.ExtBut h.objs.size h h') : Ke h h' := fun b o e => x b o (Nat.ne_of_lt (Heap.lt_size e)) e
/-- a tuple that stands is unpacked -/
theorem x_unpack {t : Addr} {items : List Value} {targets : List (Bool × (Value → Sem Unit))} {Q : Unit → Shared → Prop} (F : Fr g L h mm) (N : News g L h news) (hh : A.handled = none) (ht : IsTup h t items.toArray) (hn : targets.length = items.length) (hstar : targets.findIdx? (·.1) = none)
    (H : ∀ h', Fr g L h' mm → News g L h' news → wpAny (model pw w) A (assignInOrder (targets.map (·.2)) items) Q E ⟨h', gs, dr, tk, os⟩) : wpAny (model pw w) A (unpack (.ref t) targets) Q E ⟨h, gs, dr, tk, os⟩ :=
  unpack_tuple (s := ⟨h, gs, dr, tk, os⟩) hh ht (by simpa using hn) hstar fun h' x => by
    have := H h' (F.keeps (extBut_ke x)) (news_ke N (extBut_ke x))
    simpa using this
theorem x_assign_tup {env : Env} {elts : List Expr} {k : Nat} {pos : Pos} {t : Addr} {items : List Value} {Q : Unit → Shared → Prop} (F : Fr g L h mm) (N : News g L h news) (hh : A.handled = none) (ht : IsTup h t items.toArray)
    (hn : (assignEach elts env).length = items.length) (hstar : (assignEach elts env).findIdx? (·.1) = none)
    (H : ∀ h', Fr g L h' mm → News g L h' news → wpAny (model pw w) A (assignInOrder ((assignEach elts env).map (·.2)) items) Q E ⟨h', gs, dr, tk, os⟩) : wpAny (model pw w) A (assign (.Tuple elts k pos) env (.ref t)) Q E ⟨h, gs, dr, tk, os⟩ :=
  assign_Tuple_tuple (s := ⟨h, gs, dr, tk, os⟩) hh ht (by simpa using hn) hstar fun h' x => by
    have := H h' (F.keeps (extBut_ke x)) (news_ke N (extBut_ke x))
    simpa using this
theorem isTup_of {t : Addr} {items : List Value} {n : Nat} (hg : h.get? t = some { cls := .type "tuple", data := .seq items.toArray n }) : IsTup h t items.toArray := ⟨_, hg, rfl, n, rfl⟩
theorem x_streq {prog : Program} {x y : Str} {t u : Tok} {Q : Value → Shared → Prop} (H : Q (.bool (x == y)) ⟨h, gs, dr, tk, os⟩) : wpAny (model prog w) A (compareOp .Eq (.str x t) (.str y u)) Q E ⟨h, gs, dr, tk, os⟩ := eq_str H
theorem x_badd_r {prog : Program} {b y : List UInt8} {lo hi : Option Int} {t u : Tok} {Q : Value → Shared → Prop} (hx : b.length ≤ 8388608) (hy : y.length ≤ 8388608) (H : ∀ t' tk', Q (.bytes (b ++ sl y lo hi).toArray t') ⟨h, gs, dr, tk', os⟩) :
    wpAny (model prog w) A (binaryOp .Add (.bytes b.toArray t) (.bytes (sl y lo hi).toArray u)) Q E ⟨h, gs, dr, tk, os⟩ :=
  x_badd (Nat.le_trans (Nat.add_le_add hx (Nat.le_trans (sl_le y lo hi) hy)) (by decide)) H
theorem x_streq_t {prog : Program} {x y : Str} {t u : Tok} {Q : Value → Shared → Prop} (e : (x == y) = true) (H : Q (.bool true) ⟨h, gs, dr, tk, os⟩) : wpAny (model prog w) A (compareOp .Eq (.str x t) (.str y u)) Q E ⟨h, gs, dr, tk, os⟩ := x_streq (by rw [e]; exact H)
theorem x_streq_f {prog : Program} {x y : Str} {t u : Tok} {Q : Value → Shared → Prop} (e : (x == y) = false) (H : Q (.bool false) ⟨h, gs, dr, tk, os⟩) : wpAny (model prog w) A (compareOp .Eq (.str x t) (.str y u)) Q E ⟨h, gs, dr, tk, os⟩ := x_streq (by rw [e]; exact H)
theorem x_ite_t {P R : Prop} (H : P) : if true = true then P else R := by rw [if_pos rfl]; exact H
theorem x_ite_f {P R : Prop} (H : R) : if false = true then P else R := by rw [if_neg (by decide)]; exact H
/-- a built-in function is called by its name -/
theorem x_callb {x : Str} {np pos : Pos} {e : Expr} {rest : List Expr} {id : String} {Q : Value → Shared → Prop} (F : Fr g L h mm) (B : Base w g) (hb : bltNames.contains x = true) (hv : bootBuiltins x = some (.builtin id)) (hk : scope.kind = .function) (hl : scope.names.lookup x = some .globalImplicit)
    (hd : (x == ("__debug__" : Str)) = false) (hn : x ≠ "__name__") (he : starEach (e :: rest) (envOf name scope L a cd) = (false, eval e (envOf name scope L a cd)) :: starEach rest (envOf name scope L a cd)) (hp : (backTo pos (starEach rest (envOf name scope L a cd))).any (·.1) = false)
    (H : wpAny (model pw w) A (spliced (backTo pos (starEach (e :: rest) (envOf name scope L a cd)))) (fun vs s₁ => wpAny (model pw w) A (call (.builtin id) vs) Q E s₁) E ⟨h, gs, dr, tk, os⟩) :
    wpAny (model pw w) A (eval (.Call (.Name x np) (e :: rest) [] pos) (envOf name scope L a cd)) Q E ⟨h, gs, dr, tk, os⟩ :=
  wpAny_Call_ofName (x_blt F B hb hv hk hl hd hn (callWith_builtin1 H he hp))
theorem x_callt {x : Str} {np pos : Pos} {e : Expr} {rest : List Expr} {T : String} {Q : Value → Shared → Prop} (F : Fr g L h mm) (B : Base w g) (hb : bltNames.contains x = true) (hv : bootBuiltins x = some (.type T)) (hk : scope.kind = .function) (hl : scope.names.lookup x = some .globalImplicit)
    (hd : (x == ("__debug__" : Str)) = false) (hn : x ≠ "__name__") (he : starEach (e :: rest) (envOf name scope L a cd) = (false, eval e (envOf name scope L a cd)) :: starEach rest (envOf name scope L a cd)) (hp : (backTo pos (starEach rest (envOf name scope L a cd))).any (·.1) = false)
    (H : wpAny (model pw w) A (spliced (backTo pos (starEach (e :: rest) (envOf name scope L a cd)))) (fun vs s₁ => wpAny (model pw w) A (call (.type T) vs) Q E s₁) E ⟨h, gs, dr, tk, os⟩) :
    wpAny (model pw w) A (eval (.Call (.Name x np) (e :: rest) [] pos) (envOf name scope L a cd)) Q E ⟨h, gs, dr, tk, os⟩ :=
  wpAny_Call_ofName (x_blt F B hb hv hk hl hd hn (PyProof.Rows.callWith_type1 H he hp))
end
end Mine
end

section
open PySem PySem.W PySem.Calls PyProof.Rows PySem.Spec
set_option Elab.async false
set_option maxRecDepth 100000
set_option maxHeartbeats 1000000
namespace Mine
local macro_rules | `(tactic| tb_start) => `(tactic| first
  | (with_reducible refine' wpAny_execs_cons ?_)
  | (with_reducible refine' wpAny_If ?_)
  | (with_reducible refine' wpAny_Return_some ?_)
  | ((with_reducible refine' wpAny_Assign_Name ?_ ?hs); (case hs => rfl))
  | ((with_reducible refine' wpAny_isTrue_Compare1 ?_ ?hs); (case hs => with_unfolding_all rfl))
  | ((with_reducible refine' wpAny_Compare1 ?_ ?hs); (case hs => with_unfolding_all rfl))
  | (with_reducible refine' wpAny_BinOp ?_)
  | (with_reducible refine' Subscript_ ?_)
  | (with_reducible refine' x_slice ?_)
  | (with_reducible refine' x_part ?_)
  | (with_reducible refine' x_nopart ?_)
  | (with_reducible refine' Tuple_ ?_)
  | (with_reducible refine' List_ ?_)
  | (with_reducible refine' wpAny_items_nil ?_)
  | ((with_reducible refine' wpAny_items_cons ?_ ?hs); (case hs => rfl))
  | ((with_reducible refine' MethodCall_ ?_ ?hs); (case hs => rfl))
  | ((with_reducible refine' x_name ?F ?hv ?hk ?hl ?hd ?_); (case F => assumption); (case hv => rfl); (case hk => rfl); (case hl => rfl); (case hd => decide))
  | ((with_reducible refine' x_glob ?F ?B ?hv ?hk ?hl ?hd ?_); (case F => assumption); (case B => assumption); (case hv => rfl); (case hk => rfl); (case hl => rfl); (case hd => decide))
  | ((with_reducible refine' x_blt ?F ?B ?hb ?hv ?hk ?hl ?hd ?hn ?_); (case F => assumption); (case B => assumption); (case hb => rfl); (case hv => first | reg3_boot | boot_fact); (case hk => rfl); (case hl => rfl); (case hd => decide); (case hn => decide))
  | ((with_reducible refine' x_int ?_); intro _ _)
  | ((with_reducible refine' x_str ?_); intro _ _)
  | ((with_reducible refine' x_bytes ?_); intro _ _)
  | (with_reducible refine' x_none ?_)
  | (with_reducible refine' x_bool ?_)
  | (with_reducible refine' x_truthy ?_)
  | ((with_reducible refine' x_add ?_); intro _ _)
  | ((with_reducible refine' x_sub ?_); intro _ _)
  | (with_reducible refine' x_lt ?_)
  | (with_reducible refine' x_eq ?_)
  | (with_reducible refine' x_beq ?_)
  | ((with_reducible refine' x_store ?F ?N ?hk ?hl ?_); (case F => assumption); (case N => assumption); (case hk => rfl); (case hl => rfl); intro _ _ _ _)
  | ((with_reducible refine' x_tup ?F ?N ?hz ?_); (case F => assumption); (case N => assumption); (case hz => simp); intro _ _ _ _ _)
  | ((with_reducible refine' x_btail ?F ?N ?hl ?hu ?hz ?hs ?ht ?_); (case F => assumption); (case N => assumption); (case hl => first | exact .int _ _ | exact .none); (case hu => first | exact .int _ _ | exact .none); (case hz => omega); (case hs => intro _; with_unfolding_all rfl); (case ht => intro _; with_unfolding_all rfl); intro _ _ _ _ _)
  | ((with_reducible refine' x_bitem_or ?hA ?h0 ?hf ?hs ?ht ?_ ?_); (case hA => assumption); (case h0 => omega); (case hf => omega); (case hs => with_unfolding_all rfl); (case ht => intro _; with_unfolding_all rfl))
  | ((with_reducible refine' x_call ?F ?B ?hv ?hk ?hl ?hd ?ho ?hdat ?he ?_); (case F => assumption); (case B => assumption); (case hv => rfl); (case hk => rfl); (case hl => rfl); (case hd => decide); (case ho => rfl); (case hdat => rfl); (case he => rfl))
  | ((with_reducible refine' x_called ?F ?B ?ho ?_); (case F => assumption); (case B => assumption); (case ho => rfl))
  | (with_reducible refine' x_ite_t ?_)
  | (with_reducible refine' x_ite_f ?_)
  | ((with_reducible refine' x_ite ?_ ?_) <;> intro _)
  | (with_reducible refine' wpAny_isTrue_BoolOp ?_)
  | (with_reducible refine' wpAny_allTrue_And_cons ?_)
  | (with_reducible refine' wpAny_allTrue_And_nil ?_)
  | (with_reducible refine' wpAny_execs_nil ?_)
  | ((with_reducible refine' x_raise ?hh ?_); (case hh => assumption))
  | ((with_reducible refine' x_dec ?F ?B ?hk ?hl ?he ?hp ?_); (case F => assumption); (case B => assumption); (case hk => rfl); (case hl => rfl); (case he => rfl); (case hp => rfl))
  | ((with_reducible refine' x_badd_r ?hx ?hy ?_); (case hx => omega); (case hy => omega))
  | ((with_reducible refine' x_streq_t ?e ?_); (case e => decide))
  | ((with_reducible refine' x_streq_f ?e ?_); (case e => decide))
  | ((with_reducible refine' x_list ?F ?N ?hz ?_); (case F => assumption); (case N => assumption); (case hz => simp); intro _ _ _ _ _)
  | (with_reducible intro _)
  | ((with_reducible refine' x_badd_sl ?hx ?hy ?_); (case hx => omega); (case hy => omega))
  | ((with_reducible refine' x_b2i_sl ?F ?N ?B ?hd ?h0 ?h1 ?h2 ?_); (case F => assumption); (case N => assumption); (case B => assumption); (case hd => assumption); (case h0 => tb_rel); (case h1 => tb_rel); (case h2 => tb_rel))
  | (dsimp only))

local macro_rules | `(tactic| tb_rel) => `(tactic| omega)
section
variable {w : World} {A : Around} {E : Value → Shared → Prop} {gs : Array GenState} {dr : Drawn} {tk : Nat} {os : OsState} {h hb : Heap} {outer : List Env} {Q : Value → Shared → Prop}
theorem pay_bytes {o p : List UInt8} {st len : Int} {t1 t2 t3 t4 t5 : Tok} (B : Base w h) (hd : A.depth + 3 < recursionLimit) (hh : A.handled = none) (ho : o.length ≤ 10000) (hp : p.length ≤ 10000)
    (H : ∀ h' u r t1 t2 t3 tk', Ke h h' → h.get? u = none → h.get? r = none → h'.get? u = some { cls := .type "tuple", data := .seq #[.bytes (sl o (some st) (some (st + len))).toArray t1, .ref r, .int (st + len) t2] } →
      h'.get? r = some { cls := .type "list", data := .seq #[.bytes (p ++ sl o (some st) (some (st + len))).toArray t3] } → Q (.ref u) ⟨h', gs, dr, tk', os⟩) :
    wpAny (model pw w) A (call (.ref 1743) [.bytes o.toArray t1, .bytes p.toArray t2, .int st t3, .str "bytes" t4, .int len t5]) Q E ⟨h, gs, dr, tk, os⟩ := by
  refine x_enter B (by omega) (by rfl) (by rfl) (by rfl) (by rfl) (by rfl) (binds := [(Str.ofString "rlp", _), (Str.ofString "prefix", _), (Str.ofString "start", _), (Str.ofString "type_", _), (Str.ofString "length", _)]) (by rfl) (locs (by rfl)) (by rfl) (by rfl) (by rfl) (by decide) ?_
  intro h₁ L tk' _ F N
  show wpAny _ _ (execs (fdB (sAt 36)) _) _ _ _
  refine wpAny_execs_cons ?_
  repeat' tb_start
  exact H _ _ _ _ _ _ _ (Fr.keep (by assumption)) (News.fresh (by assumption) (.head _)) (News.fresh (by assumption) (.tail _ (.head _))) (News.get (by assumption) (.head _)) (News.get (by assumption) (.tail _ (.head _)))
end
end Mine
end

section
open PySem PySem.W PySem.Calls PyProof.Rows PySem.Spec
set_option Elab.async false
set_option maxRecDepth 100000
set_option maxHeartbeats 400000
namespace Mine
section
variable {w : World} {A : Around} {E E'' : Value → Shared → Prop} {gs : Array GenState} {dr : Drawn} {tk : Nat} {os : OsState} {h g hb h' : Heap} {outer : List Env} {L a e : Addr} {mm : Str → Option Value} {news : List (Addr × Obj)} {name : Str} {scope : Scope} {cd : Value} {x : Ex}
/-- an exception that comes up within a loop of the body: noted, flown on, and out of the frame -/
theorem loop_leave {st : Option Value} (K : Below A hb outer g) (F : Fr g L h mm) (X : Fly (hideAll h (fs (envOf name scope L a cd :: outer))) (envOf name scope L a cd :: outer) e x st h') (hst : st = none ∨ st = some .none) (u : h.UpToSlots h')
    (H : ∀ h'', Thrown g outer e x h'' → h'.UpToSlots h'' → E (.ref e) ⟨h'', gs, dr, tk, os⟩) :
    notedBy (model pw w) (A.deeper (envOf name scope L a cd)) (envOf name scope L a cd) (fun e s' => cameBackBy (model pw w) (A.deeper (envOf name scope L a cd)) (envOf name scope L a cd) (fun e s' =>
      wpAny (model pw w) (A.deeper (envOf name scope L a cd)) (leaving (envOf name scope L a cd) e) (fun _ s'' => E e s'') (fun e' s'' => E e' s'') s') e s') (.ref e) ⟨h', gs, dr, tk, os⟩ := by
  have hfr := Around.frames_deeper (env := envOf name scope L a cd) K.stack
  unfold notedBy
  refine fly_note hfr rfl X hst fun h1 X1 u1 => ?_
  unfold cameBackBy
  obtain ⟨_, _, _, oe, vs, he, _, _, hd, _, _, T, _, _, h1', _⟩ := id X1
  refine wpAny_bind (wpAny_field he hd h1' ?_)
  rw [if_neg (show ¬ ((Value.ref T == Value.none) = true) from by simp)]
  refine fly_flight (to := some L) X1 fun h2 X2 u2 => ?_
  exact fly_leave hfr rfl X2 (.inr rfl) fun h3 X3 u3 => H h3 ⟨X3.weaken (hide_in F rfl), (Heap.UpToSlots.of_keeps F.keep).trans (u.trans (u1.trans (u2.trans u3)))⟩ (u1.trans (u2.trans u3))
end
end Mine
end

section
open PySem PySem.W PySem.Calls PyProof.Rows PySem.Spec
set_option Elab.async false
set_option maxRecDepth 100000
set_option maxHeartbeats 400000
namespace Mine
theorem noI_bytes_add : typeLookup (.type "bytes") (dunderI "add") = pure none := by rw [typeLookup_type, builtinLookup_eq_fast]; kernel_rfl
section
variable {prog : Program} {w : World} {A : Around} {E : Value → Shared → Prop} {gs : Array GenState} {dr : Drawn} {tk : Nat} {os : OsState} {h : Heap} {Q : Value → Shared → Prop} {t u : Tok}
theorem x_biadd {b c : List UInt8} (hsz : b.length + c.length ≤ 16777216) (H : ∀ t' tk', Q (.bytes (b ++ c).toArray t') ⟨h, gs, dr, tk', os⟩) : wpAny (model prog w) A (inplaceOp .Add (.bytes b.toArray t) (.bytes c.toArray u)) Q E ⟨h, gs, dr, tk, os⟩ := by
  have hsz' : b.toArray.size + c.toArray.size ≤ 16777216 := by simpa using hsz
  refine iconcat_gives (typeIs_bytes _ _ _) (typeIs_bytes _ _ _) noI_bytes_add KBy.noFill_bytes_add KBy.seq_bytes_add FB.slot_bytes_add FB.entry_bytes_add (FB.args_bytes_add_2 _ _) (KBy.gives_bytes_add (KBy.tooLong_not hsz')) ?_
  by_cases hb : b.toArray.isEmpty = true
  · rw [if_pos hb]
    have e : b = [] := by simpa using hb
    subst e
    exact H u _
  · rw [if_neg hb]
    by_cases hc : c.toArray.isEmpty = true
    · rw [if_pos hc]
      have e : c = [] := by simpa using hc
      subst e
      have := H t tk
      rw [List.append_nil] at this
      exact this
    · rw [if_neg hc]
      refine ⟨by rw [Array.size_append, sizeLine_eq]; exact hsz', ?_⟩
      have := H tk (tk + 1)
      rw [← List.append_toArray] at this
      exact this
/-- an item of a list that stands -/
theorem x_litem {l : Addr} {items : List Value} {n : Nat} {i : Int} {ui : Tok} {x : Value} {value slice : Expr} (hg : h.get? l = some { cls := .type "list", data := .seq items.toArray n }) (h0 : 0 ≤ i) (hfit : i < 2 ^ 63) (hx : items[i.toNat]? = some x)
    (hs : subscripted slice false (.ref l) (.int i ui) = operate [.ref l, .int i ui] (getItem (.ref l) (.int i ui))) (ht : ∀ r, letTemporaryGo value (.ref l) r = pure ()) (H : Q x ⟨h, gs, dr, tk, os⟩) :
    wpAny (model prog w) A (subscriptTail value slice (.ref l) (.int i ui)) Q E ⟨h, gs, dr, tk, os⟩ := by
  have hl : Heap.IsList h l items.toArray := ⟨_, hg, rfl, n, rfl⟩
  exact subscriptTail_builtin hl.typeIs PySem.F.slot_list_getitem.lookup (wpAny_getItem_list (s := ⟨h, gs, dr, tk, os⟩) hl h0 hfit (by simpa using hx) H) hs ht
end
end Mine
end

section
open PySem PySem.W PySem.Calls PyProof.Rows PySem.Spec
set_option Elab.async false
set_option maxRecDepth 100000
set_option maxHeartbeats 400000
namespace Mine
local macro_rules | `(tactic| tb_start) => `(tactic| first
  | (with_reducible refine' wpAny_execs_cons ?_)
  | (with_reducible refine' wpAny_If ?_)
  | (with_reducible refine' wpAny_Return_some ?_)
  | ((with_reducible refine' wpAny_Assign_Name ?_ ?hs); (case hs => rfl))
  | ((with_reducible refine' wpAny_isTrue_Compare1 ?_ ?hs); (case hs => with_unfolding_all rfl))
  | ((with_reducible refine' wpAny_Compare1 ?_ ?hs); (case hs => with_unfolding_all rfl))
  | (with_reducible refine' wpAny_BinOp ?_)
  | (with_reducible refine' Subscript_ ?_)
  | (with_reducible refine' x_slice ?_)
  | (with_reducible refine' x_part ?_)
  | (with_reducible refine' x_nopart ?_)
  | (with_reducible refine' Tuple_ ?_)
  | (with_reducible refine' List_ ?_)
  | (with_reducible refine' wpAny_items_nil ?_)
  | ((with_reducible refine' wpAny_items_cons ?_ ?hs); (case hs => rfl))
  | ((with_reducible refine' MethodCall_ ?_ ?hs); (case hs => rfl))
  | ((with_reducible refine' x_name ?F ?hv ?hk ?hl ?hd ?_); (case F => assumption); (case hv => rfl); (case hk => rfl); (case hl => rfl); (case hd => decide))
  | ((with_reducible refine' x_glob ?F ?B ?hv ?hk ?hl ?hd ?_); (case F => assumption); (case B => assumption); (case hv => rfl); (case hk => rfl); (case hl => rfl); (case hd => decide))
  | ((with_reducible refine' x_blt ?F ?B ?hb ?hv ?hk ?hl ?hd ?hn ?_); (case F => assumption); (case B => assumption); (case hb => rfl); (case hv => first | reg3_boot | boot_fact | exact boot_bytearray); (case hk => rfl); (case hl => rfl); (case hd => decide); (case hn => decide))
  | ((with_reducible refine' x_int ?_); intro _ _)
  | ((with_reducible refine' x_str ?_); intro _ _)
  | ((with_reducible refine' x_bytes ?_); intro _ _)
  | (with_reducible refine' x_none ?_)
  | (with_reducible refine' x_bool ?_)
  | (with_reducible refine' x_truthy ?_)
  | ((with_reducible refine' x_add ?_); intro _ _)
  | ((with_reducible refine' x_sub ?_); intro _ _)
  | (with_reducible refine' x_lt ?_)
  | (with_reducible refine' x_eq ?_)
  | (with_reducible refine' x_beq ?_)
  | ((with_reducible refine' x_store ?F ?N ?hk ?hl ?_); (case F => assumption); (case N => assumption); (case hk => rfl); (case hl => rfl); intro _ _ _ _)
  | ((with_reducible refine' x_tup ?F ?N ?hz ?_); (case F => assumption); (case N => assumption); (case hz => simp); intro _ _ _ _ _)
  | ((with_reducible refine' x_btail ?F ?N ?hl ?hu ?hz ?hs ?ht ?_); (case F => assumption); (case N => assumption); (case hl => first | exact .int _ _ | exact .none); (case hu => first | exact .int _ _ | exact .none); (case hz => omega); (case hs => intro _; with_unfolding_all rfl); (case ht => intro _; with_unfolding_all rfl); intro _ _ _ _ _)
  | ((with_reducible refine' x_bitem_or ?hA ?h0 ?hf ?hs ?ht ?_ ?_); (case hA => assumption); (case h0 => omega); (case hf => omega); (case hs => with_unfolding_all rfl); (case ht => intro _; with_unfolding_all rfl))
  | ((with_reducible refine' x_call ?F ?B ?hv ?hk ?hl ?hd ?ho ?hdat ?he ?_); (case F => assumption); (case B => assumption); (case hv => rfl); (case hk => rfl); (case hl => rfl); (case hd => decide); (case ho => rfl); (case hdat => rfl); (case he => rfl))
  | ((with_reducible refine' x_called ?F ?B ?ho ?_); (case F => assumption); (case B => assumption); (case ho => rfl))
  | (with_reducible refine' x_ite_t ?_)
  | (with_reducible refine' x_ite_f ?_)
  | ((with_reducible refine' x_ite ?_ ?_) <;> intro _)
  | (with_reducible refine' wpAny_isTrue_BoolOp ?_)
  | (with_reducible refine' wpAny_allTrue_And_cons ?_)
  | (with_reducible refine' wpAny_allTrue_And_nil ?_)
  | (with_reducible refine' wpAny_execs_nil ?_)
  | ((with_reducible refine' x_raise ?hh ?_); (case hh => assumption))
  | ((with_reducible refine' x_dec ?F ?B ?hk ?hl ?he ?hp ?_); (case F => assumption); (case B => assumption); (case hk => rfl); (case hl => rfl); (case he => rfl); (case hp => rfl))
  | ((with_reducible refine' x_badd_r ?hx ?hy ?_); (case hx => omega); (case hy => omega))
  | ((with_reducible refine' x_streq_t ?e ?_); (case e => decide))
  | ((with_reducible refine' x_streq_f ?e ?_); (case e => decide))
  | ((with_reducible refine' x_list ?F ?N ?hz ?_); (case F => assumption); (case N => assumption); (case hz => simp); intro _ _ _ _ _)
  | ((with_reducible refine' x_callb ?F ?B ?hb ?hv ?hk ?hl ?hd ?hn ?he ?hp ?_); (case F => assumption); (case B => assumption); (case hb => rfl); (case hv => first | reg3_boot | boot_fact | exact boot_bytearray); (case hk => rfl); (case hl => rfl); (case hd => decide); (case hn => decide); (case he => rfl); (case hp => rfl))
  | ((with_reducible refine' x_callt ?F ?B ?hb ?hv ?hk ?hl ?hd ?hn ?he ?hp ?_); (case F => assumption); (case B => assumption); (case hb => rfl); (case hv => first | reg3_boot | boot_fact | exact boot_bytearray); (case hk => rfl); (case hl => rfl); (case hd => decide); (case hn => decide); (case he => rfl); (case hp => rfl))
  | (with_reducible intro _)
  | ((with_reducible refine' x_badd_sl ?hx ?hy ?_); (case hx => omega); (case hy => omega))
  | ((with_reducible refine' x_b2i_sl ?F ?N ?B ?hd ?h0 ?h1 ?h2 ?_); (case F => assumption); (case N => assumption); (case B => assumption); (case hd => assumption); (case h0 => tb_rel); (case h1 => tb_rel); (case h2 => tb_rel))
  | (dsimp only))

local macro_rules | `(tactic| tb_rel) => `(tactic| omega)
section
variable {w : World} {A : Around} {E : Value → Shared → Prop} {gs : Array GenState} {dr : Drawn} {tk : Nat} {os : OsState} {h : Heap} {Q : Value → Shared → Prop} {t u : Tok}
theorem x_isi_bytes {x : List UInt8} {tp : Addr} (B : Base w h) (htp : h.get? tp = some { cls := .type "tuple", data := .seq #[.type "bytes", .type "bytearray"] }) (H : ∀ tk', Q (.bool true) ⟨h, gs, dr, tk', os⟩) :
    wpAny (model pw w) A (call (.builtin "isinstance") [.bytes x.toArray t, .ref tp]) Q E ⟨h, gs, dr, tk, os⟩ :=
  kia_tup (K := objs w.params) (its := [.type "bytes", .type "bytearray"]) kitx_bytes B.inK trivial htp (by rfl) (by simp) (fun tk' => H tk')
theorem is_bytes_call {x : List UInt8} (B : Base w h) (hd : A.depth + 1 < recursionLimit) (H : ∀ h' tk', Ke h h' → Q (.bool true) ⟨h', gs, dr, tk', os⟩) : wpAny (model pw w) A (call (.ref 1457) [.bytes x.toArray t]) Q E ⟨h, gs, dr, tk, os⟩ := by
  refine x_enter B (by omega) (by rfl) (by rfl) (by rfl) (by rfl) (by rfl) (binds := [(Str.ofString "value", _)]) (by rfl) (locs (by rfl)) (by rfl) (by rfl) (by rfl) (by decide) ?_
  intro h₁ L tk' _ F N
  show wpAny _ _ (execs (fdB (sAt 11)) _) _ _ _
  refine wpAny_execs_cons ?_
  repeat' tb_start
  refine x_isi_bytes (B.keeps (Fr.keep (by assumption))) (News.get (by assumption) (.head _)) (fun tk' => H _ _ (Fr.keep (by assumption)))
end
end Mine
end

section
open PySem PySem.W PySem.Calls PyProof.Rows PySem.Spec
set_option Elab.async false
set_option maxRecDepth 100000
set_option maxHeartbeats 1000000
namespace Mine
theorem mem_map_eq {α β γ : Type} {f : α → β} {k : γ → α} {v : γ → β} : ∀ {l : List γ}, (l.map k).map f = l.map v → ∀ p ∈ l, f (k p) = v p
  | [], _, p, hp => by cases hp
  | c :: l, e, p, hp => by
    rw [List.map_cons, List.map_cons, List.map_cons] at e
    injection e with e1 e2
    rcases List.mem_cons.mp hp with rfl | hp
    · exact e1
    · exact mem_map_eq e2 p hp
theorem y3_of {w : World} {s₀ : Shared} (y3 : (Yf s₀).2.2.1 = (Ya w).2.2.1) : ((objs w.params ++ [(1702, ob1702 w.params)]).map Prod.fst).map s₀.heap.get? = (objs w.params ++ [(1702, ob1702 w.params)]).map (fun x : Nat × Obj => some x.2) := y3
theorem base_of {w : World} {s₀ s₁ : Shared} {mg mb : Str → Option Value} (G : Ground qv lse [] (fun _ _ => True) w s₀ mg mb s₁.heap) (Y : Yf s₀ = Ya w) (keeps : ∀ b o, s₀.heap.get? b = some o → s₁.heap.get? b = some o) : Base w s₁.heap := by
  have y1 : s₀.heap.isNs mainGlobals = true := congrArg Prod.fst Y
  have y2 := congrArg (fun x => x.2.1) Y
  have y3 := congrArg (fun x => x.2.2.1) Y
  have y4 : s₀.heap.get? 1450 = some tupO := congrArg (fun x => x.2.2.2) Y
  have hmg : mg = s₀.heap.nsMap mainGlobals := (G.T.g.eq_nsMap).trans ((Heap.Ns.of_isNs y1).keeps keeps).eq_nsMap.symm
  refine ⟨fun p hp => keeps _ _ (mem_map_eq (k := Prod.fst) (v := fun x => some x.2) (l := objs w.params ++ [(1702, ob1702 w.params)]) (y3_of y3) p (List.mem_append_left _ hp)), keeps _ _ y4, ⟨mg, G.T.g, fun p hp => ?_, fun x hx => ?_⟩, ⟨mb, G.T.b, G.T.builtins⟩, G.T.nolimit, G.T.nodigits⟩
  · rw [hmg]
    exact mem_map_eq (k := Prod.fst) (v := fun x => some x.2) (l := globs) y2 p hp
  · have key : (bltNames.all fun x => !(startupNames.contains x) && !((looseW qv lse).contains x) && !(((recsOf qv).map (·.name)).contains x) && !(((litsOf qv).map (·.1)).contains x) && !(((clssOf qv (looseW qv lse)).map (·.name)).contains x)) = true := by decide +kernel
    have := List.all_eq_true.mp key x hx
    simp only [Bool.and_eq_true, Bool.not_eq_true', List.contains_eq_mem, decide_eq_false_iff_not] at this
    obtain ⟨⟨⟨⟨a1, a2⟩, a3⟩, a4⟩, a5⟩ := this
    exact G.T.free x a1 a2 a3 a4 a5
/-- the table of encode_raw's code at the top's end -/
theorem tab_of {w : World} {s₀ : Shared} (Y : Yf s₀ = Ya w) : s₀.heap.get? 1702 = some (ob1702 w.params) :=
  mem_map_eq (k := Prod.fst) (v := fun x => some x.2) (l := objs w.params ++ [(1702, ob1702 w.params)]) (y3_of (congrArg (fun x => x.2.2.1) Y)) (1702, ob1702 w.params) (List.mem_append_right _ (.head _))
end Mine
end
section
open PySem PySem.W PySem.Calls PyProof.Rows PySem.Spec
set_option maxRecDepth 100000
set_option maxHeartbeats 0
namespace Mine
set_option hygiene true
section
variable {g h h' : Heap} {L u : Addr} {mm : Str → Option Value} {news : List (Addr × Obj)} {o : Obj}
/-- an object that a call made is put into the ledger -/
theorem news_add (F : Fr g L h mm) (k : Ke h h') (hn : h.get? u = none) (hg : h'.get? u = some o) (N : News g L h' news) : News g L h' ((u, o) :: news) := by
  intro p hp
  rcases List.mem_cons.mp hp with rfl | hp
  · refine ⟨hg, fun e => ?_, ?_⟩
    · obtain ⟨oL, _, _, hL, _⟩ := F.ns
      dsimp only at e
      rw [e, hL] at hn
      cases hn
    · cases q : g.get? u with
      | none => rfl
      | some o' => rw [F.keep _ _ q] at hn; cases hn
  · exact N p hp
theorem ke_fresh (k : Ke h h') (hn : h'.get? u = none) : h.get? u = none := by
  cases q : h.get? u with
  | none => rfl
  | some o => rw [k _ _ q] at hn; cases hn
end
section
variable {M : Model} {A : Around} {E : Value → Shared → Prop} {s : Shared} {env : Env}
theorem g_eval {e : Expr} {Q : Value → Shared → Prop} (h : wpAny M A (eval e env) Q E s) : wpAny M A (eval e env) Q E s := h
theorem g_exec {e : Stmt} {Q : Flow → Shared → Prop} (h : wpAny M A (exec e env) Q E s) : wpAny M A (exec e env) Q E s := h
theorem g_isTrue {e : Expr} {m : Sem Value} {Q : Bool → Shared → Prop} (h : wpAny M A (isTrue e env m) Q E s) : wpAny M A (isTrue e env m) Q E s := h
theorem g_bin {o : Operator} {a b : Value} {Q : Value → Shared → Prop} (h : wpAny M A (binaryOp o a b) Q E s) : wpAny M A (binaryOp o a b) Q E s := h
theorem g_cmp {o : CmpOp} {a b : Value} {Q : Value → Shared → Prop} (h : wpAny M A (compareOp o a b) Q E s) : wpAny M A (compareOp o a b) Q E s := h
end
theorem bt_str : bootBuiltins (Str.ofString "str") = some (.type "str") := by kernel_rfl
theorem bt_bytes : bootBuiltins (Str.ofString "bytes") = some (.type "bytes") := by kernel_rfl
theorem bt_bytearray : bootBuiltins (Str.ofString "bytearray") = some (.type "bytearray") := by kernel_rfl
theorem bt_list : bootBuiltins (Str.ofString "list") = some (.type "list") := by kernel_rfl
theorem bt_int : bootBuiltins (Str.ofString "int") = some (.type "int") := by kernel_rfl
theorem bt_bool : bootBuiltins (Str.ofString "bool") = some (.type "bool") := by kernel_rfl
theorem bt_range : bootBuiltins (Str.ofString "range") = some (.type "range") := by kernel_rfl
theorem bt_tuple : bootBuiltins (Str.ofString "tuple") = some (.type "tuple") := by kernel_rfl
theorem bt_zip : bootBuiltins (Str.ofString "zip") = some (.type "zip") := by kernel_rfl
theorem bt_enumerate : bootBuiltins (Str.ofString "enumerate") = some (.type "enumerate") := by kernel_rfl
theorem bt_super : bootBuiltins (Str.ofString "super") = some (.type "super") := by kernel_rfl
theorem bt_IndexError : bootBuiltins (Str.ofString "IndexError") = some (.type "IndexError") := by kernel_rfl
theorem bt_ValueError : bootBuiltins (Str.ofString "ValueError") = some (.type "ValueError") := by kernel_rfl
theorem bt_TypeError : bootBuiltins (Str.ofString "TypeError") = some (.type "TypeError") := by kernel_rfl
theorem bt_Exception : bootBuiltins (Str.ofString "Exception") = some (.type "Exception") := by kernel_rfl
theorem bt_len : bootBuiltins (Str.ofString "len") = some (.builtin "len") := by kernel_rfl
theorem bt_isinstance : bootBuiltins (Str.ofString "isinstance") = some (.builtin "isinstance") := by kernel_rfl
theorem bt_any : bootBuiltins (Str.ofString "any") = some (.builtin "any") := by kernel_rfl
theorem bt_all : bootBuiltins (Str.ofString "all") = some (.builtin "all") := by kernel_rfl
theorem bt_sorted : bootBuiltins (Str.ofString "sorted") = some (.builtin "sorted") := by kernel_rfl
theorem bt_sum : bootBuiltins (Str.ofString "sum") = some (.builtin "sum") := by kernel_rfl
theorem bt_min : bootBuiltins (Str.ofString "min") = some (.builtin "min") := by kernel_rfl
theorem bt_max : bootBuiltins (Str.ofString "max") = some (.builtin "max") := by kernel_rfl
local macro_rules | `(tactic| tb_rel) => `(tactic| first
  | with_reducible exact bt_str
  | with_reducible exact bt_bytes
  | with_reducible exact bt_bytearray
  | with_reducible exact bt_list
  | with_reducible exact bt_int
  | with_reducible exact bt_bool
  | with_reducible exact bt_range
  | with_reducible exact bt_tuple
  | with_reducible exact bt_zip
  | with_reducible exact bt_enumerate
  | with_reducible exact bt_super
  | with_reducible exact bt_IndexError
  | with_reducible exact bt_ValueError
  | with_reducible exact bt_TypeError
  | with_reducible exact bt_Exception
  | with_reducible exact bt_len
  | with_reducible exact bt_isinstance
  | with_reducible exact bt_any
  | with_reducible exact bt_all
  | with_reducible exact bt_sorted
  | with_reducible exact bt_sum
  | with_reducible exact bt_min
  | with_reducible exact bt_max
  | omega)
set_option hygiene false
local macro_rules | `(tactic| tb_start) => `(tactic| first
  | ((with_reducible refine' g_eval ?_); first
    | ((with_reducible refine' x_name ?F ?hv ?hk ?hl ?hd ?_); (case F => exact F); (case hv => rfl); (case hk => rfl); (case hl => rfl); (case hd => decide))
    | ((with_reducible refine' x_int ?_); intro _ _)
    | ((with_reducible refine' x_str ?_); intro _ _)
    | ((with_reducible refine' x_bytes ?_); intro _ _)
    | (with_reducible refine' x_none ?_)
    | (with_reducible refine' x_bool ?_)
    | ((with_reducible refine' wpAny_Compare1 ?_ ?hs); (case hs => with_unfolding_all rfl))
    | (with_reducible refine' wpAny_BinOp ?_)
    | (with_reducible refine' Subscript_ ?_)
    | (with_reducible refine' x_slice ?_)
    | (with_reducible refine' Tuple_ ?_)
    | (with_reducible refine' List_ ?_)
    | ((with_reducible refine' MethodCall_ ?_ ?hs); (case hs => rfl))
    | ((with_reducible refine' x_call ?F ?B ?hv ?hk ?hl ?hd ?ho ?hdat ?he ?_); (case F => exact F); (case B => assumption); (case hv => rfl); (case hk => rfl); (case hl => rfl); (case hd => decide); (case ho => rfl); (case hdat => rfl); (case he => rfl))
    | ((with_reducible refine' x_dec ?F ?B ?hk ?hl ?he ?hp ?_); (case F => exact F); (case B => assumption); (case hk => rfl); (case hl => rfl); (case he => rfl); (case hp => rfl))
    | ((with_reducible refine' x_callb ?F ?B ?hb ?hv ?hk ?hl ?hd ?hn ?he ?hp ?_); (case F => exact F); (case B => assumption); (case hb => rfl); (case hv => tb_rel); (case hk => rfl); (case hl => rfl); (case hd => decide); (case hn => decide); (case he => rfl); (case hp => rfl))
    | ((with_reducible refine' x_callt ?F ?B ?hb ?hv ?hk ?hl ?hd ?hn ?he ?hp ?_); (case F => exact F); (case B => assumption); (case hb => rfl); (case hv => tb_rel); (case hk => rfl); (case hl => rfl); (case hd => decide); (case hn => decide); (case he => rfl); (case hp => rfl))
    | ((with_reducible refine' x_glob ?F ?B ?hv ?hk ?hl ?hd ?_); (case F => exact F); (case B => assumption); (case hv => rfl); (case hk => rfl); (case hl => rfl); (case hd => decide))
    | ((with_reducible refine' x_blt ?F ?B ?hb ?hv ?hk ?hl ?hd ?hn ?_); (case F => exact F); (case B => assumption); (case hb => rfl); (case hv => tb_rel); (case hk => rfl); (case hl => rfl); (case hd => decide); (case hn => decide)))
  | ((with_reducible refine' g_exec ?_); first
    | (with_reducible refine' wpAny_If ?_)
    | (with_reducible refine' wpAny_Return_some ?_)
    | ((with_reducible refine' wpAny_Assign_Name ?_ ?hs); (case hs => rfl))
    | ((with_reducible refine' x_raise ?hh ?_); (case hh => assumption))
    | ((with_reducible refine' Assign_Tuple ?_ ?hs ?hw); (case hs => rfl); (case hw => rfl))
    | ((with_reducible refine' wpAny_Expr_any ?_ ?hi ?hs); (case hi => rfl); (case hs => rfl))
    | (with_reducible refine' wpAny_AugAssign_Name ?_))
  | ((with_reducible refine' g_isTrue ?_); first
    | ((with_reducible refine' wpAny_isTrue_Compare1 ?_ ?hs); (case hs => with_unfolding_all rfl))
    | (with_reducible refine' wpAny_isTrue_BoolOp ?_))
  | ((with_reducible refine' g_bin ?_); first
    | ((with_reducible refine' x_add ?_); intro _ _)
    | ((with_reducible refine' x_sub ?_); intro _ _)
    | ((with_reducible refine' x_badd_sl ?hx ?hy ?_); (case hx => omega); (case hy => omega); intro _ _)
    | ((with_reducible refine' x_badd_r ?hx ?hy ?_); (case hx => omega); (case hy => omega); intro _ _))
  | ((with_reducible refine' g_cmp ?_); first
    | (with_reducible refine' x_lt ?_)
    | (with_reducible refine' x_gt ?_)
    | (with_reducible refine' x_ge ?_)
    | (with_reducible refine' x_eq ?_)
    | (with_reducible refine' x_beq ?_)
    | ((with_reducible refine' x_streq_t ?e ?_); (case e => decide))
    | ((with_reducible refine' x_streq_f ?e ?_); (case e => decide)))
  | (with_reducible refine' wpAny_execs_cons ?_)
  | (with_reducible refine' wpAny_execs_nil ?_)
  | (with_reducible refine' wpAny_items_nil ?_)
  | ((with_reducible refine' wpAny_items_cons ?_ ?hs); (case hs => rfl))
  | ((with_reducible refine' x_store (news := _) ?F ?N ?hk ?hl ?_); (case F => exact F); (case N => exact N); (case hk => rfl); (case hl => rfl); (clear F N); intro _ _ F N)
  | (with_reducible refine' x_part ?_)
  | (with_reducible refine' x_nopart ?_)
  | ((with_reducible refine' x_load ?F ?hv ?hk ?hl ?_); (case F => exact F); (case hv => rfl); (case hk => rfl); (case hl => rfl))
  | (with_reducible refine' x_truthy ?_)
  | ((with_reducible refine' x_tup ?F ?N ?hz ?_); (case F => exact F); (case N => exact N); (case hz => simp); (clear F N); intro _ _ _ F N)
  | ((with_reducible refine' x_list ?F ?N ?hz ?_); (case F => exact F); (case N => exact N); (case hz => simp); (clear F N); intro _ _ _ F N)
  | ((with_reducible refine' x_btail ?F ?N ?hl ?hu ?hz ?hs ?ht ?_); (case F => exact F); (case N => exact N); (case hl => first | exact .int _ _ | exact .none); (case hu => first | exact .int _ _ | exact .none); (case hz => omega); (case hs => intro _; with_unfolding_all rfl); (case ht => intro _; with_unfolding_all rfl); (clear F N); intro _ _ _ F N)
  | ((with_reducible refine' x_bitem_or ?hA ?h0 ?hf ?hs ?ht ?_ ?_); (case hA => assumption); (case h0 => omega); (case hf => omega); (case hs => with_unfolding_all rfl); (case ht => intro _; with_unfolding_all rfl))
  | ((with_reducible refine' x_called ?F ?B ?ho ?_); (case F => exact F); (case B => assumption); (case ho => rfl))
  | (with_reducible refine' x_ite_t ?_)
  | (with_reducible refine' x_ite_f ?_)
  | ((with_reducible refine' x_ite ?_ ?_) <;> intro _)
  | (with_reducible refine' wpAny_allTrue_And_cons ?_)
  | (with_reducible refine' wpAny_allTrue_And_nil ?_)
  | ((with_reducible refine' x_assign_tup ?F ?N ?hh ?ht ?hn ?hst ?_); (case F => exact F); (case N => exact N); (case hh => assumption); (case ht => first | exact isTup_of (News.get N (.head _)) | exact isTup_of (News.get N (.tail _ (.head _)))); (case hn => rfl); (case hst => rfl); (clear F N); intro _ F N; dsimp only [assignEach, List.map_cons, List.map_nil])
  | (with_reducible refine' assignInOrder_cons ?_)
  | (with_reducible refine' assignInOrder_nil ?_)
  | (with_reducible refine' assign_Name ?_)
  | (with_reducible refine' callWith_method0 ?_)
  | ((with_reducible refine' callWith_method1 ?_ ?he ?hp); (case he => rfl); (case hp => rfl))
  | ((with_reducible refine' x_biadd ?hz ?_); (case hz => omega); intro _ _)
  | (dsimp only)
  | (fail "no step"))

section
/-! what the decoder answers, in plain functions -/
inductive Tr where
  | b (x : List UInt8)
  | l (ts : List Tr)
inductive IR where
  | ok (t : Tr) (rl : List UInt8) (e : Int)
  | index
  | dec (m : Str)
  | deep
/-- the parts of a row, from next up to endp; n: turns at most -/
def rowF (item1 : Int → IR) (endp : Int) : Nat → Int → List Tr → List UInt8 → IR
  | 0, _, _, _ => .deep
  | n + 1, next, acc, rl =>
    if next < endp then
      match item1 next with
      | .ok t r e => rowF item1 endp n e (acc ++ [t]) (rl ++ r)
      | x => x
    else if next > endp then .dec "List length prefix announced a too small length"
    else .ok (.l acc) rl next
def payF (item1 : Int → IR) (o : List UInt8) (n : Nat) (pre : List UInt8) (ty : Str) (len s : Int) : IR :=
  if ty = "bytes" then .ok (.b (sl o (some s) (some (s + len)))) (pre ++ sl o (some s) (some (s + len))) (s + len)
  else rowF item1 (s + len) n s [] pre
/-- n: turns of a row at most, f: rows within rows at most -/
def itemF (o : List UInt8) (n : Nat) : Nat → Int → IR
  | 0, _ => .deep
  | f + 1, st => match clp o st with
    | .ok pre ty len s => payF (itemF o n f) o n pre ty len s
    | .index => .index
    | .dec m => .dec m
/-! sizes -/
theorem be_nonneg (x : List UInt8) : 0 ≤ be x := by
  unfold be KFB.value KBw.bInts
  have h : ∀ (l : List UInt8) (a : Int), 0 ≤ a → 0 ≤ (l.map fun c => ((c.toNat : Nat) : Int)).foldl (fun a k => a * 256 + k) a := by
    intro l
    induction l with
    | nil => intro a h; exact h
    | cons c l ih => intro a h; rw [List.map_cons, List.foldl_cons]; exact ih _ (by omega)
  exact h _ 0 (Int.le_refl 0)
theorem be_lt (x : List UInt8) : be x < (256 : Int) ^ x.length := by
  unfold be KFB.value KBw.bInts
  have h := KFB.fold_lt x 0
  have e := KFB.fold_cast x 0
  rw [show (List.map (fun c => ((c.toNat : Nat) : Int)) x.toArray.toList) = x.map fun c => ((c.toNat : Nat) : Int) by simp]
  rw [show ((0 : Nat) : Int) = 0 from rfl] at e
  rw [← e]
  have : ((256 : Int) ^ x.length) = ((256 ^ x.length : Nat) : Int) := by simp
  rw [this]
  simp only [Nat.zero_add, Nat.one_mul] at h
  exact Int.ofNat_lt.mpr h
theorem be_lt8 (x : List UInt8) (h : x.length ≤ 8) : be x < 18446744073709551616 := by
  have h1 := be_lt x
  have h2 : (256 : Int) ^ x.length ≤ 256 ^ 8 := by
    have : (256 : Nat) ^ x.length ≤ 256 ^ 8 := Nat.pow_le_pow_right (by decide) h
    have e : ((256 : Int) ^ x.length) = ((256 ^ x.length : Nat) : Int) := by simp
    rw [e]
    exact_mod_cast this
  have : (256 : Int) ^ 8 = 18446744073709551616 := by decide
  omega
theorem clipAt_nn (n : Nat) (i : Int) (h : 0 ≤ i) : clipAt n i = min i.toNat n := by
  have := clipAt_cast n i
  rw [if_neg (by omega)] at this
  omega
theorem sl_nat (o : List UInt8) (a b : Int) (h0 : 0 ≤ a) (h1 : a ≤ b) : sl o (some a) (some b) = (o.drop a.toNat).take (b.toNat - a.toNat) := by
  simp only [sl, Option.elim, clipAt_nn _ _ h0, clipAt_nn _ _ (Int.le_trans h0 h1)]
  by_cases h : a.toNat ≤ o.length
  · rw [Nat.min_eq_left h, List.take_eq_take_iff, List.length_drop]
    omega
  · rw [show min b.toNat o.length - min a.toNat o.length = 0 by omega, List.take_zero, List.drop_eq_nil_of_le (show o.length ≤ a.toNat by omega), List.take_nil]
theorem sl_length (o : List UInt8) (a b : Int) (h0 : 0 ≤ a) (h1 : a ≤ b) : (sl o (some a) (some b)).length = min (b.toNat - a.toNat) (o.length - a.toNat) := by
  rw [sl_nat o a b h0 h1, List.length_take, List.length_drop]
theorem clp_sane {o : List UInt8} {st : Int} {pre ty len s} (h0 : 0 ≤ st) (e : clp o st = .ok pre ty len s) :
    st < o.length ∧ 0 ≤ len ∧ st ≤ s ∧ (pre.length : Int) ≤ s - st ∧ (pre.length : Int) ≤ o.length - st ∧ ((ty = "bytes" ∧ st < s + len) ∨ (ty = "list" ∧ st < s)) ∧ len < 18446744073709551616 ∧ s ≤ st + 9 := by
  unfold clp at e
  dsimp only at e
  have hb := be_nonneg
  have hb0 : (o.getD st.toNat 0).toNat < 256 := UInt8.toNat_lt _
  repeat' split at e
  all_goals try (cases e; done)
  all_goals (injection e with e1 e2 e3 e4; subst e1 e2 e3 e4)
  all_goals try (have hbe := hb (sl o (some (st + 1)) (some (st + 1 + (((o.getD st.toNat 0).toNat : Int) - 183)))))
  all_goals try (have hbe2 := hb (sl o (some (st + 1)) (some (st + 1 + (((o.getD st.toNat 0).toNat : Int) - 192 - 56 + 1)))))
  all_goals try (have hbl := be_lt8 (sl o (some (st + 1)) (some (st + 1 + (((o.getD st.toNat 0).toNat : Int) - 183)))) (by rw [sl_length o (st + 1) _ (by omega) (by omega)]; omega))
  all_goals try (have hbl2 := be_lt8 (sl o (some (st + 1)) (some (st + 1 + (((o.getD st.toNat 0).toNat : Int) - 192 - 56 + 1)))) (by rw [sl_length o (st + 1) _ (by omega) (by omega)]; omega))
  all_goals (refine ⟨by omega, by omega, by omega, ?_, ?_, by first | (exact .inl ⟨rfl, by omega⟩) | (exact .inr ⟨rfl, by omega⟩), by omega, by omega⟩)
  all_goals (simp only [List.length_append, List.length_nil, sl_length o st (st + 1) h0 (by omega)])
  all_goals try (rw [sl_length o (st + 1) _ (by omega) (by omega)])
  all_goals omega
/-- what an item that is read takes of the octets -/
def IR.Sane (o : List UInt8) (st : Int) : IR → Prop
  | .ok _ rl e => st < o.length ∧ st < e ∧ (rl.length : Int) ≤ o.length - st ∧ (rl.length : Int) ≤ e - st ∧ e < o.length + 36893488147419103232
  | _ => True
theorem row_sane {o : List UInt8} {item1 : Int → IR} {endp : Int} (H : ∀ x, 0 ≤ x → (item1 x).Sane o x) : ∀ (n : Nat) (next : Int) acc (rl : List UInt8) (st : Int), 0 ≤ st → st < o.length → st < next → (rl.length : Int) ≤ o.length - st → (rl.length : Int) ≤ next - st → next < o.length + 36893488147419103232 → (rowF item1 endp n next acc rl).Sane o st
  | 0, _, _, _, _, _, _, _, _, _, _ => trivial
  | n + 1, next, acc, rl, st, h0, h1, h2, h3, h4, h5 => by
    unfold rowF
    split
    · have hn := H next (by omega)
      cases e : item1 next with
      | ok t r e' =>
        rw [e] at hn
        obtain ⟨a, b, c, d, d5⟩ := hn
        exact row_sane H n e' _ _ st h0 h1 (by omega) (by rw [List.length_append]; omega) (by rw [List.length_append]; omega) d5
      | index => trivial
      | dec m => trivial
      | deep => trivial
    · split
      · trivial
      · exact ⟨h1, h2, h3, h4, h5⟩
theorem pay_sane {o : List UInt8} {item1 : Int → IR} {pre : List UInt8} {ty : Str} {len s st : Int} {n : Nat} (H : ∀ x, 0 ≤ x → (item1 x).Sane o x) (h0 : 0 ≤ st) (h1 : st < o.length) (hl : 0 ≤ len) (hs : st ≤ s) (p1 : (pre.length : Int) ≤ s - st) (p2 : (pre.length : Int) ≤ o.length - st)
    (ht : (ty = "bytes" ∧ st < s + len) ∨ (ty = "list" ∧ st < s)) (hb : len < 18446744073709551616 ∧ s ≤ st + 9) : (payF item1 o n pre ty len s).Sane o st := by
  unfold payF
  rcases ht with ⟨rfl, h⟩ | ⟨rfl, h⟩
  · rw [if_pos rfl]
    refine ⟨h1, h, ?_, ?_, by omega⟩ <;> (rw [List.length_append, sl_length o s (s + len) (by omega) (by omega)]; omega)
  · rw [if_neg (by decide)]
    exact row_sane H _ _ _ _ _ h0 h1 h p2 p1 (by omega)
theorem item_sane (o : List UInt8) (n : Nat) : ∀ (f : Nat) (st : Int), 0 ≤ st → (itemF o n f st).Sane o st
  | 0, _, _ => trivial
  | f + 1, st, h0 => by
    unfold itemF
    cases e : clp o st with
    | ok pre ty len s =>
      obtain ⟨a, b, c, d, e1, f1, g1⟩ := clp_sane h0 e
      exact pay_sane (item_sane o n f) h0 a b c d e1 f1 g1
    | index => trivial
    | dec m => trivial
/-- enough fuel -/
theorem row_deep {o : List UInt8} {item1 : Int → IR} {endp : Int} (S : ∀ x, 0 ≤ x → (item1 x).Sane o x) {k : Int} (H : ∀ x, k ≤ x → item1 x ≠ .deep) : ∀ (n : Nat) (next : Int) acc (rl : List UInt8), 0 ≤ next → k ≤ next → (o.length : Int) + 1 ≤ n + next → 0 < n → rowF item1 endp n next acc rl ≠ .deep
  | 0, _, _, _, _, _, _, h => by omega
  | n + 1, next, acc, rl, h0, hk, h1, _ => by
    unfold rowF
    split
    · have hn := S next h0
      have hd := H next hk
      cases e : item1 next with
      | ok t r e' =>
        rw [e] at hn
        obtain ⟨a, b, c, d, d5⟩ := hn
        exact row_deep S H n e' _ _ (by omega) (by omega) (by omega) (by omega)
      | index => intro h; cases h
      | dec m => intro h; cases h
      | deep => exact absurd e hd
    · split <;> (intro h; cases h)
theorem item_deep (o : List UInt8) (n : Nat) (hn : o.length + 1 ≤ n) : ∀ (f : Nat) (st : Int), 0 ≤ st → (o.length : Int) + 2 ≤ f + st → 0 < f → itemF o n f st ≠ .deep
  | 0, _, _, _, h => by omega
  | f + 1, st, h0, h1, _ => by
    unfold itemF
    cases e : clp o st with
    | ok pre ty len s =>
      obtain ⟨a, b, c, d, e1, f1, g1⟩ := clp_sane h0 e
      show payF (itemF o n f) o n pre ty len s ≠ .deep
      unfold payF
      rcases f1 with ⟨rfl, h⟩ | ⟨rfl, h⟩
      · rw [if_pos rfl]; intro h; cases h
      · rw [if_neg (by decide)]
        exact row_deep (item_sane o n f) (k := s) (fun x hx => item_deep o n hn f x (by omega) (by omega) (by omega)) _ _ _ _ (by omega) (by omega) (by omega) (by omega)
    | index => intro h; cases h
    | dec m => intro h; cases h
/-- the locals hold these names, among others -/
inductive Has (ρ : List (Str × Value)) : List (Str × Value) → Prop
  | nil : Has ρ []
  | cons {k v fr} : ρ.lookup k = some v → Has ρ fr → Has ρ ((k, v) :: fr)
theorem Has.all {ρ : List (Str × Value)} : ∀ {fr}, Has ρ fr → ∀ p ∈ fr, ρ.lookup p.1 = some p.2
  | _, .nil, _, hp => nomatch hp
  | _, .cons h t, p, hp => by
    rcases List.mem_cons.mp hp with rfl | hp
    · exact h
    · exact t.all p hp
theorem fr_has {g h : Heap} {L : Addr} {ρ fr : List (Str × Value)} (F : Fr g L h (look ρ)) (H : Has ρ fr) : Fr g L h (look (fr ++ ρ)) := fr_front F fr H.all
/-! a nested list that stands: its lists lie in the ledger T -/
abbrev Ledger := List (Addr × Obj)
abbrev lob (vs : List Value) (n : Nat) : Obj := { cls := .type "list", data := .seq vs.toArray n }
abbrev tob (vs : List Value) : Obj := { cls := .type "tuple", data := .seq vs.toArray }
mutual
inductive Rep (T : Ledger) : Value → Tr → Prop
  | b {x : List UInt8} {t : Tok} : Rep T (.bytes x.toArray t) (.b x)
  | l {a : Addr} {vs : List Value} {n : Nat} {ts : List Tr} : (a, lob vs n) ∈ T → Reps T vs ts → Rep T (.ref a) (.l ts)
inductive Reps (T : Ledger) : List Value → List Tr → Prop
  | nil : Reps T [] []
  | cons {v vs t ts} : Rep T v t → Reps T vs ts → Reps T (v :: vs) (t :: ts)
end
mutual
theorem Rep.mono {T T' : Ledger} (k : ∀ p ∈ T, p ∈ T') : ∀ {v t}, Rep T v t → Rep T' v t
  | _, _, .b => .b
  | _, _, .l h1 h2 => .l (k _ h1) (Reps.mono k h2)
theorem Reps.mono {T T' : Ledger} (k : ∀ p ∈ T, p ∈ T') : ∀ {v t}, Reps T v t → Reps T' v t
  | _, _, .nil => .nil
  | _, _, .cons h1 h2 => .cons (Rep.mono k h1) (Reps.mono k h2)
end
theorem Reps.snoc {T : Ledger} : ∀ {vs : List Value} {ts : List Tr} {v t}, Reps T vs ts → Rep T v t → Reps T (vs ++ [v]) (ts ++ [t])
  | _, _, _, _, .nil, R => .cons R .nil
  | _, _, _, _, .cons a b, R => .cons a (b.snoc R)
theorem Reps.length {T : Ledger} : ∀ {vs : List Value} {ts : List Tr}, Reps T vs ts → vs.length = ts.length
  | _, _, .nil => rfl
  | _, _, .cons _ b => by rw [List.length_cons, List.length_cons, b.length]
/-- what a call has made -/
def New (h h' : Heap) (T : Ledger) : Prop := ∀ p ∈ T, h'.get? p.1 = some p.2 ∧ h.get? p.1 = none
theorem New.nil {h h' : Heap} : New h h' [] := fun _ hp => nomatch hp
theorem New.one {h h' : Heap} {u : Addr} {o : Obj} (h1 : h.get? u = none) (h2 : h'.get? u = some o) : New h h' [(u, o)] := by
  intro p hp
  rw [List.mem_singleton] at hp
  subst hp
  exact ⟨h2, h1⟩
theorem New.app {h h' : Heap} {T T' : Ledger} (a : New h h' T) (b : New h h' T') : New h h' (T ++ T') := fun p hp => (List.mem_append.mp hp).elim (a p) (b p)
theorem New.sub {h h' : Heap} {T T' : Ledger} (a : New h h' T) (k : ∀ p ∈ T', p ∈ T) : New h h' T' := fun p hp => a p (k p hp)
theorem New.of_news {g h : Heap} {L : Addr} {news : Ledger} (N : News g L h news) : New g h news := fun p hp => ⟨(N p hp).1, (N p hp).2.2⟩
theorem New.off {h h' : Heap} {T : Ledger} {D : Addr} {o : Obj} (a : New h h' T) (hD : h.get? D = some o) : ∀ p ∈ T, p.1 ≠ D := fun p hp e => by
  have := (a p hp).2
  rw [e, hD] at this
  cases this
theorem New.before {h h' h'' : Heap} {T : Ledger} (a : New h' h'' T) (k : Ke h h') : New h h'' T := fun p hp => ⟨(a p hp).1, ke_fresh k (a p hp).2⟩
/-- what a call made is put into the ledger -/
theorem news_adds {g h h' : Heap} {L : Addr} {mm : Str → Option Value} {news T : Ledger} (F : Fr g L h mm) (N : News g L h news) (k : Ke h h') (X : New h h' T) : News g L h' (T ++ news) := by
  intro p hp
  rcases List.mem_append.mp hp with hp | hp
  · refine ⟨(X p hp).1, fun e => ?_, ?_⟩
    · obtain ⟨oL, _, _, hL, _⟩ := F.ns
      have := (X p hp).2
      rw [e, hL] at this
      cases this
    · cases q : g.get? p.1 with
      | none => rfl
      | some o' => have := (X p hp).2; rw [F.keep _ _ q] at this; cases this
  · exact news_ke N k p hp
theorem upd_app {D : Addr} {o o' : Obj} {r r' : Ledger} : ∀ {T : Ledger}, (∀ p ∈ T, p.1 ≠ D) → Upd D o o' r r' → Upd D o o' (T ++ r) (T ++ r')
  | [], _, U => U
  | p :: _, h, U => .tail (h p (.head _)) (upd_app (fun q hq => h q (.tail _ hq)) U)
theorem off_nil {D : Addr} : ∀ p ∈ ([] : Ledger), p.1 ≠ D := fun _ hp => nomatch hp
theorem off_cons {D a : Addr} {o : Obj} {T : Ledger} (h : a ≠ D) (t : ∀ p ∈ T, p.1 ≠ D) : ∀ p ∈ (a, o) :: T, p.1 ≠ D := fun p hp => by
  rcases List.mem_cons.mp hp with rfl | hp
  · exact h
  · exact t p hp
theorem off_app {D : Addr} {T T' : Ledger} (h : ∀ p ∈ T, p.1 ≠ D) (t : ∀ p ∈ T', p.1 ≠ D) : ∀ p ∈ T ++ T', p.1 ≠ D := fun p hp => (List.mem_append.mp hp).elim (h p) (t p)
end

set_option hygiene true
section
variable {prog : Program} {w : World} {A : Around} {E : Value → Shared → Prop} {gs : Array GenState} {dr : Drawn} {tk : Nat} {os : OsState} {h g : Heap} {L : Addr} {mm : Str → Option Value} {news news' : List (Addr × Obj)} {Q : Value → Shared → Prop}
theorem news_lt (N : News g L h news) : ∀ p ∈ news, p.1 ≠ h.objs.size := fun p hp e => by
  exact absurd (e ▸ Heap.lt_size (N p hp).1) (Nat.lt_irrefl _)
theorem news_sub {T : Ledger} (N : News g L h news) (k : ∀ p ∈ T, p ∈ news) : News g L h T := fun p hp => N p (k p hp)
theorem x_tupU {vs : List Value} (F : Fr g L h mm) (N : News g L h news) (hsz : vs.length ≤ 4096) (H : ∀ h' u, (∀ p ∈ news, p.1 ≠ u) → Fr g L h' mm → News g L h' ((u, tob vs) :: news) → Q (.ref u) ⟨h', gs, dr, tk, os⟩) :
    wpAny (model prog w) A (newTuple vs) Q E ⟨h, gs, dr, tk, os⟩ := x_tup F N hsz fun h' u hu F' N' => H h' u (hu ▸ news_lt N) F' N'
theorem x_listU {vs : List Value} (F : Fr g L h mm) (N : News g L h news) (hsz : vs.length ≤ 4096) (H : ∀ h' u, (∀ p ∈ news, p.1 ≠ u) → Fr g L h' mm → News g L h' ((u, lob vs 0) :: news) → Q (.ref u) ⟨h', gs, dr, tk, os⟩) :
    wpAny (model prog w) A (newList vs) Q E ⟨h, gs, dr, tk, os⟩ := x_list F N hsz fun h' u hu F' N' => H h' u (hu ▸ news_lt N) F' N'
theorem x_getm {D : Addr} {vs : List Value} {n : Nat} {name : Str} {id : String} {pl : Sem Bool} {Q : Value × List Value → Shared → Prop} (N : News g L h news) (hm : (D, lob vs n) ∈ news) (slot : Slot "list" name id) (hty : typeOf (.builtin id) = pure (.type "method_descriptor"))
    (k : Q (.builtin id, [.ref D]) ⟨h, gs, dr, tk, os⟩) : wpAny (model prog w) A (getMethod (.ref D) name pl) Q E ⟨h, gs, dr, tk, os⟩ := listMethod_K (s := ⟨h, gs, dr, tk, os⟩) N hm slot hty k
theorem x_getm_append {D : Addr} {vs : List Value} {n : Nat} {pl : Sem Bool} {Q : Value × List Value → Shared → Prop} (N : News g L h news) (hm : (D, lob vs n) ∈ news)
    (k : Q (.builtin "list.append", [.ref D]) ⟨h, gs, dr, tk, os⟩) : wpAny (model prog w) A (getMethod (.ref D) (Str.ofString "append") pl) Q E ⟨h, gs, dr, tk, os⟩ := x_getm N hm PySem.F.slot_list_append PySem.F.type_list_append k
theorem x_getm_insert {D : Addr} {vs : List Value} {n : Nat} {pl : Sem Bool} {Q : Value × List Value → Shared → Prop} (N : News g L h news) (hm : (D, lob vs n) ∈ news)
    (k : Q (.builtin "list.insert", [.ref D]) ⟨h, gs, dr, tk, os⟩) : wpAny (model prog w) A (getMethod (.ref D) (Str.ofString "insert") pl) Q E ⟨h, gs, dr, tk, os⟩ := x_getm N hm PySem.F.slot_list_insert PySem.F.type_list_insert k
theorem x_append {D : Addr} {vs : List Value} {n : Nat} {x : Value} (F : Fr g L h mm) (N : News g L h news) (hm : (D, lob vs n) ∈ news) (U : Upd D (lob vs n) (lob (vs ++ [x]) (n + 1)) news news') (hsz : vs.length ≤ 100000)
    (H : ∀ h', Fr g L h' mm → News g L h' news' → Q .none ⟨h', gs, dr, tk, os⟩) : wpAny (model prog w) A (call (.builtin "list.append") ([.ref D] ++ [x])) Q E ⟨h, gs, dr, tk, os⟩ := by
  obtain ⟨pre, post, rfl, rfl, a, b⟩ := U.split
  have z := N (D, lob vs n) (List.mem_append.mpr (.inr (.head _)))
  refine append_at (s := ⟨h, gs, dr, tk, os⟩) (hsz := ?hz) z.1 fun h' hs ho' => H h' (F.change hs z.2.1 z.2.2) (news_set N a b hs ?ho)
  case hz => rw [List.size_toArray, sizeLine_eq]; omega
  case ho => rw [ho']; simp [lob]
theorem x_insert0 {D : Addr} {vs : List Value} {n : Nat} {x : Value} {u : Tok} (F : Fr g L h mm) (N : News g L h news) (hm : (D, lob vs n) ∈ news) (U : Upd D (lob vs n) (lob (x :: vs) (n + 1)) news news') (hsz : vs.length ≤ 100000)
    (H : ∀ h', Fr g L h' mm → News g L h' news' → Q .none ⟨h', gs, dr, tk, os⟩) : wpAny (model prog w) A (call (.builtin "list.insert") ([.ref D] ++ [.int 0 u, x])) Q E ⟨h, gs, dr, tk, os⟩ := by
  obtain ⟨pre, post, rfl, rfl, a, c⟩ := U.split
  have z := N (D, lob vs n) (List.mem_append.mpr (.inr (.head _)))
  refine call_meets PySem.F.slot_list_insert ⟨_, z.1, rfl⟩ PySem.F.entry_list_insert (PySem.F.args_list_insert_3 _ _ _) (PySem.AutoSeq1.list_insert_list_int_val_1 D _ n 0 u x (by decide +kernel) (by rw [List.size_toArray, sizeLine_eq]; omega)) ⟨z.1, ?_⟩
  refine H _ (F.change (Heap.SameBut.update ..) z.2.1 z.2.2) (kl_turn _ N a c ?_ ?_)
  · show (vs.toArray.extract 0 (if (0 : Int) < 0 then _ else min (0 : Int).toNat vs.toArray.size)).push x ++ vs.toArray.extract (if (0 : Int) < 0 then _ else min (0 : Int).toNat vs.toArray.size) = (x :: vs).toArray
    apply Array.toList_inj.mp
    simp
  · simp
/-- item 0 of a list of the ledger -/
theorem x_litem0 {l : Addr} {vs : List Value} {n : Nat} {ui : Tok} {x : Value} {value slice : Expr} (N : News g L h news) (hm : (l, lob (x :: vs) n) ∈ news)
    (hs : subscripted slice false (.ref l) (.int 0 ui) = operate [.ref l, .int 0 ui] (getItem (.ref l) (.int 0 ui))) (ht : ∀ r, letTemporaryGo value (.ref l) r = pure ()) (H : Q x ⟨h, gs, dr, tk, os⟩) :
    wpAny (model prog w) A (subscriptTail value slice (.ref l) (.int 0 ui)) Q E ⟨h, gs, dr, tk, os⟩ :=
  x_litem (items := x :: vs) (N.get hm) (Int.le_refl 0) (by decide) rfl hs ht H
end
section
variable {M : Model} {A : Around} {E : Value → Shared → Prop} {s : Shared} {env : Env}
theorem g_getm {v : Value} {n : Str} {pl : Sem Bool} {Q : Value × List Value → Shared → Prop} (h : wpAny M A (getMethod v n pl) Q E s) : wpAny M A (getMethod v n pl) Q E s := h
theorem g_call {f : Value} {vs : List Value} {Q : Value → Shared → Prop} (h : wpAny M A (call f vs) Q E s) : wpAny M A (call f vs) Q E s := h
end
local macro_rules | `(tactic| tb_rel) => `(tactic| first
  | assumption
  | with_reducible exact List.mem_cons_self
  | ((with_reducible refine List.mem_cons_of_mem _ ?_); tb_rel)
  | ((with_reducible refine List.mem_append_right _ ?_); tb_rel)
  | ((with_reducible refine List.mem_append_left _ ?_); tb_rel)
  | with_reducible exact off_nil
  | ((with_reducible refine off_cons ?_ ?_) <;> tb_rel)
  | ((with_reducible refine off_app ?_ ?_) <;> tb_rel)
  | (with_reducible exact Ne.symm (by assumption))
  | ((with_reducible refine' Upd.head ?a); (case a => tb_rel))
  | ((with_reducible refine' Upd.tail ?a ?b); (case a => tb_rel); (case b => tb_rel))
  | ((with_reducible refine' upd_app ?a ?b); (case a => tb_rel); (case b => tb_rel))
  | with_reducible exact Has.nil
  | ((with_reducible refine Has.cons ?_ ?_); (first | rfl | (fail "Has: no such local")); tb_rel))
set_option hygiene false
local macro_rules | `(tactic| tb_start) => `(tactic| first
  | ((with_reducible refine' g_getm ?_); first
    | ((with_reducible refine' x_getm_append ?N ?hm ?_); (case N => exact N); (case hm => tb_rel))
    | ((with_reducible refine' x_getm_insert ?N ?hm ?_); (case N => exact N); (case hm => tb_rel)))
  | ((with_reducible refine' g_call ?_); first
    | ((with_reducible refine' x_append ?F ?N ?hm ?U ?hz ?_); (case F => exact F); (case N => exact N); (case hm => tb_rel); (case U => tb_rel); (case hz => omega); (clear F N); intro _ F N)
    | ((with_reducible refine' x_insert0 ?F ?N ?hm ?U ?hz ?_); (case F => exact F); (case N => exact N); (case hm => tb_rel); (case U => tb_rel); (case hz => omega); (clear F N); intro _ F N))
  | ((with_reducible refine' x_tupU ?F ?N ?hz ?_); (case F => exact F); (case N => exact N); (case hz => simp); (clear F N); intro _ _ _ F N)
  | ((with_reducible refine' x_listU ?F ?N ?hz ?_); (case F => exact F); (case N => exact N); (case hz => simp); (clear F N); intro _ _ _ F N)
  | ((with_reducible refine' x_litem0 ?N ?hm ?hs ?ht ?_); (case N => exact N); (case hm => tb_rel); (case hs => with_unfolding_all rfl); (case ht => intro _; with_unfolding_all rfl))
  | ((with_reducible refine' x_assign_tup ?F ?N ?hh ?ht ?hn ?hst ?_); (case F => exact F); (case N => exact N); (case hh => assumption); (case ht => exact isTup_of (News.get N (by tb_rel))); (case hn => rfl); (case hst => rfl); (clear F N); intro _ F N; dsimp only [assignEach, List.map])
  | (fail "no step"))

section
section
variable {w : World} {A : Around} {E : Value → Shared → Prop} {gs : Array GenState} {dr : Drawn} {tk : Nat} {os : OsState} {h hb : Heap} {outer : List Env} {Q : Value → Shared → Prop}
/-- what a call that reads an item gives back -/
def ItemOk (h h' : Heap) (u : Addr) (t : Tr) (rl : List UInt8) (e : Int) : Prop :=
  ∃ v r vs n t1 t2 T, Ke h h' ∧ New h h' ((u, tob [v, .ref r, .int e t2]) :: (r, lob (.bytes rl.toArray t1 :: vs) n) :: T) ∧ Rep T v t
theorem row_lt {item1 : Int → IR} {endp next : Int} {n : Nat} {acc : List Tr} {rl : List UInt8} (h : next < endp) : rowF item1 endp (n + 1) next acc rl = match item1 next with
      | .ok t r e => rowF item1 endp n e (acc ++ [t]) (rl ++ r)
      | x => x := by (rw [rowF, if_pos h]); try rfl
theorem row_ge {item1 : Int → IR} {endp next : Int} {n : Nat} {acc : List Tr} {rl : List UInt8} (h : ¬ next < endp) : rowF item1 endp (n + 1) next acc rl = if next > endp then .dec "List length prefix announced a too small length" else .ok (.l acc) rl next := by rw [rowF, if_neg h]
theorem pay_b {item1 : Int → IR} {n : Nat} {o p : List UInt8} {st len : Int} {t1 t2 t3 t4 t5 : Tok} (B : Base w h) (hd : A.depth + 3 < recursionLimit) (hh : A.handled = none) (ho : o.length ≤ 10000) (hp : p.length ≤ 10000)
    (R : IR) (hR : payF item1 o n p "bytes" len st = R) (Hok : ∀ t rl e, R = .ok t rl e → ∀ h' u tk', ItemOk h h' u t rl e → Q (.ref u) ⟨h', gs, dr, tk', os⟩) :
    wpAny (model pw w) A (call (.ref 1743) [.bytes o.toArray t1, .bytes p.toArray t2, .int st t3, .str "bytes" t4, .int len t5]) Q E ⟨h, gs, dr, tk, os⟩ := by
  rw [payF, if_pos rfl] at hR
  exact pay_bytes B hd hh ho hp fun h' u r t1 t2 t3 tk' k hu hr gu gr => Hok _ _ _ hR.symm h' u tk' ⟨_, r, [], 0, t3, t2, [], k, (New.one hu gu).app (New.one hr gr), .b⟩
def PayOk (w : World) (dr : Drawn) (os : OsState) (N₁ f : Nat) : Prop :=
  ∀ {A : Around} {E : Value → Shared → Prop} {gs : Array GenState} {tk : Nat} {h hb : Heap} {outer : List Env} {Q : Value → Shared → Prop} {o p : List UInt8} {ty : Str} {st len : Int} {t1 t2 t3 t4 t5 : Tok} (B : Base w h) (K : Below A hb outer h) (hd : A.depth + f + 3 < recursionLimit) (hh : A.handled = none)
    (ho : o.length ≤ 10000) (hp : p.length ≤ 10000) (hs : 0 ≤ st) (hl : 0 ≤ len) (hty : ty = "bytes" ∨ ty = "list") (R : IR) (hR : payF (itemF o N₁ f) o N₁ p ty len st = R) (hnd : R ≠ .deep)
    (Hok : ∀ t rl e, R = .ok t rl e → ∀ h' u tk', ItemOk h h' u t rl e → Q (.ref u) ⟨h', gs, dr, tk', os⟩)
    (Hix : R = .index → ∀ h' e x tk', (x.cls = .type "IndexError" ∧ x.ctx = .none) → Thrown h outer e x h' → E (.ref e) ⟨h', gs, dr, tk', os⟩)
    (Hdec : ∀ m, R = .dec m → ∀ h' e x t1 t2 tk', IsDec h h' e x (.str m t1) (.bytes o.toArray t2) → Thrown h outer e x h' → E (.ref e) ⟨h', gs, dr, tk', os⟩),
    wpAny (model pw w) A (call (.ref 1743) [.bytes o.toArray t1, .bytes p.toArray t2, .int st t3, .str ty t4, .int len t5]) Q E ⟨h, gs, dr, tk, os⟩
theorem pay_step {N₁ f : Nat} (hN₁ : N₁ ≤ 1500) (ih : ∀ f', f = f' + 1 → PayOk w dr os N₁ f') : PayOk w dr os N₁ f := by
  intro A E gs tk h hb outer Q o p ty st len t1 t2 t3 t4 t5 B K hd hh ho hp hs hl hty R hR hnd Hok Hix Hdec
  rcases hty with rfl | rfl
  · exact pay_b B (by omega) hh ho hp R hR Hok
  · refine x_enter B (by omega) (by rfl) (by rfl) (by rfl) (by rfl) (by rfl) (binds := [(Str.ofString "rlp", _), (Str.ofString "prefix", _), (Str.ofString "start", _), (Str.ofString "type_", _), (Str.ofString "length", _)]) (by rfl) (locs (by rfl)) (by rfl) (by rfl) (by rfl) (by decide) ?_
    intro h₁ L tk' _ F N
    have hh' : (A.deeper (envOf (Str.ofString "consume_payload") (fdS (sAt 36)) L 1743 (Value.ref 1742))).handled = none := hh
    have hdd : (A.deeper (envOf (Str.ofString "consume_payload") (fdS (sAt 36)) L 1743 (Value.ref 1742))).depth = A.depth + 1 := rfl
    have hf : f < 1000 := by have : recursionLimit = 1000 := rfl; omega
    show wpAny _ _ (execs (fdB (sAt 36)) _) _ _ _
    refine wpAny_execs_cons ?_
    repeat' tb_start
    refine wpAny_While ?_
    rename_i uI huI _ _ _ uP huP _ _ _ _ _ _ te _ h₀ tk₀
    have hIP : uI ≠ uP := huP _ (.head _)
    have hPI : uP ≠ uI := hIP.symm
    refine codeAny_whileLoop (fun n s => ∃ h' tk' ρ next acc rl vs ps nI nP tn trl T, s = ⟨h', gs, dr, tk', os⟩ ∧ Fr h L h' (look ([(Str.ofString "next_item_start", Value.int next tn), (Str.ofString "list_rlp", .bytes (List.toArray rl) trl), (Str.ofString "end", .int (st + len) te), (Str.ofString "per_item_rlp", .ref uP), (Str.ofString "items", .ref uI), (Str.ofString "rlp", Value.bytes o.toArray t1)] ++ ρ)) ∧
      News h L h' ((uP, lob ps nP) :: (uI, lob vs nI) :: T) ∧ (∀ p ∈ T, p.1 ≠ uP) ∧ (∀ p ∈ T, p.1 ≠ uI) ∧ Reps T vs acc ∧ vs.length + n ≤ N₁ ∧ ps.length = vs.length ∧ 0 ≤ next ∧ rl.length ≤ 10000 + 10000 * vs.length ∧ rowF (itemF o N₁ f) (st + len) n next acc rl = R) (fun n s hI => ?_) N₁ ?_
    · obtain ⟨h₂, tk₂, ρ, next, acc, rl, vs, ps, nI, nP, tn, trl, T, rfl, F, N, hTP, hTI, RR, hv, hps, hn0, hrl, hrow⟩ := hI
      cases n with
      | zero => exact absurd hrow.symm hnd
      | succ n =>
      repeat' tb_start
      · have hlt : next < st + len := by simpa using ‹decide (next < st + len) = true›
        rw [row_lt hlt] at hrow
        cases f with
        | zero => exact absurd hrow.symm hnd
        | succ f =>
        rw [itemF] at hrow
        refine clp_call (B.keeps F.keep) (K.push F rfl) (by omega) hh' ho hn0 (fun pre ty len' st' hclp h₃ u3 s1 s2 s3 s4 tk₃ k₃ hu3 hg3 => ?_) (fun hclp h₃ e x tk₃ hx T => ?_) (fun m hclp h₃ e x s1 s2 tk₃ hX T => ?_)
        · rw [hclp] at hrow
          dsimp only at hrow
          obtain ⟨q1, q2, q3, q4, q5, q6, q7⟩ := clp_sane hn0 hclp
          replace N := news_adds F N k₃ (.one hu3 hg3)
          replace F := F.keeps k₃
          repeat' tb_start
          have hnd1 : payF (itemF o N₁ f) o N₁ pre ty len' st' ≠ .deep := fun e => by
            rw [e] at hrow
            exact hnd hrow.symm
          refine ih f rfl (B.keeps F.keep) (K.push F rfl) (by omega) hh' ho (by omega) (by omega) q2 (q6.elim (fun q => .inl q.1) fun q => .inr q.1) _ rfl hnd1 (fun t r e hpay h₄ u4 tk₄ hI => ?_) (fun hpay h₄ e x tk₄ hx T => ?_) (fun m hpay h₄ e x s5 s6 tk₄ hX T => ?_)
          · obtain ⟨v4, r4, vs4, n4, s7, s8, T4, k₄, X4, R4⟩ := hI
            have hsn := pay_sane (n := N₁) (item_sane o N₁ f) hn0 q1 q2 q3 q4 q5 q6 q7
            rw [hpay] at hrow hsn
            obtain ⟨_, z1, z2, z3, _⟩ := hsn
            have oP := X4.off (N.get (a := uP) (o := lob ps nP) (by tb_rel))
            have oI := X4.off (N.get (a := uI) (o := lob vs nI) (by tb_rel))
            replace N := news_adds F N k₄ X4
            replace F := F.keeps k₄
            obtain ⟨T₂, X₂⟩ : ∃ T₂ : Ledger, T₂ = (u4, tob [v4, .ref r4, .int e s8]) :: (r4, lob (.bytes r.toArray s7 :: vs4) n4) :: (T4 ++ T) := ⟨_, rfl⟩
            replace N : News h L h₄ ((uP, lob ps nP) :: (uI, lob vs nI) :: T₂) := news_sub N (by subst X₂; intro p hp; simp only [List.mem_cons, List.mem_append, List.mem_singleton] at hp ⊢; rcases hp with h | h | h | h | h | h <;> simp only [h, true_or, or_true])
            have hu4 : (u4, tob [v4, .ref r4, .int e s8]) ∈ T₂ := by subst X₂; exact .head _
            have hr4 : (r4, lob (.bytes r.toArray s7 :: vs4) n4) ∈ T₂ := by subst X₂; exact .tail _ (.head _)
            have o2P : ∀ p ∈ T₂, p.1 ≠ uP := by subst X₂; exact fun p hp => (List.mem_append.mp (show p ∈ ((u4, tob [v4, .ref r4, .int e s8]) :: (r4, lob (.bytes r.toArray s7 :: vs4) n4) :: T4) ++ T from hp)).elim (oP p) (hTP p)
            have o2I : ∀ p ∈ T₂, p.1 ≠ uI := by subst X₂; exact fun p hp => (List.mem_append.mp (show p ∈ ((u4, tob [v4, .ref r4, .int e s8]) :: (r4, lob (.bytes r.toArray s7 :: vs4) n4) :: T4) ++ T from hp)).elim (oI p) (hTI p)
            replace R4 : Rep T₂ v4 t := R4.mono fun p hp => by subst X₂; exact .tail _ (.tail _ (List.mem_append_left _ hp))
            replace RR : Reps T₂ vs acc := RR.mono fun p hp => by subst X₂; exact .tail _ (.tail _ (List.mem_append_right _ hp))
            clear oP oI X₂ X4
            repeat' tb_start
            refine ⟨n, Nat.lt_succ_self n, _, _, _, e, acc ++ [t], rl ++ r, vs ++ [v4], ps ++ [.ref r4], _, _, _, _, T₂, rfl, fr_has F (by tb_rel), N, o2P, o2I, RR.snoc R4, by rw [List.length_append]; show vs.length + 1 + n ≤ _; omega, by simp [hps], by omega, by rw [List.length_append, List.length_append]; show _ ≤ 10000 + 10000 * (vs.length + 1); omega, hrow⟩
          · rw [hpay] at hrow
            exact loop_leave K F T.1 (.inr rfl) T.2 fun h'' T' _ => Hix hrow.symm _ _ _ _ hx T'
          · rw [hpay] at hrow
            exact loop_leave K F T.1 (.inr rfl) T.2 fun h'' T' u => Hdec m hrow.symm _ _ _ _ _ _ ((hX.upTo u).down F.keep) T'
        · rw [hclp] at hrow
          exact loop_leave K F T.1 (.inr rfl) T.2 fun h'' T' _ => Hix hrow.symm _ _ _ _ hx T'
        · rw [hclp] at hrow
          exact loop_leave K F T.1 (.inr rfl) T.2 fun h'' T' u => Hdec m hrow.symm _ _ _ _ _ _ ((hX.upTo u).down F.keep) T'
      · have h1 : ¬ next < st + len := by simpa using ‹decide (next < st + len) = false›
        have h2 : next > st + len := by simpa using ‹decide (next > st + len) = true›
        rw [row_ge h1, if_pos h2] at hrow
        exact dec_leave K F B rfl (by omega) fun h'' e x tk' X T => Hdec _ hrow.symm h'' e x _ _ tk' X T
      · have h1 : ¬ next < st + len := by simpa using ‹decide (next < st + len) = false›
        have h2 : ¬ next > st + len := by simpa using ‹decide (next > st + len) = false›
        rw [row_ge h1, if_neg h2] at hrow
        refine Hok _ _ _ hrow.symm _ _ _ ⟨_, _, _, _, _, _, (uI, lob vs nI) :: T, F.keep, New.of_news N, .l (.head _) (RR.mono fun p hp => .tail _ hp)⟩
    · refine ⟨h₀, tk₀, _, st, [], p, [], [], 0, 0, t3, t2, [], rfl, fr_has F (by tb_rel), N, off_nil, off_nil, .nil, by simp, rfl, hs, by simpa using hp, ?_⟩
      rw [← hR, payF, if_neg (by decide)]
theorem pay_call {N₁ : Nat} (hN₁ : N₁ ≤ 1500) (f : Nat) : PayOk w dr os N₁ f := by
  induction f with
  | zero =>
    refine pay_step (f := 0) hN₁ ?_
    intro f' h
    omega
  | succ f ih =>
    refine pay_step (f := f + 1) hN₁ ?_
    intro f' h
    have : f = f' := by omega
    subst this
    exact @ih
end
end

section
/-! behind a call in which an exception was caught: the outer frames' slots may have turned; the walk goes on over a ground of its own -/
structure Kp (l : List Env) (h h' : Heap) : Prop where
  stays : (hideAll h (fs l)).StaysIn h'
  slots : h.UpToSlots h'
theorem Kp.of_ke {l : List Env} {h h' : Heap} (k : Ke h h') : Kp l h h' := ⟨fun b o q => k b o (of_hideAll _ q), Heap.UpToSlots.of_keeps k⟩
theorem Kp.refl {l : List Env} {h : Heap} : Kp l h h := .of_ke fun _ _ e => e
theorem Kp.trans {l : List Env} {h₁ h₂ h₃ : Heap} (a : Kp l h₁ h₂) (b : Kp l h₂ h₃) : Kp l h₁ h₃ :=
  ⟨fun p o q => b.stays p o (hideAll_get _ (a.stays p o q) fun hm => by rw [hideAll_none _ hm] at q; cases q), a.slots.trans b.slots⟩
theorem Kp.of_thrown {g h' : Heap} {l : List Env} {e : Addr} {x : Ex} (T : Thrown g l e x h') : Kp l g h' := ⟨T.1.1, T.2⟩
def freedO : Obj := { cls := .none, data := .freed }
def regr (g h' : Heap) : Heap := { h' with objs := Array.ofFn (n := g.objs.size) fun i => if (g.get? i.val).isSome then (h'.get? i.val).getD freedO else freedO }
theorem get?_nf {h : Heap} {b : Addr} {o : Obj} (e : h.get? b = some o) : o.data ≠ .freed := by
  unfold Heap.get? at e
  split at e
  · cases e
  · rename_i hno
    intro hd
    obtain ⟨c, d, dt, sl⟩ := o
    dsimp only at hd
    subst hd
    exact hno c d sl e
theorem regr_get {g h' : Heap} {b : Addr} : (regr g h').get? b = if (g.get? b).isSome then h'.get? b else none := by
  unfold regr
  show (match (Array.ofFn (n := g.objs.size) fun i => if (g.get? i.val).isSome then (h'.get? i.val).getD freedO else freedO)[b]? with | some ⟨_, _, .freed, _⟩ => none | o => o) = _
  rw [Array.getElem?_ofFn]
  by_cases hb : b < g.objs.size
  · rw [dif_pos hb]
    by_cases hs : (g.get? b).isSome = true
    · simp only [hs, if_true]
      cases e : h'.get? b with
      | none => rfl
      | some o =>
        have := get?_nf e
        obtain ⟨c, d, dt, sl⟩ := o
        simp only [Option.getD_some]
        cases dt <;> first | rfl | exact absurd rfl this
    · simp only [hs]
      rfl
  · rw [dif_neg hb]
    have : g.get? b = none := Heap.get?_none_of_le (Nat.le_of_not_lt hb)
    rw [this]
    rfl
theorem regr_of {g h' : Heap} {b : Addr} {o : Obj} (e : (regr g h').get? b = some o) : h'.get? b = some o := by
  rw [regr_get] at e
  split at e
  · exact e
  · cases e
theorem regr_at {g h' : Heap} {b : Addr} {o o' : Obj} (e : g.get? b = some o) (e' : h'.get? b = some o') : (regr g h').get? b = some o' := by
  rw [regr_get, e]
  exact e'
theorem regr_none {g h' : Heap} {b : Addr} (e : g.get? b = none) : (regr g h').get? b = none := by
  rw [regr_get, e]; rfl
theorem regr_size {g h' : Heap} : (regr g h').objs.size = g.objs.size := by simp [regr]
theorem fs_cons {env : Env} {l : List Env} {L : Addr} (hf : env.frame = some L) : fs (env :: l) = L :: fs l := by
  rw [fs, List.filterMap_cons, hf]
section
variable {A : Around} {hb g h h' : Heap} {outer : List Env} {L a : Addr} {mm : Str → Option Value} {news T : Ledger} {name : Str} {scope : Scope} {cd : Value}
theorem reground (K : Below A hb outer g) (F : Fr g L h mm) (N : News g L h news) (kp : Kp (envOf name scope L a cd :: outer) h h') (X : New h h' T) :
    ∃ g', Kp outer g g' ∧ (∀ b, g'.get? b = none ↔ g.get? b = none) ∧ Below A hb outer g' ∧ Fr g' L h' mm ∧ News g' L h' (T ++ news) := by
  have hfs : fs (envOf name scope L a cd :: outer) = L :: fs outer := fs_cons rfl
  have low : ∀ b o, g.get? b = some o → b ≠ L := fun b o e => Nat.ne_of_lt (Nat.lt_of_lt_of_le (Heap.lt_size e) F.above)
  have s1 : ∀ b o, g.get? b = some o → b ∉ fs outer → h'.get? b = some o := fun b o e hn => by
    refine kp.stays b o (hideAll_get _ (F.keep b o e) ?_)
    rw [hfs]
    intro hm
    rcases List.mem_cons.mp hm with rfl | hm
    · exact low _ _ e rfl
    · exact hn hm
  have s2 : ∀ b o, g.get? b = some o → (∀ vs, o.data ≠ .fields vs) → ∃ sl, h'.get? b = some { o with slots := sl } := fun b o e hd => kp.slots b o (F.keep b o e) hd
  refine ⟨regr g h', ⟨fun b o e => ?_, fun b o e hd => ?_⟩, fun b => ⟨fun e => ?_, fun e => regr_none e⟩, ⟨K.stack, fun b o e => ?_, ?_⟩, ⟨kp.slots.ns F.ns, fun b o e => regr_of e, by rw [regr_size]; exact F.above⟩, ?_⟩
  · have e' := of_hideAll _ e
    exact regr_at e' (s1 b o e' fun hm => by rw [hideAll_none _ hm] at e; cases e)
  · obtain ⟨sl, hs⟩ := s2 b o e hd
    exact ⟨sl, regr_at e hs⟩
  · cases q : g.get? b with
    | none => rfl
    | some o =>
      have hx : ∃ o', h'.get? b = some o' := by
        by_cases hm : b ∈ fs outer
        · obtain ⟨_, o₂, ho, hd⟩ := K.frames.mem hm
          rw [q] at ho
          cases ho
          obtain ⟨sl, hs⟩ := s2 b o q hd
          exact ⟨_, hs⟩
        · exact ⟨o, s1 b o q hm⟩
      obtain ⟨o', ho'⟩ := hx
      rw [regr_at q ho'] at e
      cases e
  · have e' := K.stays b o e
    refine regr_at e' (s1 b o e' fun hm => ?_)
    have := (K.frames.mem hm).1
    rw [e] at this
    cases this
  · refine K.frames.of_keeps fun b o e hd => ?_
    obtain ⟨sl, hs⟩ := s2 b o e hd
    exact ⟨_, regr_at e hs, rfl⟩
  · intro p hp
    rcases List.mem_append.mp hp with hp | hp
    · obtain ⟨x1, x2⟩ := X p hp
      refine ⟨x1, fun e => ?_, regr_none ?_⟩
      · obtain ⟨oL, _, _, hL, _⟩ := F.ns
        rw [e, hL] at x2
        cases x2
      · cases q : g.get? p.1 with
        | none => rfl
        | some o' => rw [F.keep _ _ q] at x2; cases x2
    · obtain ⟨n1, n2, n3⟩ := N p hp
      refine ⟨kp.stays _ _ (hideAll_get _ n1 ?_), n2, regr_none n3⟩
      rw [hfs]
      intro hm
      rcases List.mem_cons.mp hm with e | hm
      · exact n2 e
      · obtain ⟨o, ho, _⟩ := (K.frames.mem hm).2
        rw [n3] at ho
        cases ho
theorem thrown_ground {g' : Heap} {e : Addr} {x : Ex} (kp : Kp outer g g') (T : Thrown g' outer e x h') : Thrown g outer e x h' :=
  ⟨T.1.weaken fun b o q => hideAll_get _ (kp.stays b o q) fun hm => (by rw [hideAll_none _ hm] at q; cases q), kp.slots.trans T.2⟩
/-- the exception's object -/
theorem fly_obj {l : List Env} {e : Addr} {x : Ex} {st : Option Value} {h3 : Heap} (X : Fly (hideAll h (fs l)) l e x st h3) :
    ∃ oe vs, h3.get? e = some oe ∧ oe.cls = x.cls ∧ oe.dict = x.dict ∧ oe.data = .fields vs ∧ vs[0]? = some x.a0 ∧ vs[2]? = some x.ctx ∧ h.get? e = none := by
  obtain ⟨_, hn, hl, oe, vs, he, h1, h2, h3', h4, h5, _⟩ := X
  refine ⟨oe, vs, he, h1, h2, h3', h4, h5, ?_⟩
  cases q : h.get? e with
  | none => rfl
  | some o =>
    by_cases hm : e ∈ fs l
    · obtain ⟨_, o₂, ho, hd⟩ := hl.mem hm
      rw [he] at ho
      cases ho
      exact absurd h3' (hd vs)
    · rw [hideAll_get _ q hm] at hn
      cases hn
theorem base_below {w : World} (B : Base w hb) (K : Below A hb outer g) : Base w g := B.keeps K.stays
end
end

section
section
variable {prog : Program} {w : World} {A : Around} {E E' : Value → Shared → Prop} {gs : Array GenState} {dr : Drawn} {tk : Nat} {os : OsState} {hb g h h' h2 BB : Heap} {outer : List Env} {L a e : Addr} {mm : Str → Option Value} {news : Ledger} {name : Str} {scope : Scope} {cd c : Value} {x : Ex} {Q : Flow → Shared → Prop} {t : Expr} {b₀ : Stmt} {suite : List Stmt} {pos : Pos} {rest hs : List ExceptHandler} {env : Env}
theorem land (hfr : A.frames = some (env :: outer)) (hf : env.frame = some L) (X : Fly BB (env :: outer) e x (some .none) h')
    (H : ∀ h2, Fly BB (env :: outer) e x (some .none) h2 → h'.UpToSlots h2 → wpAny (model prog w) A (handleBy (.ref e) env hs) Q E ⟨h2, gs, dr, tk, os⟩) :
    wpAny (model prog w) A (noteFrame (.ref e) env) (fun _ s₂ => wpAny (model prog w) A (setFlight (.ref e) none) (fun _ s₃ => wpAny (model prog w) A (handleBy (.ref e) env hs) Q E s₃) E s₂) E ⟨h', gs, dr, tk, os⟩ :=
  fly_note hfr hf X (.inr rfl) fun h1 X1 u1 => fly_flight (to := none) X1 fun h2 X2 u2 => H h2 X2 (u1.trans u2)
theorem clause_yes (X : Fly BB (env :: outer) e x (some .none) h2)
    (ht : ∀ {Q' : Value → Shared → Prop} {E' : Value → Shared → Prop}, Q' c ⟨h2, gs, dr, tk, os⟩ → wpAny (model prog w) (A.mark (some (.ref e))) (eval t env) Q' E' ⟨h2, gs, dr, tk, os⟩)
    (hm : ∀ {Q' : Bool → Shared → Prop} {E' : Value → Shared → Prop}, Q' true ⟨h2, gs, dr, tk, os⟩ → wpAny (model prog w) (A.mark (some (.ref e))) (excMatches (.ref e) c) Q' E' ⟨h2, gs, dr, tk, os⟩)
    (H : ∀ h3, Fly BB (env :: outer) e x (some .none) h3 → h2.UpToSlots h3 → wpAny (model prog w) (A.mark (some (.ref e))) (execs (b₀ :: suite) env) Q (notedBy (model prog w) (A.mark (some (.ref e))) env (cameBackBy (model prog w) A env E)) ⟨h3, gs, dr, tk, os⟩) :
    wpAny (model prog w) A (handleBy (.ref e) env (.ExceptHandler (some t) none (b₀ :: suite) pos :: rest)) Q E ⟨h2, gs, dr, tk, os⟩ := by
  refine wpAny_handleBy_cons (codeAny_handlers_test (ht (hm ?_))) (by intro q; cases q)
  exact codeAny_handlers_suite (fly_flight (to := none) X fun h3 X3 u3 => H h3 X3 u3)
theorem clause_as {n : Str} (X : Fly BB (env :: outer) e x (some .none) h2)
    (ht : ∀ {Q' : Value → Shared → Prop} {E' : Value → Shared → Prop}, Q' c ⟨h2, gs, dr, tk, os⟩ → wpAny (model prog w) (A.mark (some (.ref e))) (eval t env) Q' E' ⟨h2, gs, dr, tk, os⟩)
    (hm : ∀ {Q' : Bool → Shared → Prop} {E' : Value → Shared → Prop}, Q' true ⟨h2, gs, dr, tk, os⟩ → wpAny (model prog w) (A.mark (some (.ref e))) (excMatches (.ref e) c) Q' E' ⟨h2, gs, dr, tk, os⟩)
    (H : ∀ h3, Fly BB (env :: outer) e x (some .none) h3 → h2.UpToSlots h3 → wpAny (model prog w) (A.mark (some (.ref e))) (storeName env n (.ref e)) (fun _ s₃ =>
            wpAny (model prog w) (A.mark (some (.ref e))) (execs (b₀ :: suite) env)
              (fun f s₄ => wpAny (model prog w) A (do bindName env n .none; unbindBehindTheSuite env n pos) (fun _ s₅ => Q f s₅) E s₄)
              (fun x s₄ => wpAny (model prog w) (A.mark (some (.ref e))) (noteFrame x env) (fun _ s₄' =>
                wpAny (model prog w) (A.mark (some (.ref e))) (do bindName env n .none; unbindBehindTheSuite env n pos)
                  (fun _ s₅ => wpAny (model prog w) (A.mark (some (.ref e))) (passOn "try.except-as" x env : Sem Flow) (fun _ _ => False) (notedBy (model prog w) (A.mark (some (.ref e))) env (cameBackBy (model prog w) A env E)) s₅)
                  (fun y s₅ => wpAny (model prog w) (A.mark (some (.ref e))) (setFlight x none) (fun _ s₆ => (notedBy (model prog w) (A.mark (some (.ref e))) env (cameBackBy (model prog w) A env E)) y s₆) (notedBy (model prog w) (A.mark (some (.ref e))) env (cameBackBy (model prog w) A env E)) s₅) s₄') (notedBy (model prog w) (A.mark (some (.ref e))) env (cameBackBy (model prog w) A env E)) s₄) s₃) (notedBy (model prog w) (A.mark (some (.ref e))) env (cameBackBy (model prog w) A env E)) ⟨h3, gs, dr, tk, os⟩) :
    wpAny (model prog w) A (handleBy (.ref e) env (.ExceptHandler (some t) (some n) (b₀ :: suite) pos :: rest)) Q E ⟨h2, gs, dr, tk, os⟩ := by
  refine wpAny_handleBy_cons (codeAny_handlers_test (ht (hm ?_))) (by intro q; cases q)
  exact codeAny_handlers_suite_as (fly_flight (to := none) X fun h3 X3 u3 => H h3 X3 u3)
theorem clause_no {n : Option Str} (ht : ∀ {Q' : Value → Shared → Prop} {E' : Value → Shared → Prop}, Q' c ⟨h2, gs, dr, tk, os⟩ → wpAny (model prog w) (A.mark (some (.ref e))) (eval t env) Q' E' ⟨h2, gs, dr, tk, os⟩)
    (hm : ∀ {Q' : Bool → Shared → Prop} {E' : Value → Shared → Prop}, Q' false ⟨h2, gs, dr, tk, os⟩ → wpAny (model prog w) (A.mark (some (.ref e))) (excMatches (.ref e) c) Q' E' ⟨h2, gs, dr, tk, os⟩)
    (H : wpAny (model prog w) A (handleBy (.ref e) env rest) Q E ⟨h2, gs, dr, tk, os⟩) :
    wpAny (model prog w) A (handleBy (.ref e) env (.ExceptHandler (some t) n (b₀ :: suite) pos :: rest)) Q E ⟨h2, gs, dr, tk, os⟩ :=
  wpAny_handleBy_cons (codeAny_handlers_test (ht (hm H))) (by intro q; cases q)
theorem clause_end (hf : env.frame = some L) (X : Fly BB (env :: outer) e x (some .none) h2) (H : ∀ h3, Fly BB (env :: outer) e x (some (rawInt L)) h3 → h2.UpToSlots h3 → E (.ref e) ⟨h3, gs, dr, tk, os⟩) :
    wpAny (model prog w) A (handleBy (.ref e) env []) Q E ⟨h2, gs, dr, tk, os⟩ := by
  refine wpAny_handleBy_nil ?_
  unfold PySem.passOn
  obtain ⟨_, _, _, oe, vs, he, _, _, hd, _, _, T, _, _, h1', _⟩ := id X
  refine wpAny_bind (wpAny_field he hd h1' ?_)
  rw [if_neg (show ¬ ((Value.ref T == Value.none) = true) from by simp)]
  rw [hf]
  exact wpAny_bind (fly_flight (to := some L) X fun h3 X3 u3 => wpAny_throw (H h3 X3 u3))
/-- a made exception is raised within a handler: it bears the handled one -/
theorem raise_in {α : Type} {x1 : Ex} {e1 : Addr} {oh : Obj} {vh : Array Value} {Q : α → Shared → Prop} (hh : A.handled = some (.ref e)) (hne : e1 ≠ e) (he : h.get? e = some oh) (hd : oh.data = .fields vh) (h2 : vh[2]? = some .none)
    (ht : ExAt h BB e1 x1 none) (H : ∀ h', (∀ b, b ≠ e1 → h'.get? b = h.get? b) → ExAt h' BB e1 { x1 with ctx := .ref e } none → E (.ref e1) ⟨h', gs, dr, tk, os⟩) :
    wpAny (model prog w) A (raiseNew (.ref e1) : Sem α) Q E ⟨h, gs, dr, tk, os⟩ := by
  unfold raiseNew
  refine wpAny_bind (wpAny_handled ?_)
  rw [hh]
  dsimp only
  rw [if_pos (show (Value.ref e != Value.ref e1) = true by simp [Ne.symm hne])]
  refine wpAny_bind (wpAny_holding (wpAny_runValue (codeAny_builtin (b := Builtin.«proto.unchain») (id := "proto.unchain") (entryFor_of_tree (by kernel_rfl)) ?_)))
  unfold Builtin.«proto.unchain»
  dsimp only
  refine wpAny_bind (wpAny_field he hd h2 ?_)
  rw [if_pos (by decide)]
  obtain ⟨o1, v1, q1, q2, q3, q4, q5, q6, q7⟩ := ht
  refine wpAny_bind (wpAny_pure (wpAny_pure ?_))
  dsimp only
  unfold updateField
  refine wpAny_bind (wpAny_bind (wpAny_load q1 ?_))
  rw [q4]
  dsimp only
  rw [if_pos (Array.getElem?_eq_some_iff.mp q6).1]
  refine wpAny_update' q1 (wpAny_throw ?_)
  refine H _ (fun b hb => Heap.get?_update_other _ _ (Ne.symm hb)) ⟨_, _, Heap.get?_update_self _ q1 (Obj.isFreed_of_fields (Obj.data_mapFields q4 _)), (Obj.cls_mapFields _ _).trans q2, (dict_mapFields _ _).trans q3, Obj.data_mapFields q4 _, ?_, ?_, ?_⟩
  · rw [Array.getElem?_setIfInBounds_ne (by decide)]; exact q5
  · simp [(Array.getElem?_eq_some_iff.mp q6).1]
  · show _ = _
    rw [Array.getElem?_setIfInBounds_ne (by decide)]; exact q7
end
section
variable {w : World} {A : Around} {E : Value → Shared → Prop} {gs : Array GenState} {dr : Drawn} {tk : Nat} {os : OsState} {hb g h h' : Heap} {outer : List Env} {L a e : Addr} {mm : Str → Option Value} {name : Str} {scope : Scope} {cd : Value} {x : Ex} {Q : Flow → Shared → Prop} {v : Option Value}
/-- out of a suite that handles an exception -/
theorem mark_leave {st : Option Value} (K : Below A hb outer g) (F : Fr g L h mm) (X : Fly (hideAll h (fs (envOf name scope L a cd :: outer))) (envOf name scope L a cd :: outer) e x st h') (hst : st = none ∨ st = some .none) (u : h.UpToSlots h')
    (H : ∀ h'', Thrown g outer e x h'' → h'.UpToSlots h'' → E (.ref e) ⟨h'', gs, dr, tk, os⟩) :
    notedBy (model pw w) ((A.deeper (envOf name scope L a cd)).mark v) (envOf name scope L a cd) (fun e s' => cameBackBy (model pw w) (A.deeper (envOf name scope L a cd)) (envOf name scope L a cd) (fun e s' =>
      wpAny (model pw w) (A.deeper (envOf name scope L a cd)) (leaving (envOf name scope L a cd) e) (fun _ s'' => E e s'') (fun e' s'' => E e' s'') s') e s') (.ref e) ⟨h', gs, dr, tk, os⟩ := by
  have hfr := Around.frames_deeper (env := envOf name scope L a cd) K.stack
  have hfr' : ((A.deeper (envOf name scope L a cd)).mark v).frames = some (envOf name scope L a cd :: outer) := hfr
  unfold notedBy
  refine fly_note hfr' rfl X hst fun h1 X1 u1 => ?_
  unfold cameBackBy
  obtain ⟨_, _, _, oe, vs, he, _, _, hd, _, _, T, _, _, h1', _⟩ := id X1
  refine wpAny_bind (wpAny_field he hd h1' ?_)
  rw [if_neg (show ¬ ((Value.ref T == Value.none) = true) from by simp)]
  refine fly_flight (to := some L) X1 fun h2 X2 u2 => ?_
  exact fly_leave hfr rfl X2 (.inr rfl) fun h3 X3 u3 => H h3 ⟨X3.weaken (hide_in F rfl), (Heap.UpToSlots.of_keeps F.keep).trans (u.trans (u1.trans (u2.trans u3)))⟩ (u1.trans (u2.trans u3))
/-- raise DecodingError(m, r) in a suite that handles e -/
theorem x_raise_in {env : Env} {c : Expr} {pos : Pos} {s : Shared} (hh : A.handled = some (.ref e))
    (H : wpAny (model pw w) A (eval c env) (fun v s₁ => ∃ e1 ta D oh vh, v = .ref e1 ∧ Base w s₁.heap ∧ s₁.heap.get? e1 = some { cls := .ref 74, dict := some D, data := .fields #[.ref ta, .none, .none, .none, .bool false, .none] } ∧
      e1 ≠ e ∧ s₁.heap.get? e = some oh ∧ oh.data = .fields vh ∧ vh[2]? = some .none ∧ ∀ h', (∀ b, b ≠ e1 → h'.get? b = s₁.heap.get? b) → ExAt h' h' e1 ⟨.ref 74, .ref ta, some D, .ref e⟩ none → E (.ref e1) { s₁ with heap := h' }) E s) :
    wpAny (model pw w) A (exec (.Raise (some c) none pos) env) Q E s := by
  rw [arm_exec_Raise]
  show wpAny _ A (do standAt pos; raiseStmt env (some (do let v ← eval c env; standAt pos; pure v)) none) Q E s
  refine wpAny_bind (wpAny_standAt ?_)
  unfold raiseStmt
  refine wpAny_bind (wpAny_mono (wpAny_bind (wpAny_mono H (fun v s₁ h₁ => wpAny_bind (wpAny_standAt (wpAny_pure h₁))) fun _ _ x => x)) (fun v s₁ h₁ => ?_) fun _ _ x => x)
  obtain ⟨e1, ta, D, oh, vh, rfl, B, he, hne, hoh, hdh, h2h, hE⟩ := h₁
  obtain ⟨hp, g, d, tk, os⟩ := s₁
  have hC := c74 B
  repeat (first | with_reducible refine wpAny_loadPart_at he ?_ | with_reducible refine wpAny_loadPart_at hC ?_ | (with_reducible refine wpAny_isSubtype_exc hC ?_) | wp_step)
  exact raise_in (BB := hp) (x1 := ⟨.ref 74, .ref ta, some D, .none⟩) hh hne hoh hdh h2h ⟨_, _, he, rfl, rfl, rfl, rfl, rfl, rfl⟩ fun h' k X => hE h' k X
end
end

section
section
variable {w : World} {A : Around} {E : Value → Shared → Prop} {gs : Array GenState} {dr : Drawn} {tk : Nat} {os : OsState} {h hb : Heap} {outer : List Env} {Q : Value → Shared → Prop}
theorem item_call {N₁ f : Nat} (hN₁ : N₁ ≤ 1500) {o : List UInt8} {st : Int} {t1 t2 : Tok} (B : Base w h) (K : Below A hb outer h) (hd : A.depth + f + 4 < recursionLimit) (hh : A.handled = none)
    (ho : o.length ≤ 10000) (hs : 0 ≤ st) (R : IR) (hR : itemF o N₁ (f + 1) st = R) (hnd : R ≠ .deep)
    (Hok : ∀ t rl e, R = .ok t rl e → ∀ h' u tk', ItemOk h h' u t rl e → Q (.ref u) ⟨h', gs, dr, tk', os⟩)
    (Hix : R = .index → ∀ h' e x tk', (x.cls = .type "IndexError" ∧ x.ctx = .none) → Thrown h outer e x h' → E (.ref e) ⟨h', gs, dr, tk', os⟩)
    (Hdec : ∀ m, R = .dec m → ∀ h' e x t1 t2 tk', IsDec h h' e x (.str m t1) (.bytes o.toArray t2) → Thrown h outer e x h' → E (.ref e) ⟨h', gs, dr, tk', os⟩) :
    wpAny (model pw w) A (call (.ref 1750) [.bytes o.toArray t1, .int st t2]) Q E ⟨h, gs, dr, tk, os⟩ := by
  refine x_enter B (by omega) (by rfl) (by rfl) (by rfl) (by rfl) (by rfl) (binds := [(Str.ofString "rlp", _), (Str.ofString "start", _)]) (by rfl) (locs (by rfl)) (by rfl) (by rfl) (by rfl) (by decide) ?_
  intro h₁ L tk' _ F N
  have hh' : (A.deeper (envOf (Str.ofString "consume_item") (fdS (sAt 37)) L 1750 (Value.ref 1749))).handled = none := hh
  have hdd : (A.deeper (envOf (Str.ofString "consume_item") (fdS (sAt 37)) L 1750 (Value.ref 1749))).depth = A.depth + 1 := rfl
  show wpAny _ _ (execs (fdB (sAt 37)) _) _ _ _
  refine wpAny_execs_cons ?_
  repeat' tb_start
  rw [itemF] at hR
  refine clp_call (B.keeps F.keep) (K.push F rfl) (by omega) hh' ho hs (fun pre ty len' st' hclp h₃ u3 s1 s2 s3 s4 tk₃ k₃ hu3 hg3 => ?_) (fun hclp h₃ e x tk₃ hx T => ?_) (fun m hclp h₃ e x s1 s2 tk₃ hX T => ?_)
  · rw [hclp] at hR
    dsimp only at hR
    obtain ⟨q1, q2, q3, q4, q5, q6, q7⟩ := clp_sane hs hclp
    replace N := news_adds F N k₃ (.one hu3 hg3)
    replace F := F.keeps k₃
    repeat' tb_start
    refine pay_call hN₁ f (B.keeps F.keep) (K.push F rfl) (by omega) hh' ho (by omega) (by omega) q2 (q6.elim (fun q => .inl q.1) fun q => .inr q.1) _ hR hnd (fun t r e hpay h₄ u4 tk₄ hI => ?_) (fun hpay h₄ e x tk₄ hx T => ?_) (fun m hpay h₄ e x s5 s6 tk₄ hX T => ?_)
    · obtain ⟨v4, r4, vs4, n4, s7, s8, T4, k₄, X4, R4⟩ := hI
      exact Hok _ _ _ hpay _ _ _ ⟨v4, r4, vs4, n4, s7, s8, T4, Ke.trans F.keep k₄, X4.before F.keep, R4⟩
    · exact leave_thrown K F T fun h'' T' u => Hix hpay _ _ _ _ hx T'
    · exact leave_thrown K F T fun h'' T' u => Hdec m hpay _ _ _ _ _ _ ((hX.upTo u).down F.keep) T'
  · rw [hclp] at hR
    exact leave_thrown K F T fun h'' T' u => Hix hR.symm _ _ _ _ hx T'
  · rw [hclp] at hR
    exact leave_thrown K F T fun h'' T' u => Hdec m hR.symm _ _ _ _ _ _ ((hX.upTo u).down F.keep) T'
end
end

set_option hygiene true
theorem str_len_app (x y : Str) : (x ++ y).length = x.length + y.length := strLen_append x y
section
variable {prog : Program} {w : World} {A : Around} {E : Value → Shared → Prop} {gs : Array GenState} {dr : Drawn} {tk : Nat} {os : OsState} {h g : Heap} {L a : Addr} {mm : Str → Option Value} {news news' : List (Addr × Obj)} {Q : Value → Shared → Prop} {t u : Tok} {env : Env} {name : Str} {scope : Scope} {cd : Value}
theorem x_lenb {x : List UInt8} (hfit : x.length ≤ 1099511627776) (H : ∀ t' tk', Q (.int (x.length : Int) t') ⟨h, gs, dr, tk', os⟩) : wpAny (model prog w) A (call (.builtin "len") [.bytes x.toArray t]) Q E ⟨h, gs, dr, tk, os⟩ :=
  KBw.len_K (s := ⟨h, gs, dr, tk, os⟩) (ks := KBw.bInts x.toArray) rfl (by rw [KBw.ints_length]; simpa using hfit) (by rw [KBw.ints_length]; exact H _ _)
/-! f-strings -/
/-- a text of at most n thousand letters -/
def Sm (n : Nat) (x : Str) : Prop := x.length ≤ n * 1000
theorem sm_app {n m : Nat} {x y : Str} (a : Sm n x) (b : Sm m y) : Sm (n + m) (x ++ y) := by
  unfold Sm at *
  rw [str_len_app]
  omega
theorem sm_of {x : Str} (h : x.length ≤ 1000) : Sm 1 x := by unfold Sm; omega
theorem sm_int {i : Int} (hi : i.natAbs < 2 ^ 70) : Sm 1 (Str.ofString (toString i)) := by
  have hl : i.natAbs.log2 < 70 := by
    by_cases h0 : i.natAbs = 0
    · rw [h0]; decide
    · exact (Nat.log2_lt h0).mpr hi
  have h1 := int_text_length_le (k := 70) (by decide) hl
  refine sm_of ?_
  rw [PySem.ofString_length]
  omega
abbrev Short (x : Str) : Prop := ∃ n, Sm n x ∧ n ≤ 10000
theorem short_of {n : Nat} {x : Str} (a : Sm n x) (b : n ≤ 10000) : Short x := ⟨n, a, b⟩
theorem Short.le {x : Str} (h : Short x) : x.length ≤ 10000000 := by
  obtain ⟨n, h1, h2⟩ := h
  unfold Sm at h1
  omega
theorem Short.app {x y : Str} (h : Short x) (k : Sm 1 y) : (x ++ y).length ≤ 16777216 := by
  have := h.le
  unfold Sm at k
  rw [str_len_app]
  omega
def FmtQ (prog : Program) (w : World) (A : Around) (E Q : Value → Shared → Prop) (out : Str) (rest : List (Sem Value)) (v : Value) (s : Shared) : Prop :=
  wpAny (model prog w) A (formatField v Str.empty) (fun v s₁ => match v with | .str y _ => (out ++ y).length ≤ sizeLine ∧ wpAny (model prog w) A (joinParts (out ++ y) rest) Q E s₁ | _ => False) E s
theorem x_jp_str {out x : Str} {k : Nat} {pos : Pos} {rest : List (Sem Value)} (hz : Short out) (hx : x.length ≤ 1000) (H : ∀ tk', wpAny (model prog w) A (joinParts (out ++ x) rest) Q E ⟨h, gs, dr, tk', os⟩) :
    wpAny (model prog w) A (joinParts out (eval (.Constant (.str x) k pos) env :: rest)) Q E ⟨h, gs, dr, tk, os⟩ := joinParts_cons (x_str fun t tk' => ⟨hz.app (sm_of hx), H tk'⟩)
theorem x_jp_fmt {out : Str} {value : Expr} {pos : Pos} {rest : List (Sem Value)} (H : wpAny (model prog w) A (eval value env) (FmtQ prog w A E Q out rest) E ⟨h, gs, dr, tk, os⟩) :
    wpAny (model prog w) A (joinParts out (eval (.FormattedValue value (-1) none pos) env :: rest)) Q E ⟨h, gs, dr, tk, os⟩ := joinParts_cons (FormattedValue_plain H)
theorem x_fmt_int {out : Str} {rest : List (Sem Value)} {i : Int} (hi : i.natAbs < 2 ^ 70) (hz : Short out) (H : ∀ tk', wpAny (model prog w) A (joinParts (out ++ Str.ofString (toString i)) rest) Q E ⟨h, gs, dr, tk', os⟩) :
    FmtQ prog w A E Q out rest (.int i t) ⟨h, gs, dr, tk, os⟩ := by
  have hl : i.natAbs.log2 < 70 := by
    by_cases h0 : i.natAbs = 0
    · rw [h0]; decide
    · exact (Nat.log2_lt h0).mpr hi
  refine formatField_int_small (Nat.lt_trans hl (by decide)) ⟨hz.app (sm_int hi), H _⟩
theorem x_jp_end {out : Str} (hz : Short out) (H : ∀ t tk', Q (.str out t) ⟨h, gs, dr, tk', os⟩) : wpAny (model prog w) A (joinParts out []) Q E ⟨h, gs, dr, tk, os⟩ := joinParts_nil (H _ _) (Nat.le_trans hz.le (by decide))
/-- len(x) -/
theorem x_load_free (F : Fr g L h mm) : Fr g L h mm := F
end
local macro_rules | `(tactic| tb_rel) => `(tactic| first
  | ((with_reducible refine' sm_app ?a ?b); (case a => tb_rel); (case b => tb_rel))
  | ((with_reducible refine sm_int ?_); omega)
  | ((with_reducible refine sm_of ?_); decide +kernel))
local macro_rules | `(tactic| tb_rel) => `(tactic| ((with_reducible refine' short_of ?a ?b); (case a => tb_rel); (case b => decide)))
set_option hygiene false
local macro_rules | `(tactic| tb_start) => `(tactic| first
  | ((with_reducible refine' g_isTrue ?_); ((with_reducible refine' isTrue_plain ?_ ?he); (case he => rfl)))
  | ((with_reducible refine' g_eval ?_); (with_reducible refine' JoinedStr_many ?_); dsimp only [evalEach])
  | (with_reducible refine' x_jp_fmt ?_)
  | ((with_reducible refine' x_jp_str ?hz ?hx ?_); (case hz => tb_rel); (case hx => decide +kernel); intro _)
  | ((with_reducible refine' x_jp_end ?hz ?_); (case hz => tb_rel); intro _ _)
  | ((with_reducible refine' x_fmt_int ?hi ?hz ?_); (case hi => omega); (case hz => tb_rel); intro _)
  | ((with_reducible refine' g_call ?_); (with_reducible refine' x_lenb ?hz ?_); (case hz => omega); intro _ _)
  | ((with_reducible refine' g_cmp ?_); (with_reducible refine' x_ne ?_))
  | (fail "no step"))

section
inductive DR where
  | ok (t : Tr)
  | dec (m : Str)
/-- the words for octets too many, as the f-string lays them -/
def superfl (k : Int) : Str := Str.empty ++ Str.ofString "RLP string ends with " ++ Str.ofString (toString k) ++ Str.ofString " superfluous bytes"
def rawF (R : IR) (len : Int) (strict : Bool) : DR := match R with
  | .ok t _ e => if (e != len) = true then (if strict then .dec (superfl (len - e)) else .ok t) else .ok t
  | .index => .dec "RLP string too short"
  | .dec m => .dec m
  | .deep => .dec ""
def RawOk (h h' : Heap) (u : Addr) (t : Tr) : Prop := ∃ v r T, Ke h h' ∧ New h h' ((u, tob [v, r]) :: T) ∧ Rep T v t
section
variable {w : World} {A : Around} {E : Value → Shared → Prop} {gs : Array GenState} {dr : Drawn} {tk : Nat} {os : OsState} {h hb : Heap} {outer : List Env} {Q : Value → Shared → Prop}
theorem raw_call {N₁ f : Nat} (hN₁ : N₁ ≤ 1500) {o : List UInt8} {strict : Bool} {v3 : Value} {t1 : Tok} (B₀ : Base w hb) (K : Below A hb outer h) (hd : A.depth + f + 5 < recursionLimit) (hh : A.handled = none)
    (ho : o.length ≤ 10000) (R : IR) (hR : itemF o N₁ (f + 1) 0 = R) (hnd : R ≠ .deep)
    (Hok : ∀ t, rawF R o.length strict = .ok t → ∀ h' u tk', RawOk h h' u t → Q (.ref u) ⟨h', gs, dr, tk', os⟩)
    (Hdec : ∀ m, rawF R o.length strict = .dec m → ∀ h' e x t1 t2 tk', IsDec h h' e x (.str m t1) (.bytes o.toArray t2) → Thrown h outer e x h' → E (.ref e) ⟨h', gs, dr, tk', os⟩) :
    wpAny (model pw w) A (call (.ref 1714) [.bytes o.toArray t1, .bool strict, v3]) Q E ⟨h, gs, dr, tk, os⟩ := by
  have B := base_below B₀ K
  refine x_enter B (by omega) (by rfl) (by rfl) (by rfl) (by rfl) (by rfl) (binds := [(Str.ofString "item", _), (Str.ofString "strict", _), (Str.ofString "_", _)]) (by rfl) (locs (by rfl)) (by rfl) (by rfl) (by rfl) (by decide) ?_
  intro h₁ L tk' _ F N
  have hh' : (A.deeper (envOf (Str.ofString "decode_raw") (fdS (sAt 30)) L 1714 (Value.ref 1713))).handled = none := hh
  have hdd : (A.deeper (envOf (Str.ofString "decode_raw") (fdS (sAt 30)) L 1714 (Value.ref 1713))).depth = A.depth + 1 := rfl
  show wpAny _ _ (execs (fdB (sAt 30)) _) _ _ _
  refine wpAny_execs_cons ?_
  refine wpAny_Try_except ?_
  repeat' tb_start
  have hsn := item_sane o N₁ (f + 1) 0 (Int.le_refl 0)
  refine item_call hN₁ (B.keeps F.keep) (K.push F rfl) (by omega) hh' ho (Int.le_refl 0) R hR hnd (fun t r e hit h₄ u4 tk₄ hI => ?_) (fun hix h₄ e x tk₄ hx T => ?_) (fun m hdec h₄ e x s5 s6 tk₄ hX T => ?_)
  · obtain ⟨v4, r4, vs4, n4, s7, s8, T4, k₄, X4, R4⟩ := hI
    rw [hR, hit] at hsn
    obtain ⟨z1, z2, z3, z4, z5⟩ := hsn
    replace N := news_adds F N k₄ X4
    replace F := F.keeps k₄
    repeat' tb_start
    · refine dec_leave K F B rfl (by omega) fun h'' e' x tk' X T => Hdec _ ?_ h'' e' x _ _ tk' X T
      rw [hit, rawF, if_pos (by assumption), if_pos (by assumption)]
      rfl
    · refine Hok t ?_ _ _ _ ⟨v4, .ref r4, _, F.keep, New.sub (New.of_news N) ?_, R4⟩
      · rw [hit, rawF, if_pos (by assumption), if_neg (by simp_all)]
      · exact fun p hp => (List.mem_cons.mp hp).elim (fun h => h ▸ .head _) fun hp => .tail _ (.tail _ (.tail _ (List.mem_append_left _ hp)))
    · refine Hok t ?_ _ _ _ ⟨v4, .ref r4, _, F.keep, New.sub (New.of_news N) ?_, R4⟩
      · rw [hit, rawF, if_neg (by simp_all)]
      · exact fun p hp => (List.mem_cons.mp hp).elim (fun h => h ▸ .head _) fun hp => .tail _ (.tail _ (.tail _ (List.mem_append_left _ hp)))
  · refine land (Around.frames_deeper K.stack) rfl T.1 fun h₅ X₅ u₅ => ?_
    obtain ⟨oe, vs, he, hec, hedi, hed, he0, he2, hen⟩ := fly_obj X₅
    obtain ⟨g5, kp5, hdom5, K5, F5, N5⟩ := reground K F N ⟨X₅.1, T.2.trans u₅⟩ (New.one hen he)
    have B5 := base_below B₀ K5
    refine clause_yes (c := .type "IndexError") X₅ (fun hq => x_blt F5 B5 (by rfl) bt_IndexError (by rfl) (by rfl) (by decide) (by decide) hq)
      (fun hq => wpAny_excMatches_type (X := "IndexError") ⟨oe, he, hec.trans hx.1⟩ PySem.F.isExc_IndexError PySem.F.notTuple_IndexError (by rw [isSubtype_type]; kernel_rfl) hq) fun h₆ X₆ u₆ => ?_
    obtain ⟨oe, vs, he, hec, hedi, hed, he0, he2, hen⟩ := fly_obj X₆
    obtain ⟨g6, kp6, hdom6, K6, F6, N6⟩ := reground K F N ⟨X₆.1, (T.2.trans u₅).trans u₆⟩ (New.one hen he)
    have B6 := base_below B₀ K6
    replace F := F6
    replace N := N6
    refine wpAny_execs_cons ?_
    refine x_raise_in (e := e) rfl ?_
    replace B := B6
    repeat' tb_start
    rename_i tm _
    refine ⟨B.keeps F.keep, dec_new (B.keeps F.keep) (by show A.depth + 1 + 1 < _; omega) fun h₇ e1 D ta tk₇ k1 k2 k3 k4 k5 k6 k7 => ⟨e1, ta, D, oe, vs, rfl, (B.keeps F.keep).keeps k1, k3, ?_, ?_, hed, by rw [he2, hx.2], fun h₈ k8 X8 => ?_⟩⟩
    · intro q
      subst q
      rw [N.get (.head _)] at k2
      cases k2
    · exact k1 _ _ (N.get (.head _))
    · have k18 : Ke _ h₈ := fun b o q => (k8 b fun z => by rw [z, k2] at q; cases q).trans (k1 b o q)
      refine mark_leave K6 F (fly_made K6 F rfl k18 k2 X8) (.inl rfl) (Heap.UpToSlots.of_keeps k18) fun h₉ T9 u9 => ?_
      have hta : ta ≠ e1 := fun q => by rw [q, k3] at k4; cases k4
      have hD : D ≠ e1 := fun q => by
        obtain ⟨o, es, ep, q1, q2, _⟩ := k5
        rw [q, k3] at q1
        cases q1
        cases q2
      have ID : IsDec h h₉ e1 ⟨.ref 74, .ref ta, some D, .ref e⟩ (.str "RLP string too short" tm) (.bytes o.toArray t1) :=
        IsDec.upTo (h := h₈) ⟨rfl, D, ta, rfl, rfl, ⟨_, 0, (k8 ta hta).trans k4, rfl, rfl⟩, k5.at fun o q => (k8 D hD).trans q, (hdom6 _).mp (fresh1 F.keep k6), (hdom6 _).mp (fresh1 F.keep k7)⟩ u9
      exact Hdec "RLP string too short" (by rw [hix]; rfl) h₉ e1 _ _ _ _ ID (thrown_ground kp6 T9)
  · refine land (Around.frames_deeper K.stack) rfl T.1 fun h₅ X₅ u₅ => ?_
    obtain ⟨oe, vs, he, hec, hedi, hed, he0, he2, hen⟩ := fly_obj X₅
    obtain ⟨g5, kp5, hdom5, K5, F5, N5⟩ := reground K F N ⟨X₅.1, T.2.trans u₅⟩ (New.one hen he)
    have B5 := base_below B₀ K5
    refine clause_no (c := .type "IndexError") (fun hq => x_blt F5 B5 (by rfl) bt_IndexError (by rfl) (by rfl) (by decide) (by decide) hq)
      (fun hq => wpAny_excMatches_sub_type (c74 (B5.keeps F5.keep)) he (hec.trans hX.1) PySem.F.isExc_IndexError PySem.F.notTuple_IndexError hq) ?_
    refine clause_end (L := L) rfl X₅ fun h₆ X₆ u₆ => ?_
    refine fly_leave (Around.frames_deeper K.stack) rfl X₆ (.inr rfl) fun h₇ X₇ u₇ => ?_
    exact Hdec m (by rw [hdec]; rfl) h₇ e x _ _ _ (((hX.upTo u₅).upTo (u₆.trans u₇)).down F.keep) ⟨X₇.weaken (hide_in F rfl), (Heap.UpToSlots.of_keeps F.keep).trans (T.2.trans (u₅.trans (u₆.trans u₇)))⟩
end
end

set_option hygiene true
section
variable {w : World} {A : Around} {E : Value → Shared → Prop} {gs : Array GenState} {dr : Drawn} {tk : Nat} {os : OsState} {h g : Heap} {L a : Addr} {mm : Str → Option Value} {Q : Value → Shared → Prop} {name : Str} {scope : Scope} {cd : Value}
/-- entry of a def with defaults, or called with keywords -/
theorem x_enterD {params : Arguments} {body : List Stmt} {dV kwdV : Value} {ann : Option Addr} {pm doc : Value} {f c : Addr} {o oc : Obj} {vs : Array Value} {tq : Tok} {vals : List Value} {kw : List (Str × Value)} {binds : List (Str × Value)}
    (B : Base w h) (hdep : A.depth < recursionLimit) (ho : (objs w.params).lookup f = some o) (hdat : o.data = .func (defFd name name params body scope mainGlobals dV kwdV ann pm (.ref c) doc))
    (hc : (objs w.params).lookup c = some oc) (hcd : oc.data = .fields vs) (hq : vs[1]? = some (.str name tq))
    (hbind : ∀ S, peek (objs w.params) S (bindArgs (defFd name name params body scope mainGlobals dV kwdV ann pm (.ref c) doc) ⟨vals, kw⟩) = some binds)
    (hloc : ∀ x ∈ binds, scope.names.lookup x.1 = some .local) (hco : scope.isCoroutine = false) (hgen : scope.isGenerator = false) (hk : scope.kind = .function) (hcell : ∀ x ∈ scope.names, x.2 ≠ .cell)
    (H : ∀ h₁ L tk', L = h.objs.size → Fr h L h₁ (look binds.reverse) → News h L h₁ [] →
      wpAny (model pw w) (A.deeper (envOf name scope L f (.ref c))) (execs body (envOf name scope L f (.ref c))) (fun fl s' => Q (match fl with | .ret v => v | _ => .none) s')
        (fun e s' => wpAny (model pw w) (A.deeper (envOf name scope L f (.ref c))) (leaving (envOf name scope L f (.ref c)) e) (fun _ s'' => E e s'') (fun e' s'' => E e' s'') s') ⟨h₁, gs, dr, tk', os⟩) :
    wpAny (model pw w) A (call (.ref f) vals kw) Q E ⟨h, gs, dr, tk, os⟩ :=
  wpAny_call (codeAny_call_def (s := ⟨h, gs, dr, tk, os⟩) hdep (B.get ho) hdat B.nolimit ⟨c, oc, vs, tq, rfl, B.get hc, hcd, hq⟩ rfl (kp_binds B.inK hbind) hcell hloc (fun h₁ hns hkeep => wpAny_mono (H h₁ _ _ rfl ⟨hns, hkeep, Nat.le_refl _⟩ News.nil) (fun fl s' x => by cases fl <;> exact x) fun _ _ x => x) hco hgen hk)
def CalledKw (w : World) (A : Around) (E : Value → Shared → Prop) (f : Addr) (Q : Value → Shared → Prop) (ks : List Str) (vs : List Value) (us : List Value) (s : Shared) : Prop := Base w s.heap ∧ wpAny (model pw w) A (call (.ref f) vs (ks.zip us)) Q E s
theorem x_callkw {x : Str} {np pos : Pos} {e : Expr} {rest : List Expr} {kwd : Keyword} {kws : List Keyword} {ks : List Str} {f : Addr} (F : Fr g L h mm) (B : Base w g) (hv : globs.lookup x = some (.ref f)) (hk : scope.kind = .function) (hl : scope.names.lookup x = some .globalImplicit)
    (hd : (x == ("__debug__" : Str)) = false) (hf : keepIn (objs w.params) (.ref f) = true) (hall : (backToKw pos (keywordEach (kwd :: kws) (envOf name scope L a cd))).all (·.1.isSome) = true) (hks : (backToKw pos (keywordEach (kwd :: kws) (envOf name scope L a cd))).filterMap (·.1) = ks)
    (hplain : ((backTo pos (starEach (e :: rest) (envOf name scope L a cd))).any (·.1) || (backToKw pos (keywordEach (kwd :: kws) (envOf name scope L a cd))).any (·.1.isNone)) = false) (he : starEach (e :: rest) (envOf name scope L a cd) = (false, eval e (envOf name scope L a cd)) :: starEach rest (envOf name scope L a cd))
    (H : wpAny (model pw w) A (spliced (backTo pos (starEach (e :: rest) (envOf name scope L a cd)))) (fun vs s₁ => wpAny (model pw w) A (evalAll ((backToKw pos (keywordEach (kwd :: kws) (envOf name scope L a cd))).map (·.2))) (CalledKw w A E f Q ks vs) E s₁) E ⟨h, gs, dr, tk, os⟩) :
    wpAny (model pw w) A (eval (.Call (.Name x np) (e :: rest) (kwd :: kws) pos) (envOf name scope L a cd)) Q E ⟨h, gs, dr, tk, os⟩ := by
  refine wpAny_Call_ofName (x_glob F B hv hk hl hd ?_)
  refine callWith_KW (h₀ := g) B.inK hf hall (wpAny_mono H (fun vs s₁ h₁ => wpAny_mono h₁ (fun us s₂ h₂ => ?_) fun _ _ x => x) fun _ _ x => x) hplain he
  subst hks
  exact ⟨h₂.1.inK, h₂.2⟩
theorem x_calledkw {f : Addr} {ks : List Str} {vs us : List Value} (F : Fr g L h mm) (B : Base w g) (H : wpAny (model pw w) A (call (.ref f) vs (ks.zip us)) Q E ⟨h, gs, dr, tk, os⟩) : CalledKw w A E f Q ks vs us ⟨h, gs, dr, tk, os⟩ := ⟨B.keeps F.keep, H⟩
end
set_option hygiene false
local macro_rules | `(tactic| tb_start) => `(tactic| first
  | ((with_reducible refine' g_eval ?_); first
    | ((with_reducible refine' x_callkw ?F ?B ?hv ?hk ?hl ?hd ?hf ?hall ?hks ?hp ?he ?_); (case F => exact F); (case B => assumption); (case hv => rfl); (case hk => rfl); (case hl => rfl); (case hd => decide); (case hf => rfl); (case hall => rfl); (case hks => rfl); (case hp => rfl); (case he => rfl)))
  | (with_reducible refine' kws_nil ?_)
  | (with_reducible refine' kws_cons ?_)
  | ((with_reducible refine' x_calledkw ?F ?B ?_); (case F => exact F); (case B => assumption))
  | (fail "no step"))

set_option hygiene true
local macro_rules | `(tactic| tb_start) => `(tactic| first
  | ((with_reducible refine' g_isTrue ?_); (with_reducible refine' isTrue_not ?_))
  | (with_reducible refine' truthy_none ?_)
  | (fail "no step"))
section
variable {w : World} {A : Around} {E : Value → Shared → Prop} {gs : Array GenState} {dr : Drawn} {tk : Nat} {os : OsState} {h hb : Heap} {outer : List Env} {Q : Value → Shared → Prop}
/-- the locals of decode -/
abbrev decB (r sv : Value) (strict cb : Bool) : List (Str × Value) := [(Str.ofString "rlp", r), (Str.ofString "sedes", sv), (Str.ofString "strict", .bool strict), (Str.ofString "recursive_cache", .bool cb)]
abbrev decFd (pm : Value) : FuncData := defFd "decode" "decode" (fdA (sAt 38)) (fdB (sAt 38)) (fdS (sAt 38)) mainGlobals (.ref 1751) .none none pm (.ref 1757) .none
theorem decode_call {N₁ f : Nat} (hN₁ : N₁ ≤ 1500) {o : List UInt8} {strict cb : Bool} {t1 : Tok} {vals : List Value} {kw : List (Str × Value)} (B₀ : Base w hb) (K : Below A hb outer h) (hd : A.depth + f + 6 < recursionLimit) (hh : A.handled = none)
    (hbind : ∀ pm S, peek (objs w.params) S (bindArgs (decFd pm) ⟨vals, kw⟩) = some (decB (.bytes o.toArray t1) .none strict cb))
    (ho : o.length ≤ 10000) (R : IR) (hR : itemF o N₁ (f + 1) 0 = R) (hnd : R ≠ .deep)
    (Hok : ∀ t, rawF R o.length strict = .ok t → ∀ h' v T tk', Ke h h' → New h h' T → Rep T v t → Q v ⟨h', gs, dr, tk', os⟩)
    (Hdec : ∀ m, rawF R o.length strict = .dec m → ∀ h' e x t1 t2 tk', IsDec h h' e x (.str m t1) (.bytes o.toArray t2) → Thrown h outer e x h' → E (.ref e) ⟨h', gs, dr, tk', os⟩) :
    wpAny (model pw w) A (call (.ref 1758) vals kw) Q E ⟨h, gs, dr, tk, os⟩ := by
  have B := base_below B₀ K
  refine x_enterD B (by omega) (by rfl) (by rfl) (by rfl) (by rfl) (by rfl) (binds := decB (.bytes o.toArray t1) .none strict cb) (hbind _) (locs (by rfl)) (by rfl) (by rfl) (by rfl) (by decide) ?_
  intro h₁ L tk' _ F N
  have hh' : (A.deeper (envOf (Str.ofString "decode") (fdS (sAt 38)) L 1758 (Value.ref 1757))).handled = none := hh
  have hdd : (A.deeper (envOf (Str.ofString "decode") (fdS (sAt 38)) L 1758 (Value.ref 1757))).depth = A.depth + 1 := rfl
  show wpAny _ _ (execs (fdB (sAt 38)) _) _ _ _
  refine wpAny_execs_cons ?_
  repeat' tb_start
  refine is_bytes_call (B.keeps F.keep) (by omega) fun h₂ tk₂ k₂ => ?_
  replace N := news_ke N k₂
  replace F := F.keeps k₂
  repeat' tb_start
  · exact absurd ‹(!true) = true› (by decide)
  refine raw_call hN₁ B₀ (K.push F rfl) (by omega) hh' ho R hR hnd (fun t hr h₃ u3 tk₃ X => ?_) (fun m hr h₃ e x s1 s2 tk₃ hX T => ?_)
  · obtain ⟨v3, r3, T3, k₃, X3, R3⟩ := X
    replace N := news_adds F N k₃ X3
    replace F := F.keeps k₃
    repeat' tb_start
    exact Hok t hr _ _ _ _ F.keep (New.sub (New.of_news N) fun p hp => .tail _ (List.mem_append_left _ hp)) R3
  · exact leave_thrown K F T fun h'' T' u => Hdec m hr _ _ _ _ _ _ ((hX.upTo u).down F.keep) T'
end

set_option hygiene true
theorem lookIn_of {h : Heap} {D : Addr} {m : Str → Option Value} {name : Str} {v : Value} (hn : h.Ns D m) (hm : m name = some v) : ∃ od, h.get? D = some od ∧ lookIn name od = some (some v) := by
  obtain ⟨o, es, ep, h1, h2, h3, h4⟩ := hn
  refine ⟨o, h1, ?_⟩
  have := h4 name
  rw [hm] at this
  unfold nsFind findBy at this
  unfold lookIn
  rw [h2]
  dsimp only
  obtain ⟨l⟩ := es
  rw [List.find?_toArray] at this
  cases q : l.find? (fun e => e.key.isStr name) with
  | none => rw [q] at this; cases this
  | some e => rw [q] at this; cases this; rfl
section
variable {w : World} {A : Around} {E : Value → Shared → Prop} {h : Heap} {gs : Array GenState} {dr : Drawn} {tk : Nat} {os : OsState} {e D : Addr} {oe : Obj}
theorem ga74 {P : Params} : findIn (objs P) (.ref 74) "__getattribute__" = some (some (.builtin "BaseException.__getattribute__")) := by rfl
theorem exc_attr {m : Str → Option Value} {v : Value} {expr : Bool} {Q : Value → Shared → Prop} (B : Base w h) (he : h.get? e = some oe) (hc : oe.cls = .ref 74) (hd : oe.dict = some D) (hno : notCls oe = true) (hn : h.Ns D m) (hm : m (Str.ofString "rlp") = some v)
    (hh : handedIn v = true) (H : ∀ tk', Q v ⟨h, gs, dr, tk', os⟩) : wpAny (model pw w) A (getAttr (.ref e) (Str.ofString "rlp") expr) Q E ⟨h, gs, dr, tk, os⟩ := by
  obtain ⟨od, ho, hl⟩ := lookIn_of hn hm
  have I : InstAt h e oe 74 (some od) := ⟨he, hc, hno, by rw [hd]; exact ho⟩
  unfold getAttr
  refine wpAny_bind (wpAny_mkText ?_)
  have hf : findObj (objs w.params) 74 (some od) (Str.ofString "rlp") = some (.value v) := by
    show (W.ownOf _ (some od) (Str.ofString "rlp")).bind _ = _
    unfold W.ownOf
    rw [if_pos (by rfl)]
    dsimp only
    rw [hl]
    rfl
  have L0 := I.type (M := model pw w)
  have L1 := looks_findIn (M := model pw w) B.inK (ga74 (P := w.params))
  have L2 := looks_findIn (M := model pw w) B.inK (show findIn (objs w.params) (.ref 74) "__getattr__" = some none by rfl)
  have L3 := looks_find (M := model pw w) B.inK I hf
  unfold getAttrBy
  refine wpAny_holding (wpAny_bind (L0.at (wpAny_bind (L1.at ?_))))
  show wpAny _ _ (getAttrByItsOwn _ _ _ _ _ _) _ _ _
  unfold getAttrByItsOwn hookBefore callGetattribute
  rw [show onTheHeap (Value.ref 74) = true from rfl, if_pos rfl]
  refine wpAny_bind (L2.at (wpAny_bind (wpAny_attempt (wpAny_holding ?_))))
  rw [show (expr && onTheHeap (Value.builtin "BaseException.__getattribute__")) = false by cases expr <;> rfl, if_neg (by decide)]
  unfold boundAndCalled
  refine wpAny_bind (wpAny_of_eq (PySem.F.attr_Exception.ga.bind (.ref e)) ?_)
  refine wpAny_call (codeAny_call_builtin (id := "BaseException.__getattribute__") (by decide +kernel) PySem.F.entry_bexc_ga (check_slot (i := "BaseException.__getattribute__") (owner := "BaseException") (n := "__getattribute__") (by decide +kernel) (by decide +kernel) (L0.andThen (looks_mroIn (K := objs w.params) B.inK (by rfl))) (PySem.F.args_bexc_ga _ _) ?_))
  unfold Builtin.«object.__getattribute__»
  refine wpAny_bind (wpAny_pure (wpAny_bind (wpAny_pure (wpAny_bind (L0.at (wpAny_bind (L3.at (wpAny_pure ?_))))))))
  show wpAny _ _ (handedOut v) _ _ _
  rw [handedOut_of hh]
  exact wpAny_pure (H _)
open Builtin Builtin.BaseException in
theorem call_excstr {prog : Program} {w' : World} {ta : Addr} {m : Str} {t : Tok} {vs : Array Value} {Q : Value → Shared → Prop} (B : Base w h) (he : h.get? e = some oe) (hc : oe.cls = .ref 74) (hno : notCls oe = true) {od : Option Obj} (I : InstAt h e oe 74 od) (hd : oe.data = .fields vs) (h0 : vs[0]? = some (.ref ta)) (ht : h.TupAt ta [.str m t])
    (H : Q (.str m t) ⟨h, gs, dr, tk, os⟩) : wpAny (model prog w') A (call (.builtin "BaseException.__str__") [.ref e]) Q E ⟨h, gs, dr, tk, os⟩ := by
  have hargs : ∀ {M : Model} {A : Around} {E : Value → Shared → Prop} {Q : Value × List Value → Shared → Prop}, Q (.ref ta, [.str m t]) ⟨h, gs, dr, tk, os⟩ → wpAny M A (bexcArgs (.ref e)) Q E ⟨h, gs, dr, tk, os⟩ := by
    intro M A E Q hq
    obtain ⟨ot, k, hto, _, htd⟩ := ht
    unfold bexcArgs
    refine wpAny_bind (wpAny_field (s := ⟨h, gs, dr, tk, os⟩) he hd h0 (wpAny_bind (wpAny_seqItems (s := ⟨h, gs, dr, tk, os⟩) hto htd ?_)))
    exact wpAny_pure hq
  refine wpAny_call (codeAny_call_builtin (id := "BaseException.__str__") (by decide +kernel) PySem.F.entry_bexc_str (check_slot (i := "BaseException.__str__") (owner := "BaseException") (n := "__str__") (by decide +kernel) (by decide +kernel) (I.type.andThen (looks_mroIn (K := objs w.params) B.inK (by rfl))) (PySem.F.args_bexc_str _) ?_))
  unfold Builtin.«BaseException.__str__»
  repeat (first | with_reducible refine hargs ?_ | wp_step)
  exact H
theorem str_exc {ta : Addr} {m : Str} {t : Tok} {vs : Array Value} {Q : Value → Shared → Prop} (hu : A.units + 2 < cLine) (B : Base w h) (he : h.get? e = some oe) (hc : oe.cls = .ref 74) (hno : notCls oe = true) {od : Option Obj} (I : InstAt h e oe 74 od) (hd : oe.data = .fields vs) (h0 : vs[0]? = some (.ref ta)) (ht : h.TupAt ta [.str m t])
    (H : Q (.str m t) ⟨h, gs, dr, tk, os⟩) : wpAny (model pw w) A (call (.type "str") [.ref e]) Q E ⟨h, gs, dr, tk, os⟩ := by
  refine callType_new (S := fun A R s => s = ⟨h, gs, dr, tk, os⟩ ∧ A.units + 1 < cLine ∧ R (.ok (.ret (.str m t))) s) PySem.F.called_str (by decide) (PySem.F.typeCall_str_1 _) (PySem.F.newCall_str_1 _) (fun obj => PySem.F.args_object_init_2 obj _) PySem.F.entry_str_new
    (meets_str_new fun prog w' A' R s hs => ?_) ⟨rfl, by show A.units + 1 + 1 < cLine; omega, typeIs_str _ _ _, H⟩
  obtain ⟨rfl, hu', hR⟩ := hs
  unfold Builtin.Str.strOf
  rw [show Builtin.Str.isExactStr (.ref e) = false from rfl, if_neg (by decide)]
  refine wpAny_bind (wpAny_cRoomFor (by show A'.units + 1 < cLine; omega) ?_)
  refine wpAny_bind (m := callSpecial? (.ref e) (Str.ofString "__str__")) (kfo_special (K := objs w.params) B.inK I (by rfl) (PySem.F.excStr_Exception.str.bind) (call_excstr B he hc hno I hd h0 ht ?_))
  exact wpAny_pure hR
end
theorem x_beq_t {prog : Program} {w : World} {A : Around} {E : Value → Shared → Prop} {s : Shared} {b c : List UInt8} {t u : Tok} {Q : Value → Shared → Prop} (e : (b == c) = true) (H : Q (.bool true) s) : wpAny (model prog w) A (compareOp .Eq (.bytes b.toArray t) (.bytes c.toArray u)) Q E s := x_beq (by rw [e]; exact H)
set_option hygiene false
local macro_rules | `(tactic| tb_start) => `(tactic| first
  | ((with_reducible refine' g_eval ?_); first
    | (with_reducible refine' wpAny_IfExp ?_)
    | ((with_reducible refine' Attribute_Name_ ?_ ?he); (case he => rfl)))
  | ((with_reducible refine' g_cmp ?_); (with_reducible refine' x_beq_t ?e ?_); (case e => with_reducible exact beq_self_eq_true (α := List UInt8) _))
  | (fail "no step"))

set_option hygiene true
section
variable {prog : Program} {w : World} {A : Around} {E : Value → Shared → Prop} {gs : Array GenState} {dr : Drawn} {tk : Nat} {os : OsState} {h g : Heap} {L D : Addr} {mm : Str → Option Value} {news news' : Ledger} {Q : Value → Shared → Prop} {t u : Tok} {vs : List Value} {n : Nat} {i : Int} {x : Value} {value slice : Expr}
theorem isl_of (hg : h.get? D = some (lob vs n)) : Heap.IsList h D vs.toArray := ⟨_, hg, rfl, n, rfl⟩
theorem x_lenl (hg : h.get? D = some (lob vs n)) (hz : vs.length ≤ 1000000) (H : ∀ t' tk', Q (.int (vs.length : Int) t') ⟨h, gs, dr, tk', os⟩) : wpAny (model prog w) A (call (.builtin "len") [.ref D]) Q E ⟨h, gs, dr, tk, os⟩ :=
  len_list (s := ⟨h, gs, dr, tk, os⟩) (isl_of hg) (by rw [List.size_toArray]; omega) (by rw [List.size_toArray]; exact H _ _)
/-- an item of a list, within -/
theorem x_lget (hg : h.get? D = some (lob vs n)) (h0 : 0 ≤ i) (hfit : i < 1000000) (hx : vs[i.toNat]? = some x)
    (hs : subscripted slice false (.ref D) (.int i u) = operate [.ref D, .int i u] (getItem (.ref D) (.int i u))) (H : Q x ⟨h, gs, dr, tk, os⟩) :
    wpAny (model prog w) A (subscriptTail value slice (.ref D) (.int i u)) Q E ⟨h, gs, dr, tk, os⟩ := kba_turn (value' := .Name Str.empty default) (fun _ => rfl) (x_litem (items := vs) hg h0 (by omega) hx hs (fun _ => rfl) H)
theorem x_getl (hg : h.get? D = some (lob vs n)) (h0 : 0 ≤ i) (hfit : i < 1000000) (hx : vs[i.toNat]? = some x) (H : Q x ⟨h, gs, dr, tk, os⟩) : wpAny (model prog w) A (getItem (.ref D) (.int i u)) Q E ⟨h, gs, dr, tk, os⟩ :=
  wpAny_getItem_list (s := ⟨h, gs, dr, tk, os⟩) (isl_of hg) h0 (by omega) (by simpa using hx) H
theorem x_setl {Q : Unit → Shared → Prop} (F : Fr g L h mm) (N : News g L h news) (hm : (D, lob vs n) ∈ news) (U : Upd D (lob vs n) (lob (vs.set i.toNat x) n) news news') (h0 : 0 ≤ i) (h1 : i < vs.length) (hfit : i < 1000000)
    (H : ∀ h', Fr g L h' mm → News g L h' news' → Q () ⟨h', gs, dr, tk, os⟩) : wpAny (model prog w) A (setItem (.ref D) (.int i u) x) Q E ⟨h, gs, dr, tk, os⟩ := by
  obtain ⟨pre, post, rfl, rfl, a, b⟩ := U.split
  have z := N (D, lob vs n) (List.mem_append.mpr (.inr (.head _)))
  refine ki_setAt (s := ⟨h, gs, dr, tk, os⟩) z.1 h0 (by omega) (by rw [List.size_toArray]; omega) (H _ (F.change (Heap.SameBut.update ..) z.2.1 z.2.2) (ki_turn _ N a b ?_ ?_))
  · apply Array.toList_inj.mp
    simp
  · simp
theorem x_iadd {i j : Int} (H : ∀ t' tk', Q (.int (i + j) t') ⟨h, gs, dr, tk', os⟩) : wpAny (model prog w) A (inplaceOp .Add (.int i t) (.int j u)) Q E ⟨h, gs, dr, tk, os⟩ := PyProof.Rows.iadd_int (H _ _)
theorem x_mod {i j : Int} (hj : j ≠ 0) (H : ∀ t' tk', Q (.int (i.fmod j) t') ⟨h, gs, dr, tk', os⟩) : wpAny (model prog w) A (binaryOp .Mod (.int i t) (.int j u)) Q E ⟨h, gs, dr, tk, os⟩ := PyProof.Rows.mod_int' hj (H _ _)
end
theorem ints_get : ∀ {vs : List Value} {ns : List Int}, IntsAre vs ns → ∀ i, i < ns.length → ∃ t, vs[i]? = some (.int (ns.getD i 0) t)
  | _, _, .cons n t r, 0, _ => ⟨t, rfl⟩
  | _, _, .cons n t r, i + 1, h => by
    obtain ⟨t', e⟩ := ints_get r i (by simpa using h)
    exact ⟨t', by simpa using e⟩
theorem hide1 {h : Heap} {S : Addr} : ∀ b o, (hideAll h [S]).get? b = some o → h.get? b = some o ∧ b ≠ S := fun b o q => ⟨of_hideAll _ q, fun e => by subst e; rw [hideAll_none _ (.head _)] at q; cases q⟩
theorem fr_hide {h h₁ : Heap} {L S : Addr} {mm : Str → Option Value} (F : Fr h L h₁ mm) : Fr (hideAll h [S]) L h₁ mm := ⟨F.ns, fun b o q => F.keep b o (hide1 b o q).1, by rw [hideAll_size]; exact F.above⟩
theorem base_hide {w : World} {h hb : Heap} {S : Addr} (B : Base w hb) (k : hb.StaysIn h) (hS : hb.get? S = none) : Base w (hideAll h [S]) := B.keeps fun b o q => hideAll_get _ (k b o q) fun hm => by
  rw [List.mem_singleton] at hm
  subst hm
  rw [hS] at q
  cases q
set_option hygiene false
local macro_rules | `(tactic| tb_start) => `(tactic| first
  | ((with_reducible refine' g_exec ?_); ((with_reducible refine' wpAny_AugAssign_Subscript_any ?_ ?ha); (case ha => intro _ _ _; rfl)))
  | ((with_reducible refine' g_bin ?_); ((with_reducible refine' x_mod ?hj ?_); (case hj => first | assumption | decide | omega); intro _ _))
  | ((with_reducible refine' x_iadd ?_); intro _ _)
  | ((with_reducible refine' g_call ?_); ((with_reducible refine' x_lenl ?hg ?hz ?_); (case hg => first | exact News.get N (by tb_rel) | exact Fr.keep F _ _ (by assumption)); (case hz => omega); intro _ _))
  | ((with_reducible refine' x_lget ?hg ?h0 ?hf ?hx ?hs ?_); (case hg => first | exact News.get N (by tb_rel) | exact Fr.keep F _ _ (by assumption)); (case h0 => first | decide | omega); (case hf => first | decide | omega); (case hx => first | assumption | rfl); (case hs => with_unfolding_all rfl))
  | ((with_reducible refine' x_getl ?hg ?h0 ?hf ?hx ?_); (case hg => first | exact News.get N (by tb_rel) | exact Fr.keep F _ _ (by assumption)); (case h0 => first | decide | omega); (case hf => first | decide | omega); (case hx => first | assumption | rfl))
  | ((with_reducible refine' x_setl ?F ?N ?hm ?U ?h0 ?h1 ?hf ?_); (case F => exact F); (case N => exact N); (case hm => tb_rel); (case U => tb_rel); (case h0 => first | decide | omega); (case h1 => simp; try omega); (case hf => first | decide | omega); (clear F N); intro _ F N)
  | (fail "no step"))

set_option hygiene true
section
variable {prog : Program} {w : World} {A : Around} {gs : Array GenState} {dr : Drawn} {tk : Nat} {os : OsState} {h g : Heap} {L I : Addr} {m : Str → Option Value} {news : Ledger} {env : Env} {target : Expr} {body : List Stmt} {fp wr : List Addr} {n : Nat} {P : Nat → Value → Prop} {St : Nat → Heap → Prop} {R : Result → Shared → Prop}
/-- a for loop over whatever walks; the ledger may grow -/
theorem loop_own (W : Walks prog w A I fp wr n P St) (hLf : L ∉ fp) (hwr : ∀ b ∈ wr, g.get? b = none) (hlive : ∀ i h, St i h → ∀ b ∈ wr, ∃ o, h.get? b = some o)
    (J : Nat → (Str → Option Value) → Ledger → Array GenState → Prop) (h0 : J 0 m news gs) (F : Fr g L h m) (N : News g L h news) (hnw : ∀ p ∈ news, p.1 ∉ wr) (hst : St 0 h)
    (turn : ∀ i v m news gs' h tk own, i < n → P i v → J i m news gs' → Fr g L h m → News g L h (own ++ news) → (∀ p ∈ own, p.1 ∈ fp) → (∀ p ∈ news, p.1 ∉ wr) → (∀ b ∈ wr, ∃ o, (b, o) ∈ own) →
      wpAny (model prog w) A (assign target env v) (fun _ s₂ => wpAny (model prog w) A (execs body env) (fun f s₃ => match f with
          | .next | .cont => ∃ m' news' gs'' h' tk', s₃ = ⟨h', gs'', dr, tk', os⟩ ∧ J (i + 1) m' news' gs'' ∧ Fr g L h' m' ∧ News g L h' (own ++ news') ∧ ∀ p ∈ news', p.1 ∉ wr
          | .brk => R (.ok .next) s₃
          | .ret v => R (.ok (.ret v)) s₃) (notedBy (model prog w) A env fun e s' => R (.error e) s') s₂) (notedBy (model prog w) A env fun e s' => R (.error e) s') ⟨h, gs', dr, tk, os⟩)
    (done : ∀ m' news' gs' h' tk', J n m' news' gs' → Fr g L h' m' → News g L h' news' → R (.ok .next) ⟨h', gs', dr, tk', os⟩)
    (ht : ∀ v, letOwnedTupleGo target (.ref I) v = pure ()) :
    codeAny (model prog w) A (.forLoop target (.ref I) body [] env) R ⟨h, gs, dr, tk, os⟩ := by
  refine codeAny_forLoop (fun k s => ∃ i m news gs' h tk, s = ⟨h, gs', dr, tk, os⟩ ∧ k = n - i ∧ i ≤ n ∧ J i m news gs' ∧ Fr g L h m ∧ News g L h news ∧ (∀ p ∈ news, p.1 ∉ wr) ∧ St i h) ?_ n ⟨0, m, news, gs, h, tk, rfl, rfl, Nat.zero_le _, h0, F, N, hnw, hst⟩ ht
  rintro k s ⟨i, m, news, gs', h, tk, rfl, rfl, hi, hJ, F, N, hnw, hst⟩
  have moved : ∀ h', (∀ b o, b ∉ wr → h.get? b = some o → h'.get? b = some o) → Fr g L h' m ∧ News g L h' news := fun h' k => by
    refine ⟨⟨F.ns.at fun o e => k _ _ (fun hm => hLf (W.sub _ hm)) e, fun b o e => k _ _ (fun hm => by rw [hwr b hm] at e; cases e) (F.keep b o e), F.above⟩, fun p hp => ?_⟩
    obtain ⟨x1, x2, x3⟩ := N p hp
    exact ⟨k _ _ (hnw p hp) x1, x2, x3⟩
  rcases Nat.lt_or_ge i n with hin | hin
  · refine W.item i _ _ _ hin hst fun v h' tk' hP hst' k => ?_
    obtain ⟨F', N'⟩ := moved h' k
    obtain ⟨own, hown⟩ : ∃ own : Ledger, own = fp.filterMap fun b => if (g.get? b).isNone then (h'.get? b).map (b, ·) else none := ⟨_, rfl⟩
    have own_of : ∀ p ∈ own, p.1 ∈ fp ∧ h'.get? p.1 = some p.2 ∧ g.get? p.1 = none := by
      intro p hp
      rw [hown] at hp
      obtain ⟨b, hb, e⟩ := List.mem_filterMap.mp hp
      split at e
      · rename_i hn
        obtain ⟨o, ho, rfl⟩ := Option.map_eq_some_iff.mp e
        exact ⟨hb, ho, by simpa using hn⟩
      · cases e
    have own_in : ∀ b ∈ fp, ∀ o, g.get? b = none → h'.get? b = some o → (b, o) ∈ own := by
      intro b hb o hn ho
      rw [hown]
      refine List.mem_filterMap.mpr ⟨b, hb, ?_⟩
      rw [hn, ho]
      rfl
    have N'' : News g L h' (own ++ news) := fun p hp => by
      rcases List.mem_append.mp hp with hp | hp
      · obtain ⟨q1, q2, q3⟩ := own_of p hp
        exact ⟨q2, fun e => hLf (e ▸ q1), q3⟩
      · exact N' p hp
    refine wpAny_mono (turn i v m news gs' h' tk' own hin hP hJ F' N'' (fun p hp => (own_of p hp).1) hnw fun b hb => ?_) (fun _ s₂ h₂ => wpAny_mono h₂ (fun f s₃ h₃ => ?_) fun _ _ x => x) fun _ _ x => x
    · obtain ⟨o, ho⟩ := hlive _ _ hst' b hb
      exact ⟨o, own_in b (W.sub b hb) o (hwr b hb) ho⟩
    · have fin : (∃ m' news' gs'' h'' tk', s₃ = ⟨h'', gs'', dr, tk', os⟩ ∧ J (i + 1) m' news' gs'' ∧ Fr g L h'' m' ∧ News g L h'' (own ++ news') ∧ ∀ p ∈ news', p.1 ∉ wr) →
          ∃ k, k < n - i ∧ ∃ i m news gs' h tk, s₃ = ⟨h, gs', dr, tk, os⟩ ∧ k = n - i ∧ i ≤ n ∧ J i m news gs' ∧ Fr g L h m ∧ News g L h news ∧ (∀ p ∈ news, p.1 ∉ wr) ∧ St i h := by
        rintro ⟨m', news', gs'', h'', tk'', rfl, hJ', F3, N3, hnw'⟩
        refine ⟨n - (i + 1), by omega, i + 1, m', news', gs'', h'', tk'', rfl, rfl, hin, hJ', F3, fun p hp => N3 p (List.mem_append_right _ hp), hnw', W.frame _ _ _ hst' fun b hb o ho => ?_⟩
        cases hg : g.get? b with
        | none => exact (N3 _ (List.mem_append_left _ (own_in b hb o hg ho))).1
        | some o₂ =>
          have := F'.keep b o₂ hg
          rw [ho] at this
          cases this
          exact F3.keep b o hg
      cases f with
      | next => exact fin h₃
      | cont => exact fin h₃
      | brk => exact h₃
      | ret v => exact h₃
  · obtain rfl : i = n := Nat.le_antisymm hi hin
    refine W.done _ _ _ hst fun h' tk' k => ?_
    obtain ⟨F', N'⟩ := moved h' k
    exact wpAny_execs_nil (done m news gs' h' tk' hJ F' N')
end
section
variable {prog : Program} {w : World} {A : Around} {E : Value → Shared → Prop} {gs : Array GenState} {dr : Drawn} {tk : Nat} {os : OsState} {h g : Heap} {L : Addr} {mm : Str → Option Value} {news : Ledger} {env : Env} {target : Expr} {body : List Stmt} {R : Result → Shared → Prop} {t : Tok} {x : List UInt8}
/-- a for loop over octets -/
theorem x_iter_bytes (hh : A.handled = none) (J : Nat → (Str → Option Value) → Ledger → Array GenState → Prop) (h0 : J 0 mm news gs) (F : Fr g L h mm) (N : News g L h news)
    (turn : ∀ i k u m news gs' h tk own I, x[i]? = some k → J i m news gs' → Fr g L h m → News g L h (own ++ news) → (∀ p ∈ own, p.1 = I) → (∃ o, (I, o) ∈ own) → (∀ p ∈ news, p.1 ≠ I) →
      wpAny (model prog w) A (assign target env (.int (k.toNat : Int) u)) (fun _ s₂ => wpAny (model prog w) A (execs body env) (fun f s₃ => match f with
          | .next | .cont => ∃ m' news' gs'' h' tk', s₃ = ⟨h', gs'', dr, tk', os⟩ ∧ J (i + 1) m' news' gs'' ∧ Fr g L h' m' ∧ News g L h' (own ++ news') ∧ ∀ p ∈ news', p.1 ≠ I
          | .brk => R (.ok .next) s₃
          | .ret v => R (.ok (.ret v)) s₃) (notedBy (model prog w) A env fun e s' => R (.error e) s') s₂) (notedBy (model prog w) A env fun e s' => R (.error e) s') ⟨h, gs', dr, tk, os⟩)
    (done : ∀ m' news' gs' h' tk', J x.length m' news' gs' → Fr g L h' m' → News g L h' news' → R (.ok .next) ⟨h', gs', dr, tk', os⟩)
    (ht : ∀ I v, letOwnedTupleGo target (.ref I) v = pure ()) :
    wpAny (model prog w) A (pyIter (.bytes x.toArray t)) (fun it s₂ => codeAny (model prog w) A (.forLoop target it body [] env) R s₂) E ⟨h, gs, dr, tk, os⟩ := by
  refine KBw.pyIter_bytes (s := ⟨h, gs, dr, tk, os⟩) ?_
  have hI : ∀ p ∈ news, p.1 ≠ h.objs.size := news_lt N
  have hLI : L ≠ h.objs.size := Nat.ne_of_lt F.ns.lt
  refine loop_own (KBw.walks hh h.objs.size x.toArray t) (by simpa using hLI) (fun b hb => ?_) (fun i h' st b hb => ?_) J h0 (F.push _) (fun p hp => ⟨Heap.get?_push_of_some _ (N p hp).1, (N p hp).2⟩) (fun p hp => by simpa using hI p hp) ⟨_, Heap.get?_push_size _ rfl, rfl, rfl⟩ ?_ (fun m' news' gs' h' tk' hJ F' N' => done m' news' gs' h' tk' (by simpa using hJ) F' N') (ht _)
  · rw [List.mem_singleton.mp hb]
    cases q : g.get? h.objs.size with
    | none => rfl
    | some o => exact absurd (Heap.lt_size (F.keep _ _ q)) (Nat.lt_irrefl _)
  · rw [List.mem_singleton.mp hb]
    obtain ⟨o, ho, _⟩ := st
    exact ⟨o, ho⟩
  · rintro i v m news gs' h' tk' own hi ⟨c, u, hc, rfl⟩ hJ F' N' hown hnw hlive
    have := turn i c u m news gs' h' tk' own h.objs.size (by simpa using hc) hJ F' N' (fun p hp => by simpa using hown p hp) (hlive _ (by simp)) (fun p hp => by simpa using hnw p hp)
    refine wpAny_mono this (fun _ s₂ h₂ => wpAny_mono h₂ (fun f s₃ h₃ => ?_) fun _ _ z => z) fun _ _ z => z
    cases f with
    | next => obtain ⟨m', news', gs'', h'', tk'', e, a, b, c, d⟩ := h₃; exact ⟨m', news', gs'', h'', tk'', e, a, b, c, fun p hp => by simpa using d p hp⟩
    | cont => obtain ⟨m', news', gs'', h'', tk'', e, a, b, c, d⟩ := h₃; exact ⟨m', news', gs'', h'', tk'', e, a, b, c, fun p hp => by simpa using d p hp⟩
    | brk => exact h₃
    | ret v => exact h₃
end
theorem x_ite_d {p : Prop} [Decidable p] {P R : Prop} (h1 : p → P) (h2 : ¬ p → R) : if decide p = true then P else R := by
  by_cases hp : p
  · rw [if_pos (decide_eq_true hp)]; exact h1 hp
  · rw [if_neg (by simpa using hp)]; exact h2 hp
theorem x_ite_e {α : Type} [BEq α] [LawfulBEq α] {a b : α} {P R : Prop} (h1 : a = b → P) (h2 : a ≠ b → R) : if (a == b) = true then P else R := by
  by_cases hp : a = b
  · rw [if_pos (by simpa using hp)]; exact h1 hp
  · rw [if_neg (by simpa using hp)]; exact h2 hp
theorem x_ite_ne {α : Type} [BEq α] [LawfulBEq α] {a b : α} {P R : Prop} (h1 : a ≠ b → P) (h2 : a = b → R) : if (a != b) = true then P else R := by
  by_cases hp : a = b
  · rw [if_neg (by simpa using hp)]; exact h2 hp
  · rw [if_pos (by simpa using hp)]; exact h1 hp
section
variable {prog : Program} {w : World} {A : Around} {E : Value → Shared → Prop} {gs : Array GenState} {dr : Drawn} {tk : Nat} {os : OsState} {h : Heap} {Q : Value → Shared → Prop} {t u : Tok}
theorem x_mode {i j : Int} (hj : 0 < j) (H : ∀ t' tk', Q (.int (i % j) t') ⟨h, gs, dr, tk', os⟩) : wpAny (model prog w) A (binaryOp .Mod (.int i t) (.int j u)) Q E ⟨h, gs, dr, tk, os⟩ :=
  x_mod (by omega) fun t' tk' => by rw [Int.fmod_eq_emod_of_nonneg _ (by omega)]; exact H t' tk'
theorem x_sadd {a b : Str} (ha : Short a) (hb : b.length ≤ 1000) (H : ∀ t' tk', Q (.str (a ++ b) t') ⟨h, gs, dr, tk', os⟩) : wpAny (model prog w) A (binaryOp .Add (.str a t) (.str b u)) Q E ⟨h, gs, dr, tk, os⟩ :=
  PyProof.Rows.add_str (fun t' tk' => H t' tk') (by rw [← str_len_app]; exact ha.app (sm_of hb))
end
/-- where a walk is to halt -/
def Stop (P : Prop) : Prop := P
theorem stop_ {P : Prop} (h : Stop P) : P := h
set_option hygiene false
local macro_rules | `(tactic| tb_start) => `(tactic| first
  | ((with_reducible refine' x_bitem ?h0 ?h1 ?hf ?hs ?ht ?_); (case h0 => omega); (case h1 => omega); (case hf => omega); (case hs => with_unfolding_all rfl); (case ht => intro _; with_unfolding_all rfl); intro _ _)
  | ((with_reducible refine' x_ite_d ?_ ?_) <;> intro _)
  | ((with_reducible refine' x_ite_e ?_ ?_) <;> intro _)
  | ((with_reducible refine' x_ite_ne ?_ ?_) <;> intro _)
  | ((with_reducible refine' x_btail ?F ?N ?hl ?hu ?hz ?hs ?ht ?_); (case F => exact F); (case N => exact N); (case hl => first | exact .int _ _ | exact .none); (case hu => first | exact .int _ _ | exact .none); (case hz => first | omega | exact Nat.le_trans (sl_le _ _ _) (by omega)); (case hs => intro _; with_unfolding_all rfl); (case ht => intro _; with_unfolding_all rfl); (clear F N); intro _ _ _ F N)
  | ((with_reducible refine' g_bin ?_); first
    | ((with_reducible refine' x_mode ?hj ?_); (case hj => first | assumption | decide | omega); intro _ _)
    | ((with_reducible refine' x_sadd ?ha ?hb ?_); (case ha => tb_rel); (case hb => decide +kernel); intro _ _)
    | ((with_reducible refine' x_mul ?hm ?_); (case hm => first | exact IntMulOk.of_right (by decide) | exact IntMulOk.of_left (by decide)); intro _ _))
  | (fail "no step"))
theorem rep_not_none {T : Ledger} : ∀ {v : Value} {t : Tr}, Rep T v t → (v == Value.none) = false
  | _, _, .b => rfl
  | _, _, .l _ _ => rfl
theorem x_is_t {prog : Program} {w : World} {A : Around} {E : Value → Shared → Prop} {s : Shared} {v : Value} {Q : Value → Shared → Prop} (e : (v == .none) = true) (H : Q (.bool true) s) : wpAny (model prog w) A (compareOp .Is v .none) Q E s := by
  have := is_none (M := model prog w) (A := A) (E := E) (s := s) (v := v) (Q := Q) (by rw [e]; exact H)
  exact this
theorem x_is_f {prog : Program} {w : World} {A : Around} {E : Value → Shared → Prop} {s : Shared} {v : Value} {Q : Value → Shared → Prop} (e : (v == .none) = false) (H : Q (.bool false) s) : wpAny (model prog w) A (compareOp .Is v .none) Q E s := by
  have := is_none (M := model prog w) (A := A) (E := E) (s := s) (v := v) (Q := Q) (by rw [e]; exact H)
  exact this
local macro_rules | `(tactic| tb_start) => `(tactic| first
  | ((with_reducible refine' g_cmp ?_); first
    | ((with_reducible refine' x_is_t ?e ?_); (case e => rfl))
    | ((with_reducible refine' x_is_f ?e ?_); (case e => first | exact rep_not_none (by assumption) | rfl)))
  | (fail "no step"))

section
/-! a generator expression whose element may itself make generators -/
def GExt (a b : Array GenState) : Prop := a.size ≤ b.size ∧ (∀ k, k < a.size → b[k]? = a[k]?) ∧ ∀ k x, a.size ≤ k → b[k]? = some x → x.bare = true
theorem GExt.refl (a : Array GenState) : GExt a a := ⟨Nat.le_refl _, fun _ _ => rfl, fun k x h e => by rw [Array.getElem?_eq_none h] at e; cases e⟩
theorem GExt.trans {a b c : Array GenState} (x : GExt a b) (y : GExt b c) : GExt a c :=
  ⟨Nat.le_trans x.1 y.1, fun k h => (y.2.1 k (Nat.lt_of_lt_of_le h x.1)).trans (x.2.1 k h), fun k z h e => by
    rcases Nat.lt_or_ge k b.size with hk | hk
    · exact x.2.2 k z h ((y.2.1 k hk).symm.trans e)
    · exact y.2.2 k z hk e⟩
theorem GExt.bare {a b : Array GenState} (x : GExt a b) (ha : ∀ y ∈ a, y.bare = true) : ∀ y ∈ b, y.bare = true := by
  intro y hy
  obtain ⟨i, hi, rfl⟩ := Array.mem_iff_getElem.mp hy
  rcases Nat.lt_or_ge i a.size with h | h
  · have e := x.2.1 i h
    rw [Array.getElem?_eq_getElem hi] at e
    obtain ⟨hi', e'⟩ := Array.getElem?_eq_some_iff.mp e.symm
    exact e' ▸ ha _ (Array.getElem_mem hi')
  · exact x.2.2 i _ h (Array.getElem?_eq_getElem hi)
/-- only g turns, and what is new -/
def GOnly (g : Nat) (a b : Array GenState) : Prop := a.size ≤ b.size ∧ (∀ k, k < a.size → k ≠ g → b[k]? = a[k]?) ∧ (∀ k x, a.size ≤ k → b[k]? = some x → x.bare = true) ∧ (b[g]? = a[g]? ∨ ∀ x, b[g]? = some x → x.bare = true)
theorem GOnly.refl (g : Nat) (a : Array GenState) : GOnly g a a := ⟨Nat.le_refl _, fun _ _ _ => rfl, (GExt.refl a).2.2, .inl rfl⟩
theorem GOnly.trans {g : Nat} {a b c : Array GenState} (x : GOnly g a b) (y : GOnly g b c) : GOnly g a c := by
  refine ⟨Nat.le_trans x.1 y.1, fun k h hg => (y.2.1 k (Nat.lt_of_lt_of_le h x.1) hg).trans (x.2.1 k h hg), fun k z h e => ?_, ?_⟩
  · rcases Nat.lt_or_ge k b.size with hk | hk
    · by_cases hg : k = g
      · subst hg
        rcases y.2.2.2 with q | q
        · exact x.2.2.1 k z h (q ▸ e)
        · exact q z e
      · exact x.2.2.1 k z h ((y.2.1 k hk hg).symm.trans e)
    · exact y.2.2.1 k z hk e
  · rcases y.2.2.2 with q | q
    · rcases x.2.2.2 with p | p
      · exact .inl (q.trans p)
      · exact .inr fun z e => p z (q ▸ e)
    · exact .inr q
theorem GOnly.step {s s₁ : Shared} {g : Nat} {gs gs' : GenState} (hgs : s.gens[g]? = some gs) (x : GExt (s.setGen g .running).gens s₁.gens) (hb : gs'.bare = true) : GOnly g s.gens (s₁.setGen g gs').gens := by
  have hlt : g < s.gens.size := (Array.getElem?_eq_some_iff.mp hgs).1
  have e1 : (s.setGen g .running).gens.size = s.gens.size := by simp [Shared.setGen]
  have e2 : (s₁.setGen g gs').gens.size = s₁.gens.size := by simp [Shared.setGen]
  refine ⟨by rw [e2, ← e1]; exact x.1, fun k hk hkg => ?_, fun k z hk e => ?_, .inr fun z e => ?_⟩
  · have := x.2.1 k (by rw [e1]; exact hk)
    simp only [Shared.setGen] at this ⊢
    rw [Array.getElem?_setIfInBounds_ne (Ne.symm hkg)] at this ⊢
    exact this
  · have hkg : k ≠ g := by omega
    simp only [Shared.setGen] at e
    rw [Array.getElem?_setIfInBounds_ne (Ne.symm hkg)] at e
    exact x.2.2 k z (by rw [e1]; exact hk) e
  · have hlt' : g < s₁.gens.size := Nat.lt_of_lt_of_le (by rw [e1]; exact hlt) x.1
    simp only [Shared.setGen] at e
    rw [Array.getElem?_setIfInBounds_self_of_lt hlt'] at e
    cases e
    exact hb
def KeepsX (s s' : Shared) : Prop := ∃ h' tk gs, s' = { s with heap := h', toks := tk, gens := gs } ∧ Ke s.heap h' ∧ GExt s.gens gs
def SinceX (C : Addr) (wr : List Addr) (s₀ s : Shared) : Prop := ∃ h' tk gs, s = { s₀ with heap := h', toks := tk, gens := gs } ∧ (∀ b o, b ≠ C → b ∉ wr → s₀.heap.get? b = some o → h'.get? b = some o) ∧ GExt s₀.gens gs
theorem SinceX.refl (C : Addr) (wr : List Addr) (s : Shared) : SinceX C wr s s := ⟨s.heap, s.toks, s.gens, rfl, fun _ _ _ _ e => e, .refl _⟩
theorem SinceX.step {C : Addr} {wr : List Addr} {s₀ s : Shared} (x : SinceX C wr s₀ s) {h' : Heap} {tk : Nat} {gs : Array GenState} (hk : ∀ b o, b ≠ C → b ∉ wr → s.heap.get? b = some o → h'.get? b = some o) (hg : GExt s.gens gs) :
    SinceX C wr s₀ { s with heap := h', toks := tk, gens := gs } := by
  obtain ⟨h₁, tk₁, gs₁, rfl, hk₁, hg₁⟩ := x
  exact ⟨h', tk, gs, rfl, fun b o hC hw e => hk b o hC hw (hk₁ b o hC hw e), hg₁.trans hg⟩
def EltX (prog : Program) (w : World) (cenv : Env) (x : Str) (elt : Expr) (fp wr : List Addr) (P : Nat → Value → Prop) (F : Nat → Value → Prop) (href : Heap) (D U : Nat) : Prop :=
  ∀ (A' : Around) E' i v (s₂ : Shared) m₂, A'.handled = none → A'.depth ≤ D → A'.units ≤ U → P i v → s₂.heap.Ns cenv.locals m₂ → m₂ x = some v → (∀ b ∈ fp, b ∉ wr → ∀ o, href.get? b = some o → s₂.heap.get? b = some o) →
    wpAny (model prog w) A' (eval elt cenv) (fun y s₃ => F i y ∧ KeepsX s₂ s₃) E' s₂
def protoX (C : Addr) (fp wr : List Addr) (n₀ : Nat) (F : Nat → Value → Prop) : Protocol := fun m s₀ v s kap =>
  F (n₀ - 1 - m) v ∧ SinceX C wr s₀ s ∧ ∀ s'' : Shared, (∀ b ∈ C :: fp, ∀ o, s.heap.get? b = some o → s''.heap.get? b = some o) → kap (.send .none) s''
section
variable {prog : Program} {w : World} {A : Around}
theorem seg_loopX {elt iter : Expr} {x : Str} {px : Pos} {scope : Scope} {pos : Pos} {I : Addr} {fp wr : List Addr} {n₀ : Nat} {P : Nat → Value → Prop} {St₀ : Nat → Heap → Prop} {cenv : Env}
    (hh : A.handled = none) (W₀ : ∀ A' : Around, A'.handled = none → Walks prog w A' I fp wr n₀ P St₀) (F : Nat → Value → Prop) (href : Heap)
    (hx : cenv.kindOf x = some .local) (hp : (cenv.scope.kind == .class || (cenv.scope.kind == .module && cenv.locals != cenv.globals)) = false)
    (hco : cenv.scope.isCoroutine = false) (hCf : cenv.locals ∉ fp) (hq : EltX prog w cenv x elt fp wr P F href (A.depth + 1) (A.units + 3)) :
    ∀ (k i : Nat) (s₀ s : Shared) (m : Str → Option Value), n₀ - i = k → i ≤ n₀ → St₀ i s.heap → s.heap.Ns cenv.locals m → SinceX cenv.locals wr s₀ s →
      (∀ b ∈ fp, b ∉ wr → ∀ o, href.get? b = some o → s.heap.get? b = some o) →
      Seg (model prog w) A (fun n s₀ r s₁ => r = .ok .next ∧ (n = 0 ∧ SinceX cenv.locals wr s₀ s₁)) (protoX cenv.locals fp wr n₀ F) k s₀
        (.compLoop (.GeneratorExp elt [⟨.Name x px, iter, [], 0⟩] scope pos) 0 (.ref I) .none cenv)
        ((model prog w).den (.compLoop (.GeneratorExp elt [⟨.Name x px, iter, [], 0⟩] scope pos) 0 (.ref I) .none cenv)) [] s := by
  have hh' : (A.over (.compLoop (.GeneratorExp elt [⟨.Name x px, iter, [], 0⟩] scope pos) 0 (.ref I) .none cenv) []).handled = none := hh
  have hdep' : (A.over (.compLoop (.GeneratorExp elt [⟨.Name x px, iter, [], 0⟩] scope pos) 0 (.ref I) .none cenv) []).depth ≤ A.depth + 1 := Nat.le_of_eq rfl
  have huni' : (A.over (.compLoop (.GeneratorExp elt [⟨.Name x px, iter, [], 0⟩] scope pos) 0 (.ref I) .none cenv) []).units ≤ A.units + 3 := Nat.le_of_eq rfl
  have hCw : cenv.locals ∉ wr := fun h => hCf ((W₀ A hh).sub _ h)
  intro k
  induction k with
  | zero =>
    intro i s₀ s m hk hi hst hn hsince hkp
    have hin : i = n₀ := by omega
    subst hin
    show Seg _ A _ _ _ s₀ _ ((compTurn (.GeneratorExp elt [⟨.Name x px, iter, [], 0⟩] scope pos) 0 (.ref I) .none cenv).onRaise (leaving cenv)) [] s
    rw [compTurn_gen, Sem.onRaise_eq_wrap]
    refine seg_bind_wrap (wpAny_standAt ?_)
    refine seg_bind_wrap ((W₀ _ hh').done s _ _ hst fun h' tk hk' => ?_)
    exact seg_end (.ok .next) ⟨rfl, rfl, hsince.step (fun b o _ hw e => hk' b o hw e) (.refl _)⟩
  | succ k ih =>
    intro i s₀ s m hk hi hst hn hsince hkp
    have hlt : i < n₀ := by omega
    show Seg _ A _ _ _ s₀ _ ((compTurn (.GeneratorExp elt [⟨.Name x px, iter, [], 0⟩] scope pos) 0 (.ref I) .none cenv).onRaise (leaving cenv)) [] s
    rw [compTurn_gen, Sem.onRaise_eq_wrap]
    refine seg_bind_wrap (wpAny_standAt ?_)
    refine seg_bind_wrap ((W₀ _ hh').item i s _ _ hlt hst fun v h₁ tk₁ hPv hst₁ hk₁ => ?_)
    refine seg_bind_wrap (wpAny_of_eq (rfl : letOwnedTupleGo (.Name x px) (.ref I) v = pure ()) ?_)
    refine seg_bind_wrap (wpAny_assign_Name (wpAny_storeName_local hx (hn.at' fun o e => hk₁ _ o hCw e) (fun h₂ hn₂ hs₂ => ?_) hp))
    have up₂ : ∀ b o, b ≠ cenv.locals → b ∉ wr → s.heap.get? b = some o → h₂.get? b = some o := fun b o hbC hbw e => hs₂.extBut b o hbC (hk₁ b o hbw e)
    have hst₂ : St₀ (i + 1) h₂ := (W₀ A hh).frame _ _ _ hst₁ fun b hb o e => hs₂.extBut b o (fun h => hCf (h ▸ hb)) e
    have hkp₂ : ∀ b ∈ fp, b ∉ wr → ∀ o, href.get? b = some o → h₂.get? b = some o := fun b hb hbw o e => up₂ b o (fun h => hCf (h ▸ hb)) hbw (hkp b hb hbw o e)
    refine seg_bind_wrap (wpAny_pure ?_)
    dsimp only
    simp only [if_true]
    have hy : ∀ v, yieldOut cenv v = yieldValue v := fun v => by simp only [yieldOut, hco, Bool.false_eq_true, if_false]
    simp only [hy]
    rw [Sem.bind_eq_wrap', Sem.bind_eq_wrap', Sem.wrap_wrap, Sem.wrap_wrap]
    refine seg_wrap (wpAny_mono (hq _ _ i v _ _ hh' hdep' huni' hPv hn₂ (by simp) hkp₂) (fun y s₄ h₄ => ?_) fun _ _ e => e)
    obtain ⟨hFy, h₄, tk₄, gs₄, rfl, hk₄, hg₄⟩ := h₄
    have hidx : n₀ - 1 - k = i := by omega
    refine seg_at (seg_yield rfl rfl rfl ⟨by rw [hidx]; exact hFy, hsince.step (fun b o hbC hbw e => hk₄ b o (up₂ b o hbC hbw e)) hg₄, fun s'' hal => ?_⟩)
    refine seg_again rfl (ih (i + 1) s'' s'' _ (by omega) hlt ((W₀ A hh).frame _ _ _ hst₂ fun b hb o e => hal b (List.mem_cons_of_mem _ hb) o (hk₄ b o e))
      ((hn₂.keeps hk₄).at' fun o e => hal _ (List.mem_cons_self ..) o e) (SinceX.refl _ _ _) fun b hb hbw o e => hal b (List.mem_cons_of_mem _ hb) o (hk₄ b o (hkp₂ b hb hbw o e)))
theorem seg_startX {elt iter : Expr} {x : Str} {px : Pos} {scope : Scope} {pos : Pos} {I : Addr} {fp wr : List Addr} {n₀ : Nat} {P : Nat → Value → Prop} {St₀ : Nat → Heap → Prop} {cenv : Env}
    (hh : A.handled = none) (W₀ : ∀ A' : Around, A'.handled = none → Walks prog w A' I fp wr n₀ P St₀) (F : Nat → Value → Prop) (href : Heap)
    (hx : cenv.kindOf x = some .local) (hp : (cenv.scope.kind == .class || (cenv.scope.kind == .module && cenv.locals != cenv.globals)) = false)
    (hco : cenv.scope.isCoroutine = false) (hCf : cenv.locals ∉ fp) (hq : EltX prog w cenv x elt fp wr P F href (A.depth + 1) (A.units + 3))
    (s₀ s : Shared) (m : Str → Option Value) (hst : St₀ 0 s.heap) (hn : s.heap.Ns cenv.locals m) (hsince : SinceX cenv.locals wr s₀ s)
    (hkp : ∀ b ∈ fp, b ∉ wr → ∀ o, href.get? b = some o → s.heap.get? b = some o) :
    Seg (model prog w) A (fun n s₀ r s₁ => r = .ok .next ∧ (n = 0 ∧ SinceX cenv.locals wr s₀ s₁)) (protoX cenv.locals fp wr n₀ F) n₀ s₀
      (.compStart (.GeneratorExp elt [⟨.Name x px, iter, [], 0⟩] scope pos) 0 (.ref I) .none cenv)
      ((model prog w).den (.compStart (.GeneratorExp elt [⟨.Name x px, iter, [], 0⟩] scope pos) 0 (.ref I) .none cenv)) [] s := by
  have hh' : (A.over (.compStart (.GeneratorExp elt [⟨.Name x px, iter, [], 0⟩] scope pos) 0 (.ref I) .none cenv) []).handled = none := hh
  have loop := seg_loopX (iter := iter) (px := px) (scope := scope) (pos := pos) hh W₀ F href hx hp hco hCf hq n₀ 0 s₀ s m (Nat.sub_zero _) (Nat.zero_le _) hst hn hsince hkp
  show Seg _ A _ _ _ s₀ _ ((compStart (.GeneratorExp elt [⟨.Name x px, iter, [], 0⟩] scope pos) 0 (.ref I) .none cenv).onRaise (leaving cenv)) [] s
  unfold compStart
  rw [Sem.onRaise_eq_wrap]
  show Seg _ A _ _ _ s₀ _ ((ask >>= _).wrap _ _ _ _) [] s
  refine seg_bind_wrap (wpAny_askSetting ?_)
  split
  · exact seg_again rfl loop
  · refine seg_bind_wrap (wpAny_rule ?_)
    first
      | exact seg_bind_wrap (wpAny_standAt (seg_bind_wrap ((W₀ _ hh').self 0 s _ _ hst (seg_again rfl loop))))
      | (show Seg _ A _ _ _ s₀ _ ((standAt iter.pos >>= _).wrap _ _ _ _) [] s; exact seg_bind_wrap (wpAny_standAt (seg_bind_wrap ((W₀ _ hh').self 0 s _ _ hst (seg_again rfl loop)))))
def GenX (prog : Program) (w : World) (A : Around) (a : Addr) (g : Nat) (C : Addr) (fp wr : List Addr) (n₀ : Nat) (F : Nat → Value → Prop) (j : Nat) (s : Shared) : Prop :=
  s.heap.IsGen a g ∧ s.heap.NoLimit ∧ ∃ gs, s.gens[g]? = some gs ∧ ∀ s'' : Shared, (∀ b ∈ C :: fp, ∀ o, s.heap.get? b = some o → s''.heap.get? b = some o) →
    gs.Goes (model prog w) A.in1 (fun n s₀ r s₁ => r = .ok .next ∧ (n = 0 ∧ SinceX C wr s₀ s₁)) (protoX C fp wr n₀ F) (n₀ - j) (.send .none) s''
theorem GenX.start {elt iter : Expr} {x : Str} {px : Pos} {scope : Scope} {pos : Pos} {I a : Addr} {g : Nat} {fp wr : List Addr} {n₀ : Nat} {P : Nat → Value → Prop} {St₀ : Nat → Heap → Prop} {cenv : Env}
    (hh : A.handled = none) (W₀ : ∀ A' : Around, A'.handled = none → Walks prog w A' I fp wr n₀ P St₀) (F : Nat → Value → Prop)
    (hx : cenv.kindOf x = some .local) (hp : (cenv.scope.kind == .class || (cenv.scope.kind == .module && cenv.locals != cenv.globals)) = false)
    (hco : cenv.scope.isCoroutine = false) (hCf : cenv.locals ∉ fp) {s : Shared} {m : Str → Option Value} (hq : EltX prog w cenv x elt fp wr P F s.heap (A.depth + 1) (A.units + 4))
    (hg : s.heap.IsGen a g) (hgs : s.gens[g]? = some (.fresh (.compStart (.GeneratorExp elt [⟨.Name x px, iter, [], 0⟩] scope pos) 0 (.ref I) .none cenv)))
    (hst : St₀ 0 s.heap) (hn : s.heap.Ns cenv.locals m) (hl : s.heap.NoLimit) : GenX prog w A a g cenv.locals fp wr n₀ F 0 s :=
  ⟨hg, hl, _, hgs, fun s'' hal => ⟨rfl, seg_startX (A := A.in1) hh W₀ F s.heap hx hp hco hCf hq s'' s'' m ((W₀ A hh).frame _ _ _ hst fun b hb o e => hal b (List.mem_cons_of_mem _ hb) o e)
    (hn.at' fun o e => hal _ (List.mem_cons_self ..) o e) (SinceX.refl _ _ _) fun b hb _ o e => hal b (List.mem_cons_of_mem _ hb) o e⟩⟩
theorem walksX (hh : A.handled = none) (a : Addr) (g : Nat) (C : Addr) (fp wr : List Addr) (n₀ : Nat) (F : Nat → Value → Prop) (haC : a ≠ C) (haf : a ∉ fp) (hsub : ∀ b ∈ wr, b ∈ fp)
    (hroom : A.depth < recursionLimit) (hcs : cStatics ∈ fp) (hcC : cStatics ≠ C) (hcw : cStatics ∉ wr) :
    WalksS prog w A a (a :: C :: fp) (C :: wr) (GOnly g) n₀ F (GenX prog w A a g C fp wr n₀ F) where
  sub := fun b hb => by
    rcases List.mem_cons.mp hb with rfl | hb
    · simp
    · exact List.mem_cons_of_mem _ (List.mem_cons_of_mem _ (hsub b hb))
  grefl := fun _ => .refl _ _
  gtrans := fun _ _ _ x y => x.trans y
  frame := fun j s h' tk st _ hk =>
    ⟨let ⟨o, nm, qn, ho, r⟩ := st.1; ⟨o, nm, qn, hk a (List.mem_cons_self ..) o ho, r⟩,
     (let ⟨mc, hns, hnn⟩ := st.2.1; ⟨mc, hns.at' fun o e => hk cStatics (List.mem_cons_of_mem _ (List.mem_cons_of_mem _ hcs)) o e, hnn⟩),
     let ⟨gs, hgs, hgo⟩ := st.2.2; ⟨gs, hgs, fun s'' hal => hgo s'' fun b hb o e => hal b hb o (hk b (List.mem_cons_of_mem _ hb) o e)⟩⟩
  item := fun j s Q E hj st hQ => by
    obtain ⟨hg, hl, gs, hgs, hgo⟩ := st
    obtain ⟨m, hm⟩ : ∃ m, n₀ - j = m + 1 := ⟨n₀ - j - 1, by omega⟩
    rw [hm] at hgo
    refine wpAny_with_toks (Nat.le_refl s.toks) ?_
    refine wpAny_pyNext_genexpQ (P := fun n s₀ s₁ => n = 0 ∧ SinceX C wr s₀ s₁) hh hl hroom hg hgs (hgo _ fun _ _ _ e => e) (fun v s₁ gs' hb hv => ?_) (fun s₁ hp h' hk => ?_)
    · obtain ⟨hF, ⟨h₁, tk₁, gs₁, rfl, hk₁, hg₁⟩, hkap⟩ := hv
      have hidx : n₀ - 1 - (m + 1 - 1) = j := by omega
      rw [hidx] at hF
      have haw : a ∉ wr := fun h => haf (hsub a h)
      have hlt : g < s.gens.size := (Array.getElem?_eq_some_iff.mp hgs).1
      have hrun : gs₁[g]? = some .running := by
        rw [hg₁.2.1 g (by simpa [Shared.setGen] using hlt)]
        exact setGen_self hgs
      intro htk
      refine hQ v _ hF ⟨let ⟨o, nm, qn, ho, r⟩ := hg; ⟨o, nm, qn, hk₁ a o haC haw ho, r⟩, (let ⟨mc, hns, hnn⟩ := hl; ⟨mc, hns.at' fun o e => hk₁ cStatics o hcC hcw e, hnn⟩), gs', setGen_self (gs := .running) hrun, fun s'' hal => ?_⟩
        ⟨fun b o hb e => hk₁ b o (fun h => hb (h ▸ List.mem_cons_self ..)) (fun h => hb (List.mem_cons_of_mem _ h)) e, GOnly.step hgs hg₁ hb, rfl, rfl, htk⟩
      have e : n₀ - (j + 1) = m := by omega
      rw [e]
      exact hkap s'' hal
    · exact absurd hp.1 (Nat.succ_ne_zero m)
  done := fun s Q E st hQ => by
    obtain ⟨hg, hl, gs, hgs, hgo⟩ := st
    rw [Nat.sub_self] at hgo
    refine wpAny_with_toks (Nat.le_refl s.toks) ?_
    refine wpAny_pyNext_genexpQ (P := fun n s₀ s₁ => n = 0 ∧ SinceX C wr s₀ s₁) hh hl hroom hg hgs (hgo _ fun _ _ _ e => e) (fun v s₁ gs' hb hv => ?_) (fun s₁ hp h' hk => ?_)
    · obtain ⟨_, _, hkap⟩ := hv
      exact False.elim (hkap s₁ fun _ _ _ e => e)
    · obtain ⟨_, h₁, tk₁, gs₁, rfl, hk₁, hg₁⟩ := hp
      intro htk
      exact hQ _ ⟨fun b o hb e => hk b o (hk₁ b o (fun h => hb (h ▸ List.mem_cons_self ..)) (fun h => hb (List.mem_cons_of_mem _ h)) e), GOnly.step (gs' := .finished) hgs hg₁ rfl, rfl, rfl, htk⟩
  self := fun _ _ _ _ st hQ => wpAny_pyIter_gen st.1 hQ
end
end

section
/-! what the law's own reader answers -/
inductive LR where
  | ok (t : Tr) (e : Int)
  | bad (m : Str)
  | deep
def rrowF (item1 : Int → LR) (endp : Int) : Nat → Int → List Tr → LR
  | 0, _, _ => .deep
  | n + 1, place, acc =>
    if place < endp then
      match item1 place with
      | .ok t e => rrowF item1 endp n e (acc ++ [t])
      | x => x
    else if place > endp then .bad "List length prefix announced a too small length"
    else .ok (.l acc) place
/-- where the head is known, and the size -/
def rbodyF (item1 : Int → LR) (o : List UInt8) (n : Nat) (head begin_ size : Int) : LR :=
  if head < 192 then .ok (.b (sl o (some begin_) (some (begin_ + size)))) (begin_ + size)
  else rrowF item1 (begin_ + size) n begin_ []
/-- behind the looks at a single octet -/
def rtailF (item1 : Int → LR) (o : List UInt8) (n : Nat) (head st : Int) : LR :=
  if (head - 128) % 64 > 55 then
    if (sl (sl o (some (st + 1)) (some (st + (head - 128) % 64 - 54))) none (some 1) == [0]) = true then .bad "Length starts with zero bytes" else
    if be (sl o (some (st + 1)) (some (st + (head - 128) % 64 - 54))) < 56 then .bad (Str.ofString "Long " ++ (if head < 192 then Str.ofString "string" else Str.ofString "list") ++ Str.ofString " prefix used for short " ++ (if head < 192 then Str.ofString "string" else Str.ofString "list"))
    else rbodyF item1 o n head (st + (head - 128) % 64 - 54) (be (sl o (some (st + 1)) (some (st + (head - 128) % 64 - 54))))
  else rbodyF item1 o n head (st + 1) ((head - 128) % 64)
def readF (o : List UInt8) (n : Nat) : Nat → Int → LR
  | 0, _ => .deep
  | f + 1, st =>
    if (o.length : Int) ≤ st then .bad "RLP string too short" else
    if ((o.getD st.toNat 0).toNat : Int) < 128 then .ok (.b (sl o (some st) (some (st + 1)))) (st + 1) else
    if ((o.getD st.toNat 0).toNat : Int) = 129 ∧ (o.length : Int) ≤ st + 1 then .bad "RLP string too short" else
    if ((o.getD st.toNat 0).toNat : Int) = 129 ∧ ((o.getD (st + 1).toNat 0).toNat : Int) < 128 then .bad "Encoded as short string although single byte was possible" else
    rtailF (readF o n f) o n (o.getD st.toNat 0).toNat st
def LR.Sane : LR → Prop
  | .ok _ e => 0 ≤ e
  | _ => True
theorem rrow_sane {item1 : Int → LR} {endp : Int} (H : ∀ x, 0 ≤ x → (item1 x).Sane) : ∀ (n : Nat) (place : Int) (acc : List Tr), 0 ≤ place → (rrowF item1 endp n place acc).Sane
  | 0, _, _, _ => trivial
  | n + 1, place, acc, h0 => by
    unfold rrowF
    split
    · have hn := H place h0
      cases e : item1 place with
      | ok t e' => rw [e] at hn; exact rrow_sane H n e' _ hn
      | bad m => trivial
      | deep => trivial
    · split
      · trivial
      · exact h0
theorem rbody_sane {item1 : Int → LR} {o : List UInt8} {n : Nat} {head b sz : Int} (H : ∀ x, 0 ≤ x → (item1 x).Sane) (h0 : 0 ≤ b) (h1 : 0 ≤ sz) : (rbodyF item1 o n head b sz).Sane := by
  unfold rbodyF
  split
  · show 0 ≤ b + sz; omega
  · exact rrow_sane H _ _ _ h0
theorem rtail_sane {item1 : Int → LR} {o : List UInt8} {n : Nat} {head st : Int} (H : ∀ x, 0 ≤ x → (item1 x).Sane) (h0 : 0 ≤ st) : (rtailF item1 o n head st).Sane := by
  unfold rtailF
  split
  · split
    · trivial
    · split
      · trivial
      · exact rbody_sane H (by omega) (be_nonneg _)
  · exact rbody_sane H (by omega) (by omega)
theorem read_sane (o : List UInt8) (n : Nat) : ∀ (f : Nat) (st : Int), 0 ≤ st → (readF o n f st).Sane
  | 0, _, _ => trivial
  | f + 1, st, h0 => by
    unfold readF
    split
    · trivial
    · split
      · show 0 ≤ st + 1; omega
      · split
        · trivial
        · split
          · trivial
          · exact rtail_sane (read_sane o n f) h0
end

section
/-! b''.join of a generator -/
namespace BJ
open Builtin Builtin.Bytes
theorem slot : Slot "bytes" "join" "bytes.join" :=
  .of (owner := "bytes") (n := "join") (by rw [typeLookup_type, builtinLookup_eq_fast]; kernel_rfl) (by decide +kernel) (by decide +kernel) (by decide +kernel)
    (by first | exact .inl (by decide +kernel) | exact .inr (by decide +kernel)) (by rw [isSubtype_type]; kernel_rfl)
theorem type_eq : typeOf (.builtin "bytes.join") = pure (.type "method_descriptor") := by show builtinType _ = _; rw [builtinType_eq_fast]; kernel_rfl
theorem entry : entryFor table "bytes.join" = some Builtin.«bytes.join» := entryFor_of_fast (by kernel_rfl)
theorem args (a b : Value) : argsOk "bytes.join" ⟨[a, b], []⟩ := by unfold argsOk; kernel_rfl
theorem ga : typeLookup (.type "bytes") "__getattribute__" = pure (some (.builtin "bytes.__getattribute__")) := by rw [typeLookup_type, builtinLookup_eq_fast]; kernel_rfl
theorem canon_ga : (Manifest.canonical "bytes.__getattribute__" != "object.__getattribute__") = false := by decide +kernel
theorem no_ga : typeLookup (.type "bytes") "__getattr__" = pure none := by rw [typeLookup_type, builtinLookup_eq_fast]; kernel_rfl
section
variable {prog : Program} {w : World} {M : Model} {A : Around} {E : Value → Shared → Prop} {s : Shared} {b : Array UInt8} {t : Tok}
theorem method {pl : Sem Bool} {Q : Value × List Value → Shared → Prop} (h : Q (.builtin "bytes.join", [.bytes b t]) s) : wpAny M A (getMethod (.bytes b t) (PySem.Str.ofString "join") pl) Q E s :=
  getMethod_value (T := "bytes") (name := PySem.Str.ofString "join") (ga := "bytes.__getattribute__") (id := "bytes.join") (typeIs_bytes s b t) (by intro _ x; cases x) ga canon_ga no_ga slot.lookup type_eq h
theorem turns {β : Type} {f : Nat → β → Sem (ForInStep β)} (st : Nat → β) {Q : β → Shared → Prop} : ∀ (n i : Nat), (∀ j, i ≤ j → j < i + n → ∀ Q : ForInStep β → Shared → Prop, Q (.yield (st (j + 1))) s → wpAny M A (f j (st j)) Q E s) → Q (st (i + n)) s →
    wpAny M A (forIn (List.range' i n) (st i) f) Q E s
  | 0, i, _, hq => by simpa using wpAny_pure hq
  | n + 1, i, hf, hq => by
    rw [List.range'_succ, List.forIn_cons]
    refine wpAny_bind (hf i (Nat.le_refl _) (by omega) _ ?_)
    exact turns st n (i + 1) (fun j h1 h2 => hf j (by omega) (by omega)) (by rw [show i + 1 + n = i + (n + 1) by omega]; exact hq)
theorem buffer_full {id : String} {full : Bool} : buffer? id (.bytes b t) full = pure (some b) := by
  unfold buffer?
  rw [KBy.special_eq KBy.look_buffer, KBy.own_buffer, KBy.own_release]
  kernel_rfl
theorem take_eq {id : String} {flags : Int} : takeBufferQuiet? id (.bytes b t) flags = pure (some (b, none)) := by
  unfold takeBufferQuiet? takeBuffer?
  rw [KBy.special_eq KBy.look_buffer, KBy.own_buffer]
  simp only [pure_bind]
  rw [buffer_full]
  rfl
theorem let_go {Q : Unit → Shared → Prop} (keep : List Value) : ∀ (xs : List Value), Q () s → wpAny M A (joinLetGo (xs.map fun x => (x, none)) keep) Q E s
  | [], h => wpAny_pure h
  | x :: xs, h => by
    show wpAny M A (letGo _ _ >>= fun _ => joinLetGo (xs.map fun x => (x, none)) keep) Q E s
    exact wpAny_bind (wpAny_letGo (let_go keep xs h))
end
/-- the bytes of the items -/
def IsB : List Value → List (List UInt8) → Prop
  | [], [] => True
  | v :: vs, b :: bs => (∃ t, v = .bytes b.toArray t) ∧ IsB vs bs
  | _, _ => False
theorem IsB.length : ∀ {vs : List Value} {bs : List (List UInt8)}, IsB vs bs → vs.length = bs.length
  | [], [], _ => rfl
  | _ :: vs, _ :: bs, h => congrArg (· + 1) (IsB.length (vs := vs) (bs := bs) h.2)
  | [], _ :: _, h => h.elim
  | _ :: _, [], h => h.elim
theorem IsB.get : ∀ {vs : List Value} {bs : List (List UInt8)}, IsB vs bs → ∀ i, (h : i < bs.length) → ∃ t, vs[i]? = some (.bytes bs[i].toArray t)
  | _ :: _, _ :: _, ⟨⟨t, rfl⟩, _⟩, 0, _ => ⟨t, rfl⟩
  | _ :: vs, _ :: bs, h, i + 1, hi => by
    obtain ⟨t, e⟩ := IsB.get (vs := vs) (bs := bs) h.2 i (by simpa using hi)
    exact ⟨t, by simpa using e⟩
  | [], [], _, _, h => by simp at h
  | [], _ :: _, h, _, _ => h.elim
  | _ :: _, [], h, _, _ => h.elim
section
variable {prog : Program} {w : World} {M : Model} {A : Around} {E : Value → Shared → Prop} {s : Shared} {t : Tok}
theorem seq_q {S : Addr} {acc : Array Value} {c : Nat} {o : Obj} {Q : Option (Array Value) → Shared → Prop} (hS : s.heap.get? S = some o) (hd : o.data = .seq acc c) (h : Q (some acc) s) : wpAny M A (seqItems? (.ref S)) Q E s := by
  unfold seqItems?
  refine wpAny_bind (wpAny_load hS ?_)
  rw [hd]
  exact wpAny_pure h
theorem IsB.quiet : ∀ {vs : List Value} {bs : List (List UInt8)}, IsB vs bs → ∀ j, (((vs.take j).map fun x => (x, (none : Option Value))).any fun x => x.1.onHeap) = false
  | [], _, _, j => by simp
  | _ :: vs, [], h, _ => h.elim
  | v :: vs, b :: bs, ⟨⟨t, e⟩, h⟩, 0 => by simp
  | v :: vs, b :: bs, ⟨⟨t, e⟩, h⟩, j + 1 => by
    subst e
    have := IsB.quiet (vs := vs) (bs := bs) h j
    rw [List.take_succ_cons, List.map_cons, List.any_cons, this]
    rfl
theorem joined_go : ∀ (bs : List (List UInt8)) (n : Nat) (out : List UInt8), (((bs.map List.toArray).zipIdx n).foldl (fun (out : Array UInt8) (x : Array UInt8 × Nat) => (if x.2 > 0 then out ++ #[] else out) ++ x.1) out.toArray) = (out ++ bs.flatten).toArray
  | [], n, out => by simp
  | b :: bs, n, out => by
    rw [List.map_cons, List.zipIdx_cons, List.foldl_cons]
    have e : ((if (b.toArray, n).2 > 0 then out.toArray ++ #[] else out.toArray) ++ (b.toArray, n).1) = (out ++ b).toArray := by split <;> simp
    rw [e, joined_go bs (n + 1) (out ++ b)]
    simp
theorem joined_nil (bs : List (List UInt8)) : joined #[] (bs.map List.toArray) = bs.flatten.toArray := by
  have := joined_go bs 0 []
  exact this
theorem len_go : ∀ (bs : List (List UInt8)) (n : Nat), (bs.map List.toArray).foldl (fun a b => a + b.size) n = n + bs.flatten.length
  | [], n => rfl
  | b :: bs, n => by rw [List.map_cons, List.foldl_cons, len_go bs, List.flatten_cons, List.length_append, List.size_toArray]; omega
theorem join_runs {bs : List (List UInt8)} {t : Tok} {a : Value} {Q : PySem.Fin → Shared → Prop}
    (hj : wpAny M A (joinItems a) (fun v s' => ∃ S vs c, v = .ref S ∧ s'.heap.get? S = some { cls := .type "list", dict := none, data := .seq (List.toArray vs) c, slots := #[] } ∧ IsB vs bs ∧
      ∀ t' tk', s'.toks ≤ tk' → Q (.done (.ret (.bytes bs.flatten.toArray t'))) { s' with toks := tk' }) E s) (hsz : bs.flatten.length ≤ 16777216) : wpAny M A (Builtin.«bytes.join» ⟨[.bytes #[] t, a], []⟩) Q E s := by
  unfold Builtin.«bytes.join» joinM
  show wpAny M A (joinItems a >>= fun seq => _) Q E s
  refine wpAny_bind (wpAny_mono hj (fun v s' hv => ?_) fun _ _ e => e)
  obtain ⟨S, vs, c, rfl, hS, hb, hQ⟩ := hv
  have hlen := hb.length
  refine wpAny_bind (seq_q hS rfl ?_)
  dsimp only
  rw [if_pos (by rfl)]
  by_cases h1 : ∃ x, vs = [x]
  · obtain ⟨x, rfl⟩ := h1
    match bs, hb with
    | [b], ⟨⟨t', e⟩, _⟩ =>
      subst e
      refine wpAny_bind (wpAny_typeOf (typeIs_bytes s' _ _) ?_)
      rw [if_pos (by rfl)]
      refine wpAny_bind (wpAny_rule ?_)
      have := hQ t' s'.toks (Nat.le_refl _)
      simp only [List.flatten_cons, List.flatten_nil, List.append_nil] at this
      exact wpAny_pure this
    | [], h => exact h.elim
    | _ :: _ :: _, h => exact h.2.elim
  · have key : ∀ (K : Sem PySem.Fin) (f : Value → Sem PySem.Fin), wpAny M A K Q E s' → wpAny M A (match vs.toArray with | #[x] => f x | _ => K) Q E s' := by
      intro K f hk
      rcases vs with _ | ⟨x, _ | ⟨y, vs⟩⟩
      · exact hk
      · exact absurd ⟨x, rfl⟩ h1
      · exact hk
    refine key _ _ ?_
    rw [Std.Legacy.Range.forIn_eq_forIn_range']
    refine wpAny_bind (turns (fun j => (((bs.take j).map List.toArray).toArray, (vs.take j).map fun x => (x, none))) _ 0 (fun j _ hj Q' hq => ?_) ?_)
    · have hj' : j < bs.length := by
        simp [Std.Legacy.Range.size] at hj
        omega
      obtain ⟨tj, hv⟩ := hb.get j hj'
      refine wpAny_bind (seq_q hS rfl ?_)
      dsimp only
      have hgd : vs.toArray.getD j Value.none = .bytes (bs[j]).toArray tj := by simp [Array.getD_eq_getD_getElem?, hv]
      rw [hb.quiet j, if_neg (by decide), hgd]
      refine wpAny_bind (wpAny_holding (wpAny_of_eq take_eq ?_))
      dsimp only
      refine wpAny_bind (seq_q hS rfl ?_)
      dsimp only
      rw [if_neg (by simp)]
      refine wpAny_pure ?_
      have e1 : (bs.take (j + 1)).map List.toArray = (bs.take j).map List.toArray ++ [bs[j].toArray] := by rw [List.take_succ_eq_append_getElem hj', List.map_append]; rfl
      have e2 : (vs.take (j + 1)).map (fun x => (x, (none : Option Value))) = (vs.take j).map (fun x => (x, none)) ++ [(.bytes (bs[j]).toArray tj, none)] := by rw [List.take_succ, hv, List.map_append]; rfl
      rw [e1, e2] at hq
      rw [List.push_toArray]
      exact hq
    · dsimp only
      have ez : (0 + [:vs.toArray.size].size) = bs.length := by simp [Std.Legacy.Range.size]; omega
      rw [ez]
      have e3 : bs.take bs.length = bs := List.take_length
      have e4 : vs.take bs.length = vs := by rw [← hlen]; exact List.take_length
      rw [e3, e4]
      show wpAny M A (payload (.bytes #[] t) >>= fun sep => _) Q E s'
      refine wpAny_bind (wpAny_of_eq (a := #[]) rfl ?_)
      have hz : (((bs.map List.toArray).toArray).foldl (fun a (b : Array UInt8) => a + b.size) ((#[] : Array UInt8).size * (((bs.map List.toArray).toArray).size - 1))) = bs.flatten.length := by
        rw [List.foldl_toArray, len_go]
        simp
      rw [hz, KBy.tooLong_not hsz, if_neg (by decide), joined_nil]
      show wpAny M A (mkBytes _ >>= fun r => _) Q E s'
      refine wpAny_bind (wpAny_mkBytes ?_ (by rw [sizeLine_eq, List.size_toArray]; exact hsz))
      refine wpAny_bind (wpAny_holding (wpAny_point ?_))
      refine wpAny_bind (let_go _ vs ?_)
      exact wpAny_pure (hQ _ _ (Nat.le_succ _))
theorem items_b {vs : List Value} : ∀ (bs : List (List UInt8)), vs.length = bs.length → (∀ i v, vs[i]? = some v → ∃ t, v = Value.bytes (bs.getD i []).toArray t) → IsB vs bs := by
  induction vs with
  | nil => intro bs h _; cases bs with
    | nil => trivial
    | cons => cases h
  | cons v vs ih =>
    intro bs h hv
    cases bs with
    | nil => cases h
    | cons b bs => exact ⟨by simpa using hv 0 v rfl, ih bs (by simpa using h) fun i x e => by simpa using hv (i + 1) x (by simpa using e)⟩
/-- the call: b''.join(a generator) -/
theorem call_join {I : Addr} {fp wr : List Addr} {G : Array GenState → Array GenState → Prop} {St : Nat → Shared → Prop} {bs : List (List UInt8)} {t : Tok} {Q : Value → Shared → Prop}
    (W : WalksS prog w A.in1.in1.in1 I fp wr G bs.length (fun i v => ∃ t, v = .bytes (bs.getD i []).toArray t) St) (hgen : ∀ i s, St i s → ∃ g, s.heap.IsGen I g) (hst : St 0 s) (hfp : ∀ b ∈ fp, b < s.heap.objs.size) (hI : I ∈ fp)
    (hn : bs.length ≤ 100000) (hsz : bs.flatten.length ≤ 16777216)
    (hQ : ∀ s' t', Moved wr G s s' → Q (.bytes bs.flatten.toArray t') s') : wpAny (model prog w) A (call (.builtin "bytes.join") [.bytes #[] t, .ref I]) Q E s := by
  have hT : ∀ i s, St i s → s.TypeIs (.ref I) "generator" := fun i s h => (hgen i s h).elim fun g hg => hg.typeIs
  refine wpAny_call_entry slot (typeIs_bytes s _ t) entry ?_ (args _ _)
  refine join_runs ?_ hsz
  unfold joinItems
  refine wpAny_bind (wpAny_typeOf (hT 0 s hst) ?_)
  rw [if_neg (by decide)]
  refine wpAny_bind (wpAny_tryCatch (wpAny_pyIter_gen (hgen 0 s hst).choose_spec ?_))
  refine call_list_gen W hT hst hfp hI (fun s' acc' c' hm hS ha => ?_) (by rw [sizeLine_eq]; omega)
  refine ⟨_, acc'.toList, c', rfl, by simpa using hS, items_b bs (by simpa using ha.1) (fun i v e => ha.2 i v (by simpa using e)), fun t' tk' hk => ⟨_, rfl, ?_⟩⟩
  have hm' := Moved.drop_new hm (Nat.le_refl _)
  exact hQ _ t' ⟨hm'.heap, hm'.gens, hm'.drawn, hm'.os, Nat.le_trans hm'.toks hk⟩
end
end BJ
end

set_option hygiene true
section
variable {prog : Program} {w : World} {M : Model} {A : Around} {E : Value → Shared → Prop} {gs : Array GenState} {dr : Drawn} {tk : Nat} {os : OsState} {h g : Heap} {L : Addr} {mm : Str → Option Value} {news : Ledger} {Q : Value → Shared → Prop} {t u v : Tok} {env : Env}
theorem x_or {e₁ e₂ rest pos} (H : wpAny M A (eval e₁ env) (fun v s₁ => wpAny M A (truthy v) (fun c s₂ => if c = true then Q v s₂ else wpAny M A (eval (.BoolOp .Or (e₂ :: rest) pos) env) Q E s₂) E s₁) E ⟨h, gs, dr, tk, os⟩) :
    wpAny M A (eval (.BoolOp .Or (e₁ :: e₂ :: rest) pos) env) Q E ⟨h, gs, dr, tk, os⟩ := BoolOp_or H
theorem x_or1 {e pos} (H : wpAny M A (eval e env) Q E ⟨h, gs, dr, tk, os⟩) : wpAny M A (eval (.BoolOp .Or [e] pos) env) Q E ⟨h, gs, dr, tk, os⟩ := H
theorem x_truthyi {i : Int} {Q : Bool → Shared → Prop} (H : Q (i != 0) ⟨h, gs, dr, tk, os⟩) : wpAny (model prog w) A (truthy (.int i t)) Q E ⟨h, gs, dr, tk, os⟩ := PyProof.Rows.truthy_int H
theorem x_getm_bl {i : Int} {pl : Sem Bool} {Q : Value × List Value → Shared → Prop} (H : Q (.builtin "int.bit_length", [.int i t]) ⟨h, gs, dr, tk, os⟩) : wpAny M A (getMethod (.int i t) (Str.ofString "bit_length") pl) Q E ⟨h, gs, dr, tk, os⟩ := getMethod_int_bit_length H
theorem x_getm_tb {i : Int} {pl : Sem Bool} {Q : Value × List Value → Shared → Prop} (H : Q (.builtin "int.to_bytes", [.int i t]) ⟨h, gs, dr, tk, os⟩) : wpAny M A (getMethod (.int i t) (Str.ofString "to_bytes") pl) Q E ⟨h, gs, dr, tk, os⟩ := KTBy.method H
theorem x_getm_join {b : Array UInt8} {pl : Sem Bool} {Q : Value × List Value → Shared → Prop} (H : Q (.builtin "bytes.join", [.bytes b t]) ⟨h, gs, dr, tk, os⟩) : wpAny M A (getMethod (.bytes b t) (Str.ofString "join") pl) Q E ⟨h, gs, dr, tk, os⟩ := BJ.method H
theorem x_bl {i : Int} (H : ∀ t' tk', Q (.int (Builtin.Int.intBits i) t') ⟨h, gs, dr, tk', os⟩) : wpAny (model prog w) A (call (.builtin "int.bit_length") [.int i t]) Q E ⟨h, gs, dr, tk, os⟩ := call_int_bit_length (H _ _)
theorem x_fdiv {i j : Int} (hj : j ≠ 0) (hs : i.natAbs < 1000000 ∧ j.natAbs < 1000000) (H : ∀ t' tk', Q (.int (i.fdiv j) t') ⟨h, gs, dr, tk', os⟩) : wpAny (model prog w) A (binaryOp .FloorDiv (.int i t) (.int j u)) Q E ⟨h, gs, dr, tk, os⟩ :=
  floordiv_int hj (H _ _) (Or.inl (PyProof.noPylong_small (by omega)))
/-- the octets of a length of at most two -/
def lenB (x : Nat) : List UInt8 := if x < 256 then [UInt8.ofNat x] else [UInt8.ofNat (x / 256), UInt8.ofNat (x % 256)]
theorem lenB_le (x : Nat) : (lenB x).length ≤ 2 := by unfold lenB; split <;> simp
theorem bits_1 {x : Nat} (h0 : 0 < x) (h1 : x < 256) : ((Builtin.Int.intBits (x : Int) : Int) + 7).fdiv 8 = 1 := by
  have a := (PySem.intBits_le_iff (m := 8) (x := (x : Int))).mpr (by simpa using h1)
  have b : ¬ Builtin.Int.intBits (x : Int) ≤ 0 := fun h => by
    have := PySem.intBits_le_iff.mp h
    simp at this
    omega
  rw [Int.fdiv_eq_ediv_of_nonneg _ (by decide)]
  omega
theorem bits_2 {x : Nat} (h0 : 256 ≤ x) (h1 : x < 65536) : ((Builtin.Int.intBits (x : Int) : Int) + 7).fdiv 8 = 2 := by
  have a := (PySem.intBits_le_iff (m := 16) (x := (x : Int))).mpr (by simpa using h1)
  have b : ¬ Builtin.Int.intBits (x : Int) ≤ 8 := fun h => by
    have := PySem.intBits_le_iff.mp h
    simp at this
    omega
  rw [Int.fdiv_eq_ediv_of_nonneg _ (by decide)]
  omega
theorem bInts_inj : ∀ {a b : List UInt8}, a.map (fun c => ((c.toNat : Nat) : Int)) = b.map (fun c => ((c.toNat : Nat) : Int)) → a = b
  | [], [], _ => rfl
  | [], _ :: _, h => by simp at h
  | _ :: _, [], h => by simp at h
  | x :: a, y :: b, h => by
    rw [List.map_cons, List.map_cons] at h
    injection h with h1 h2
    rw [bInts_inj h2, UInt8.toNat_inj.mp (Int.ofNat_inj.mp h1)]
theorem x_tb {x : Nat} {k : Int} (h0 : 0 < x) (h1 : x < 65536) (hk : k = ((Builtin.Int.intBits (x : Int) : Int) + 7).fdiv 8) (H : ∀ t' tk', Q (.bytes (lenB x).toArray t') ⟨h, gs, dr, tk', os⟩) :
    wpAny (model prog w) A (call (.builtin "int.to_bytes") [.int (x : Int) t, .int k u, .str (Str.ofString "big") v]) Q E ⟨h, gs, dr, tk, os⟩ := by
  by_cases hx : x < 256
  · rw [bits_1 h0 hx] at hk
    subst hk
    refine KTBy.to_big (k := 1) (B := 256) (by decide) (by decide) (by omega) (by omega) fun b t' k' hb _ => ?_
    have e : b = (lenB x).toArray := by
      obtain ⟨b⟩ := b
      congr 1
      refine bInts_inj ?_
      show KBw.bInts ⟨b⟩ = _
      rw [hb, lenB, if_pos hx]
      simp [KTBy.little]
      try omega
    rw [e]
    exact H _ _
  · rw [bits_2 (by omega) h1] at hk
    subst hk
    refine KTBy.to_big (k := 2) (B := 65536) (by decide) (by decide) (by omega) (by omega) fun b t' k' hb _ => ?_
    have e : b = (lenB x).toArray := by
      obtain ⟨b⟩ := b
      congr 1
      refine bInts_inj ?_
      show KBw.bInts ⟨b⟩ = _
      rw [hb, lenB, if_neg hx]
      simp [KTBy.little]
      try omega
    rw [e]
    exact H _ _
theorem seq_ix {i : Int} {n : Nat} (h0 : 0 ≤ i) (h1 : i < n) : seqIndex? i n = some i.toNat := by
  unfold seqIndex?
  simp [show ¬ i < 0 by omega, h0, h1]
theorem x_titem {l : Addr} {items : List Value} {n : Nat} {i : Int} {ui : Tok} {x : Value} {value slice : Expr} (hg : h.get? l = some { cls := .type "tuple", data := .seq items.toArray n }) (h0 : 0 ≤ i) (hfit : i < 1000000) (hx : items[i.toNat]? = some x)
    (hs : subscripted slice false (.ref l) (.int i ui) = operate [.ref l, .int i ui] (getItem (.ref l) (.int i ui))) (ht : ∀ r, letTemporaryGo value (.ref l) r = pure ()) (H : Q x ⟨h, gs, dr, tk, os⟩) :
    wpAny (model prog w) A (subscriptTail value slice (.ref l) (.int i ui)) Q E ⟨h, gs, dr, tk, os⟩ := by
  have hl : IsTup h l items.toArray := ⟨_, hg, rfl, n, rfl⟩
  have hlt : i.toNat < items.length := (List.getElem?_eq_some_iff.mp hx).1
  exact subscriptTail_builtin hl.typeIs PySem.F.slot_tuple_getitem.lookup (PyProof.Rows.getItem_tuple (s := ⟨h, gs, dr, tk, os⟩) hl (by omega) (by omega) (j := i.toNat) (seq_ix h0 (by rw [List.size_toArray]; omega)) (by simpa using hx) H) hs ht
/-- an octet out of ALL_BYTES -/
theorem x_all {i : Int} {ui : Tok} {value slice : Expr} (B : Base w h) (h0 : 0 ≤ i) (h1 : i < 256)
    (hs : subscripted slice false (.ref 1450) (.int i ui) = operate [.ref 1450, .int i ui] (getItem (.ref 1450) (.int i ui))) (ht : ∀ r, letTemporaryGo value (.ref 1450) r = pure ()) (H : ∀ t', Q (.bytes [UInt8.ofNat i.toNat].toArray t') ⟨h, gs, dr, tk, os⟩) :
    wpAny (model prog w) A (subscriptTail value slice (.ref 1450) (.int i ui)) Q E ⟨h, gs, dr, tk, os⟩ :=
  x_titem (items := (List.range 256).map itemB) (n := 0) B.tup h0 (by omega) (x := itemB i.toNat) (by rw [List.getElem?_map, List.getElem?_range (by omega)]; rfl) hs ht (H _)
end
set_option hygiene false
local macro_rules | `(tactic| tb_start) => `(tactic| first
  | ((with_reducible refine' g_eval ?_); first
    | (with_reducible refine' x_or ?_)
    | (with_reducible refine' x_or1 ?_))
  | ((with_reducible refine' g_getm ?_); first
    | (with_reducible refine' x_getm_bl ?_)
    | (with_reducible refine' x_getm_tb ?_)
    | (with_reducible refine' x_getm_join ?_))
  | ((with_reducible refine' g_call ?_); (with_reducible refine' x_bl ?_); intro _ _)
  | ((with_reducible refine' g_bin ?_); ((with_reducible refine' x_fdiv ?hj ?hs ?_); (case hj => decide); (case hs => omega); intro _ _))
  | (with_reducible refine' x_truthyi ?_)
  | ((with_reducible refine' x_all ?B ?h0 ?h1 ?hs ?ht ?_); (case B => exact Base.keeps (by assumption) F.keep); (case h0 => omega); (case h1 => omega); (case hs => with_unfolding_all rfl); (case ht => intro _; with_unfolding_all rfl); intro _)
  | (fail "no step"))

section
section
variable {w : World} {A : Around} {E : Value → Shared → Prop} {gs : Array GenState} {dr : Drawn} {tk : Nat} {os : OsState} {h : Heap} {Q : Value → Shared → Prop}
theorem i2b_call {x : Nat} {t : Tok} (B : Base w h) (hd : A.depth < recursionLimit) (h0 : 0 < x) (h1 : x < 65536)
    (H : ∀ h' t' tk', Ke h h' → Q (.bytes (lenB x).toArray t') ⟨h', gs, dr, tk', os⟩) : wpAny (model pw w) A (call (.ref 1471) [.int (x : Int) t]) Q E ⟨h, gs, dr, tk, os⟩ := by
  refine x_enter B hd (by rfl) (by rfl) (by rfl) (by rfl) (by rfl) (binds := [(Str.ofString "value", _)]) (by rfl) (locs (by rfl)) (by rfl) (by rfl) (by rfl) (by decide) ?_
  intro h₁ L tk' _ F N
  have hb : (Builtin.Int.intBits (x : Int) : Int) ≤ 16 := Int.ofNat_le.mpr (PySem.intBits_le_iff.mpr (by simpa using h1))
  have hk : 0 < ((Builtin.Int.intBits (x : Int) : Int) + 7).fdiv 8 := by
    by_cases hx : x < 256
    · rw [bits_1 h0 hx]; decide
    · rw [bits_2 (by omega) h1]; decide
  show wpAny _ _ (execs (fdB (sAt 13)) _) _ _ _
  refine wpAny_execs_cons ?_
  repeat' tb_start
  · refine x_tb h0 h1 rfl fun t' tk' => ?_
    repeat' tb_start
    exact H _ _ _ F.keep
  · omega
def preB (n o : Nat) : List UInt8 := if n < 56 then [UInt8.ofNat (o + n)] else [UInt8.ofNat (o + 55 + (lenB n).length)] ++ lenB n
theorem lp_call {n o : Nat} {t u : Tok} (B : Base w h) (hd : A.depth + 1 < recursionLimit) (h0 : n < 65536) (h1 : o ≤ 192)
    (H : ∀ h' t' tk', Ke h h' → Q (.bytes (preB n o).toArray t') ⟨h', gs, dr, tk', os⟩) : wpAny (model pw w) A (call (.ref 1729) [.int (n : Int) t, .int (o : Int) u]) Q E ⟨h, gs, dr, tk, os⟩ := by
  refine x_enter B (by omega) (by rfl) (by rfl) (by rfl) (by rfl) (by rfl) (binds := [(Str.ofString "length", _), (Str.ofString "offset", _)]) (by rfl) (locs (by rfl)) (by rfl) (by rfl) (by rfl) (by decide) ?_
  intro h₁ L tk' _ F N
  have hll := lenB_le n
  show wpAny _ _ (execs (fdB (sAt 33)) _) _ _ _
  refine wpAny_execs_cons ?_
  repeat' tb_start
  · have e : preB n o = [UInt8.ofNat ((o : Int) + (n : Int)).toNat] := by rw [preB, if_pos (by omega), show ((o : Int) + (n : Int)).toNat = o + n by omega]
    rw [e] at H
    exact H h₁ _ _ F.keep
  · refine i2b_call (B.keeps F.keep) (by show A.depth + 1 < _; omega) (by omega) h0 fun h₂ t' tk₂ k₂ => ?_
    replace N := news_ke N k₂
    replace F := F.keeps k₂
    repeat' tb_start
    refine x_badd (b := [_]) (by show 1 + _ ≤ _; omega) fun t' tk' => ?_
    have e : preB n o = [UInt8.ofNat ((o : Int) + 56 - 1 + ((lenB n).length : Int)).toNat] ++ lenB n := by rw [preB, if_neg (by omega), show ((o : Int) + 56 - 1 + ((lenB n).length : Int)).toNat = o + 55 + (lenB n).length by omega]
    rw [← e]
    repeat' tb_start
    exact H _ _ _ F.keep
  · omega
end
end

section
/-- the table of a code object's inner code -/
def TabO (o : Obj) (ps : Array Value) : Prop := o = { cls := .none, data := .fields ps } ∧ TriplesOk ps.toList
def Hit (pos : Pos) (o : Obj) : Prop := ∃ ps c', TabO o ps ∧ codeAmong pos ps.toList = some c'
theorem objs_tab (P : Params) : ((objs P).map Prod.fst).contains 1702 = false := by rfl
theorem base_tab {w : World} {h : Heap} (B : Base w h) : Base w (hideAll h [1702]) where
  at_ := fun p hp => hideAll_get _ (B.at_ p hp) (by
    have : ∀ p ∈ objs w.params, p.1 ≠ 1702 := by
      intro p hp e
      have : (1702 : Nat) ∈ (objs w.params).map Prod.fst := List.mem_map.mpr ⟨p, hp, e⟩
      rw [← List.contains_iff_mem, objs_tab] at this
      cases this
    simpa using this p hp)
  tup := hideAll_get _ B.tup (by decide)
  g := let ⟨mg, h1, h2⟩ := B.g; ⟨mg, h1.at' fun o e => hideAll_get _ e (by decide), h2⟩
  b := let ⟨mb, h1, h2⟩ := B.b; ⟨mb, h1.at' fun o e => hideAll_get _ e (by decide), h2⟩
  nolimit := let ⟨mc, h1, h2⟩ := B.nolimit; ⟨mc, h1.at' fun o e => hideAll_get _ e (by decide), h2⟩
  nodigits := let ⟨mc, h1, h2⟩ := B.nodigits; ⟨mc, h1.at' fun o e => hideAll_get _ e (by decide), h2⟩
section
variable {M : Model} {w : World} {A : Around} {E : Value → Shared → Prop} {gs : Array GenState} {dr : Drawn} {tk : Nat} {os : OsState} {h : Heap}
theorem bf_map (P : Params) : ∃ es ep, (ob3 P).data = .dict es ep ∧ nsFind es (Str.ofString "__builtins__") = some (.ref 4) := ⟨_, _, rfl, by rfl⟩
theorem x_bfor {Q : Addr → Shared → Prop} (B : Base w h) (H : Q builtinsNs ⟨h, gs, dr, tk, os⟩) : wpAny M A (builtinsFor mainGlobals builtinsNs) Q E ⟨h, gs, dr, tk, os⟩ := by
  obtain ⟨mg, hmg, _⟩ := B.g
  have h3 : h.get? mainGlobals = some (ob3 w.params) := B.get (a := 3) rfl
  obtain ⟨es, ep, e1, e2⟩ := bf_map w.params
  have hm : mg "__builtins__" = some (.ref 4) := by
    obtain ⟨o, es', ep', q1, q2, _, q3⟩ := hmg
    rw [h3] at q1
    cases q1
    rw [e1] at q2
    cases q2
    rw [← q3]
    exact e2
  exact wpAny_builtinsFor (s := ⟨h, gs, dr, tk, os⟩) hmg hm (by decide) (B.get (a := 4) rfl) rfl rfl rfl H
theorem code_tab {ps : Array Value} {o : Obj} (B : Base w h) (ho : h.get? 1702 = some o) (ht : TabO o ps) : h.IsCode 1706 1702 ps ∧ h.TableAt 1706 1702 ps := by
  obtain ⟨rfl, ht⟩ := ht
  have h6 := B.get (a := 1706) rfl
  exact ⟨⟨_, _, _, _, _, _, _, _, _, _, h6, rfl, rfl, rfl, rfl, rfl, rfl, ho, rfl, ht, by decide⟩, ⟨_, _, h6, rfl, rfl, rfl⟩, ho⟩
/-- the code of the inner generator: made at the first time, found later -/
theorem x_gcode {env : Env} {pos : Pos} {qn : Str} {scope : Scope} {o : Obj} {ps : Array Value} {Q : Value → Shared → Prop} (B : Base w h) (hc : env.code = .ref 1706) (ho : h.get? 1702 = some o) (ht : TabO o ps)
    (H : ∀ c h' tk' o', Heap.ExtBut 1702 h h' → h'.get? 1702 = some o' → Hit pos o' → (Hit pos o → h' = h) → Q c ⟨h', gs, dr, tk', os⟩) : wpAny M A (genexprCode env pos qn scope) Q E ⟨h, gs, dr, tk, os⟩ := by
  obtain ⟨a, b⟩ := code_tab B ho ht
  cases hf : codeAmong pos ps.toList with
  | some c' => exact wpAny_genexprCode_hit (s := ⟨h, gs, dr, tk, os⟩) hc a hf (H _ _ _ o (Heap.ExtBut.refl _ _) ho ⟨ps, c', ht, hf⟩ fun _ => rfl)
  | none =>
    refine wpAny_genexprCodeX (s := ⟨h, gs, dr, tk, os⟩) hc a b hf fun c' h' tk' k1 _ _ k2 _ k3 _ => H _ h' tk' _ k1 k3.2 ⟨_, .ref c', ⟨rfl, ?_⟩, ?_⟩ fun hh => ?_
    · simpa using TriplesOk_snoc _ _ _ _ ht.2
    · simpa using codeAmong_snoc ps.toList ht.2 hf
    · obtain ⟨ps', c2, ⟨e1, _⟩, e2⟩ := hh
      rw [ht.1] at e1
      cases e1
      rw [hf] at e2
      cases e2
end
/-- a generator expression over a list has just been made -/
structure GenOk (pos : Pos) (h : Heap) (gs : Array GenState) (h4 : Heap) (gs4 : Array GenState) (G I C ax : Addr) (o o2 : Obj) (fresh : GenState) (it : Str → Option Value) : Prop where
  up : ∀ b ob, b ≠ 1702 → h.get? b = some ob → h4.get? b = some ob
  tab : h4.get? 1702 = some o2
  hit : Hit pos o2
  same : Hit pos o → o2 = o
  gens : gs4 = gs.push fresh
  gen : h4.IsGen G gs.size
  eI : I = h.objs.size
  lt : @LT.lt Nat _ I C ∧ @LT.lt Nat _ C G ∧ @LT.lt Nat _ G h4.objs.size
  iter : h4.IsListIter I ax 0
  ns : h4.Ns C it
section
variable {w : World} {A : Around} {E : Value → Shared → Prop} {gs : Array GenState} {dr : Drawn} {tk : Nat} {os : OsState} {h g : Heap} {L a : Addr} {ρ : List (Str × Value)} {news : Ledger} {name : Str} {scope : Scope}
theorem x_gen {elt : Expr} {x itn : Str} {px ip pos : Pos} {gscope : Scope} {ax : Addr} {vs : List Value} {n : Nat} {o : Obj} {ps : Array Value} {Q : Value → Shared → Prop} (F : Fr g L h (look ρ)) (N : News g L h news) (B : Base w g)
    (ho : (1702, o) ∈ news) (ht : TabO o ps) (hv : ρ.lookup itn = some (.ref ax)) (hax : h.get? ax = some (lob vs n)) (hroom : A.depth < recursionLimit)
    (hk : scope.kind = .function) (hl : scope.names.lookup itn = some .local) (hd : (itn == ("__debug__" : Str)) = false)
    (hco : gscope.isCoroutine = false) (hclos : closureFor gscope (envOf name scope L a (.ref 1706)) = pure []) (hcell : ∀ y ∈ gscope.names, y.2 ≠ .cell) (h0 : gscope.names.lookup (".0" : Str) = some NameKind.local) (hkind : gscope.kind = .function)
    (H : ∀ h4 gs4 tk' G I C o2 code, GenOk pos h gs h4 gs4 G I C ax o o2 (.fresh (.compStart (.GeneratorExp elt [⟨.Name x px, .Name itn ip, [], 0⟩] gscope pos) 0 (.ref I) .none (genEnv gscope [] C code builtinsNs (envOf name scope L a (.ref 1706))))) (fun y => if y = ".0" then some (.ref I) else none) →
      Q (.ref G) ⟨h4, gs4, dr, tk', os⟩) :
    wpAny (model pw w) A (eval (.GeneratorExp elt [⟨.Name x px, .Name itn ip, [], 0⟩] gscope pos) (envOf name scope L a (.ref 1706))) Q E ⟨h, gs, dr, tk, os⟩ := by
  have hB := B.keeps F.keep
  have hlist : Heap.IsList h ax vs.toArray := ⟨_, hax, rfl, n, rfl⟩
  refine wpAny_GeneratorExp_make hco hclos hcell h0 hkind hroom ?_ (fun _ => rfl)
  refine x_name F hv hk hl hd ?_
  refine wpAny_pyIter_list (s := ⟨h, gs, dr, tk, os⟩) hlist ?_
  have k1 : Ke h (h.push { cls := .type "list_iterator", data := .fields #[.ref ax, .int 0 0] }) := fun b ob e => Heap.get?_push_of_some _ e
  refine ⟨hB.nolimit.keeps k1, ?_⟩
  refine x_gcode (hB.keeps k1) rfl (k1 _ _ (N.get ho)) ht fun c h2 tk2 o2 k2 ho2 hh2 hs2 => ?_
  have k12 : ∀ b ob, b ≠ 1702 → h.get? b = some ob → h2.get? b = some ob := fun b ob hb e => k2 b ob hb (k1 b ob e)
  have hB2 : Base w h2 := B.keeps fun b ob e => k12 b ob (fun hb => by have := (N (1702, o) ho).2.2; rw [← hb, e] at this; cases this) (F.keep b ob e)
  refine x_bfor hB2 fun h3 hn3 hs3 => ?_
  have hI : h2.get? h.objs.size = some { cls := .type "list_iterator", data := .fields #[.ref ax, .int 0 0] } := k2 _ _ (fun e => by have := Heap.lt_size (N.get ho); rw [← e] at this; exact Nat.lt_irrefl _ this) (Heap.get?_push_size _ rfl)
  have k3 : ∀ b ob, h2.get? b = some ob → h3.get? b = some ob := fun b ob e => hs3.extBut b ob (fun hb => by have := Heap.lt_size e; rw [hb] at this; exact Nat.lt_irrefl _ this) (Heap.get?_push_of_some _ e)
  have k4 : ∀ (ox : Obj) b ob, h3.get? b = some ob → (h3.push ox).get? b = some ob := fun ox b ob e => Heap.get?_push_of_some _ e
  have hsz : h3.objs.size = h2.objs.size + 1 := by have := hs3.1; simpa using this
  refine H _ _ _ h3.objs.size h.objs.size h2.objs.size o2 c ⟨fun b ob hb e => k4 _ _ _ (k3 _ _ (k12 b ob hb e)), k4 _ _ _ (k3 _ _ ho2), hh2, fun hh => ?_, rfl, ?_, rfl, ⟨Heap.lt_size hI, by rw [hsz]; exact Nat.lt_succ_self _, by simp⟩, ?_, ?_⟩
  · have := hs2 hh
    rw [this, k1 _ _ (N.get ho)] at ho2
    exact (Option.some.inj ho2).symm
  · exact ⟨_, _, _, Heap.get?_push_size _ rfl, rfl, rfl, rfl⟩
  · exact ⟨_, k4 _ _ _ (k3 _ _ hI), rfl, rfl⟩
  · exact hn3.push _
/-- b''.join of the generator that has been made -/
theorem x_join {elt : Expr} {x itn : Str} {px ip pos : Pos} {gscope : Scope} {ax G I C : Addr} {vs : List Value} {n : Nat} {o o2 : Obj} {code : Value} {Q : Value → Shared → Prop} {env : Env} {h4 : Heap} {gs4 : Array GenState} {bs : List (List UInt8)} {t : Tok} {mm : Str → Option Value}
    (F : Fr g L h mm) (N : News g L h news) (B : Base w g) (hh : A.handled = none) (ho : (1702, o) ∈ news) (hax : h.get? ax = some (lob vs n)) (hx2 : ax ≠ 1702) (hroom : A.depth < recursionLimit)
    (hco : gscope.isCoroutine = false) (hkind : gscope.kind = .function) (hxl : gscope.names.lookup x = some .local)
    (X : GenOk pos h gs h4 gs4 G I C ax o o2 (.fresh (.compStart (.GeneratorExp elt [⟨.Name x px, .Name itn ip, [], 0⟩] gscope pos) 0 (.ref I) .none (genEnv gscope [] C code builtinsNs env))) (fun y => if y = ".0" then some (.ref I) else none))
    (hlen : vs.length = bs.length) (hn : bs.length ≤ 100000) (hsz : bs.flatten.length ≤ 16777216)
    (hel : ∀ i v, vs[i]? = some v → ∀ (A' : Around) E' (s : Shared) m, A'.handled = none → A'.depth ≤ A.depth + 1 → (∀ b ob, b ≠ 1702 → h.get? b = some ob → s.heap.get? b = some ob) → s.heap.get? 1702 = some o2 → s.heap.Ns C m → m x = some v →
      wpAny (model pw w) A' (eval elt (genEnv gscope [] C code builtinsNs env)) (fun y s₃ => (∃ t, y = .bytes (bs.getD i []).toArray t) ∧ KeepsX s s₃) E' s)
    (H : ∀ h' t' tk' gs', (∀ b ob, b ≠ 1702 → h.get? b = some ob → h'.get? b = some ob) → h'.get? 1702 = some o2 → Hit pos o2 → (Hit pos o → o2 = o) → GExt gs gs' → Q (.bytes bs.flatten.toArray t') ⟨h', gs', dr, tk', os⟩) :
    wpAny (model pw w) A (call (.builtin "bytes.join") ([.bytes #[] t] ++ [.ref G])) Q E ⟨h4, gs4, dr, tk, os⟩ := by
  obtain ⟨up, tab, hit, same, rfl, gen, rfl, ⟨l1, l2, l3⟩, iter, ns⟩ := X
  have hCs : ∃ oc, h4.get? C = some oc := let ⟨o, _, _, q, _⟩ := ns; ⟨o, q⟩
  have hup : ∀ b ob, b ≠ 1702 → h.get? b = some ob → b < h.objs.size := fun b ob _ e => Heap.lt_size e
  have hax4 : Heap.IsList h4 ax vs.toArray := ⟨_, up _ _ hx2 hax, rfl, n, rfl⟩
  have hnl : h4.NoLimit := (B.keeps F.keep).nolimit.elim fun mc q => ⟨mc, q.1.at' fun ob e => up _ _ (by decide) e, q.2⟩
  have hcs : cStatics < h.objs.size := (B.keeps F.keep).nolimit.elim fun mc q => q.1.lt
  have h17 : 1702 < h.objs.size := Heap.lt_size (N.get ho)
  have hgs : (gs.push (.fresh (.compStart (.GeneratorExp elt [⟨.Name x px, .Name itn ip, [], 0⟩] gscope pos) 0 (.ref h.objs.size) .none (genEnv gscope [] C code builtinsNs env))))[gs.size]? = some (.fresh (.compStart (.GeneratorExp elt [⟨.Name x px, .Name itn ip, [], 0⟩] gscope pos) 0 (.ref h.objs.size) .none (genEnv gscope [] C code builtinsNs env))) := by simp
  have hfp : ∀ b, @LT.lt Nat _ b C → b ∈ List.range C := fun b q => List.mem_range.mpr q
  have W₀ : ∀ A' : Around, A'.handled = none → Walks pw w A' h.objs.size (List.range C) [h.objs.size] vs.length (fun i v => vs[i]? = some v) (fun i h' => h'.IsListIter h.objs.size ax i ∧ h'.IsList ax vs.toArray) := fun A' hA => by
    have := (Walks.list (prog := pw) (w := w) hA h.objs.size ax (Nat.ne_of_lt (Heap.lt_size hax)) vs.toArray).mono_fp (fp' := List.range C) (by
      intro b hb
      simp only [List.mem_cons, List.mem_nil_iff, or_false] at hb
      rcases hb with hb | hb
      · rw [hb]; exact hfp _ l1
      · rw [hb]; exact hfp _ (Nat.lt_trans (Heap.lt_size hax) l1))
    simpa using this
  have st : GenX pw w A.in1.in1.in1 G gs.size (genEnv gscope [] C code builtinsNs env).locals (List.range C) [h.objs.size] vs.length (fun i v => ∃ t, v = .bytes (bs.getD i []).toArray t) 0 ⟨h4, gs.push (.fresh (.compStart (.GeneratorExp elt [⟨.Name x px, .Name itn ip, [], 0⟩] gscope pos) 0 (.ref h.objs.size) .none (genEnv gscope [] C code builtinsNs env))), dr, tk, os⟩ := by
    refine GenX.start (A := A.in1.in1.in1) (s := ⟨h4, _, dr, tk, os⟩) (P := fun i v => vs[i]? = some v) (cenv := genEnv gscope [] C code builtinsNs env) hh W₀ (fun i v => ∃ t, v = .bytes (bs.getD i []).toArray t) ?_ ?_ hco (by simp [genEnv]) (fun A' E' i v s₂ m₂ hA hd _ hv hns hm hkp => ?_) gen hgs ⟨iter, hax4⟩ ns hnl
    · exact hxl
    · show (gscope.kind == _ || (gscope.kind == _ && _)) = false
      rw [hkind]
      rfl
    refine hel i v hv A' E' s₂ m₂ hA (by exact hd) (fun b ob hb e => hkp b (hfp _ (Nat.lt_trans (Heap.lt_size e) l1)) (by simpa using Nat.ne_of_lt (Heap.lt_size e)) ob (up b ob hb e)) (hkp 1702 (hfp _ (Nat.lt_trans h17 l1)) (by simpa using Nat.ne_of_lt h17) o2 tab) hns hm
  have WX : WalksS pw w A.in1.in1.in1 G (G :: C :: List.range C) [C, h.objs.size] (GOnly gs.size) bs.length (fun i v => ∃ t, v = .bytes (bs.getD i []).toArray t) (GenX pw w A.in1.in1.in1 G gs.size C (List.range C) [h.objs.size] vs.length (fun i v => ∃ t, v = .bytes (bs.getD i []).toArray t)) := by
    rw [← hlen]
    exact walksX (A := A.in1.in1.in1) hh G gs.size C (List.range C) [h.objs.size] vs.length _ (Nat.ne_of_gt l2) (by simpa using Nat.le_of_lt l2) (fun b hb => by rw [List.mem_singleton] at hb; rw [hb]; exact hfp _ l1) hroom (hfp _ (Nat.lt_trans hcs l1)) (Nat.ne_of_lt (Nat.lt_trans hcs l1)) (by simpa using Nat.ne_of_lt hcs)
  refine BJ.call_join (I := G) (bs := bs) WX (fun i s z => ⟨_, z.1⟩) st (fun b hb => ?_) (by simp) hn hsz fun s' t' M => ?_
  · simp only [List.mem_cons, List.mem_range] at hb
    rcases hb with hb | hb | hb
    · rw [hb]; exact l3
    · rw [hb]; exact Nat.lt_trans l2 l3
    · exact Nat.lt_trans hb (Nat.lt_trans l2 l3)
  · obtain ⟨h', gs', dr', tk', os'⟩ := s'
    obtain ⟨m1, m2, m3, m4, _⟩ := M
    cases m3
    cases m4
    have kk : ∀ b ob, b < h.objs.size → h4.get? b = some ob → h'.get? b = some ob := fun b ob hb e => m1 b ob (by simp only [List.mem_cons, List.mem_nil_iff, or_false, not_or]; exact ⟨Nat.ne_of_lt (Nat.lt_trans hb l1), Nat.ne_of_lt hb⟩) e
    refine H h' t' tk' gs' (fun b ob hb e => kk b ob (Heap.lt_size e) (up b ob hb e)) (kk _ _ h17 tab) hit same ⟨?_, fun k hk => ?_, fun k z hk e => ?_⟩
    · have := m2.1; simp at this; omega
    · have := m2.2.1 k (by simp; omega) (by omega)
      rw [this]
      simp [Array.getElem?_push, Nat.ne_of_lt hk]
    · rcases Nat.lt_or_ge gs.size k with hk2 | hk2
      · exact m2.2.2.1 k z (by simp; omega) e
      · obtain rfl : k = gs.size := by omega
        rcases m2.2.2.2 with q | q
        · rw [e] at q
          simp at q
          rw [q]
          rfl
        · exact q z e
end
end

section
mutual
def encT : Tr → List UInt8
  | .b x => if x.length = 1 ∧ (x.getD 0 0).toNat < 128 then x else preB x.length 128 ++ x
  | .l ts => preB (encTs ts).length 192 ++ encTs ts
def encTs : List Tr → List UInt8
  | [] => []
  | t :: ts => encT t ++ encTs ts
end
theorem encTs_eq : ∀ ts, encTs ts = (ts.map encT).flatten
  | [] => by rw [encTs]; rfl
  | t :: ts => by rw [encTs, encTs_eq ts]; rfl
inductive Deep : Nat → Tr → Prop
  | b {n x} : Deep n (.b x)
  | l {n ts} : (∀ t ∈ ts, Deep n t) → Deep (n + 1) (.l ts)
theorem encT_mem {t : Tr} : ∀ {ts : List Tr}, t ∈ ts → (encT t).length ≤ (encTs ts).length
  | [], h => nomatch h
  | s :: ts, h => by
    rw [encTs, List.length_append]
    rcases List.mem_cons.mp h with rfl | h
    · omega
    · have := encT_mem h; omega
theorem preB_pos (n o : Nat) : 0 < (preB n o).length := by unfold preB; split <;> simp
theorem preB_le (n o : Nat) : (preB n o).length ≤ 3 := by have := lenB_le n; unfold preB; split <;> simp; omega
theorem encT_pos : ∀ t, 0 < (encT t).length
  | .b x => by
    unfold encT
    split
    · rename_i h; omega
    · rw [List.length_append]; have := preB_pos x.length 128; omega
  | .l ts => by unfold encT; rw [List.length_append]; have := preB_pos (encTs ts).length 192; omega
theorem encTs_len : ∀ ts : List Tr, ts.length ≤ (encTs ts).length
  | [] => by simp
  | t :: ts => by rw [encTs, List.length_append, List.length_cons]; have := encTs_len ts; have := encT_pos t; omega
section
variable {w : World} {A : Around} {E : Value → Shared → Prop} {gs : Array GenState} {dr : Drawn} {tk : Nat} {os : OsState} {h : Heap} {Q : Value → Shared → Prop}
theorem enc_b {x : List UInt8} {t : Tok} (B : Base w h) (hd : A.depth + 3 < recursionLimit) (hh : A.handled = none) (hz : x.length ≤ 60000)
    (H : ∀ h' t' tk', Ke h h' → Q (.bytes (encT (.b x)).toArray t') ⟨h', gs, dr, tk', os⟩) : wpAny (model pw w) A (call (.ref 1707) [.bytes x.toArray t]) Q E ⟨h, gs, dr, tk, os⟩ := by
  refine x_enter B (by omega) (by rfl) (by rfl) (by rfl) (by rfl) (by rfl) (binds := [(Str.ofString "item", _)]) (by rfl) (locs (by rfl)) (by rfl) (by rfl) (by rfl) (by decide) ?_
  intro h₁ L tk' _ F N
  have hh' : (A.deeper (envOf (Str.ofString "encode_raw") (fdS (sAt 29)) L 1707 (Value.ref 1706))).handled = none := hh
  show wpAny _ _ (execs (fdB (sAt 29)) _) _ _ _
  refine wpAny_execs_cons ?_
  repeat' tb_start
  refine x_isi_bytes (B.keeps F.keep) (N.get (.head _)) fun tk' => ?_
  repeat' tb_start
  · have e : encT (.b x) = x := by
      rw [encT, if_pos]
      refine ⟨by omega, ?_⟩
      exact Int.ofNat_lt.mp ‹(((x.getD (Int.toNat 0) 0).toNat : Int) < 128)›
    rw [e] at H
    exact H _ _ _ F.keep
  all_goals
    have e : encT (.b x) = preB x.length 128 ++ x := by
      rw [encT, if_neg]
      rintro ⟨h1, h2⟩
      have h2' : (((x.getD (Int.toNat 0) 0).toNat : Nat) : Int) < 128 := Int.ofNat_lt.mpr h2
      omega
    rw [e] at H
    have hp := preB_le x.length 128
    refine wpAny_Try_except ?_
    repeat' tb_start
    refine lp_call (n := x.length) (o := 128) (B.keeps F.keep) (by show A.depth + 1 + 1 < _; omega) (by omega) (by omega) fun h₂ t' tk₂ k₂ => ?_
    replace N := news_ke N k₂
    replace F := F.keeps k₂
    repeat' tb_start
    refine x_badd (by omega) fun t' tk' => ?_
    repeat' tb_start
    exact H _ _ _ F.keep
/-- every list of the ledger stands -/
def Stands (h : Heap) (T : Ledger) : Prop := ∀ p ∈ T, p.1 ≠ 1702 ∧ h.get? p.1 = some p.2
theorem Reps.get {T : Ledger} : ∀ {vs : List Value} {ts : List Tr}, Reps T vs ts → ∀ (i : Nat) (v : Value), vs[i]? = some v → ∃ t, ts[i]? = some t ∧ Rep T v t
  | _, _, .nil, i, v, e => by simp at e
  | _, _, .cons a b, 0, v, e => by simp at e; subst e; exact ⟨_, rfl, a⟩
  | _, _, .cons a b, i + 1, v, e => by
    obtain ⟨t, q1, q2⟩ := Reps.get b i v (by simpa using e)
    exact ⟨t, by simpa using q1, q2⟩
theorem x_isi_l1 {ax tp : Addr} {vs : List Value} {n : Nat} (B : Base w h) (htp : h.get? tp = some { cls := .type "tuple", data := .seq #[.type "bytes", .type "bytearray"] }) (hax : h.get? ax = some (lob vs n)) (H : ∀ tk', Q (.bool false) ⟨h, gs, dr, tk', os⟩) :
    wpAny (model pw w) A (call (.builtin "isinstance") [.ref ax, .ref tp]) Q E ⟨h, gs, dr, tk, os⟩ :=
  kia_tup (K := objs w.params) (its := [.type "bytes", .type "bytearray"]) kitx_list B.inK ⟨_, hax, rfl⟩ htp (by rfl) (by simp) (fun tk' => H tk')
theorem x_isi_l2 {ax tp : Addr} {vs : List Value} {n : Nat} (B : Base w h) (htp : h.get? tp = some { cls := .type "tuple", data := .seq #[.type "list", .type "tuple"] }) (hax : h.get? ax = some (lob vs n)) (H : ∀ tk', Q (.bool true) ⟨h, gs, dr, tk', os⟩) :
    wpAny (model pw w) A (call (.builtin "isinstance") [.ref ax, .ref tp]) Q E ⟨h, gs, dr, tk, os⟩ :=
  kia_tup (K := objs w.params) (its := [.type "list", .type "tuple"]) kitx_list B.inK ⟨_, hax, rfl⟩ htp (by rfl) (by simp) (fun tk' => H tk')
/-- a call of one of the program's functions, in a generator expression's element -/
theorem x_elt {fn x : Str} {np p pos : Pos} {gscope : Scope} {C f : Addr} {code v : Value} {env₀ : Env} {o : Obj} {fd : FuncData} {s : Shared} {m : Str → Option Value} (B : Base w s.heap) (hv : globs.lookup fn = some (.ref f)) (hk : gscope.kind = .function) (hl : gscope.names.lookup fn = some .globalImplicit) (hlx : gscope.names.lookup x = some .local)
    (hd : (fn == ("__debug__" : Str)) = false) (hdx : (x == ("__debug__" : Str)) = false) (ho : (objs w.params).lookup f = some o) (hdat : o.data = .func fd) (hg : env₀.globals = mainGlobals) (hn : s.heap.Ns C m) (hm : m x = some v)
    (he : starEach [.Name x p] (genEnv gscope [] C code builtinsNs env₀) = (false, eval (.Name x p) (genEnv gscope [] C code builtinsNs env₀)) :: starEach [] (genEnv gscope [] C code builtinsNs env₀))
    (H : wpAny (model pw w) A (call (.ref f) [v]) Q E s) : wpAny (model pw w) A (eval (.Call (.Name fn np) [.Name x p] [] pos) (genEnv gscope [] C code builtinsNs env₀)) Q E s := by
  obtain ⟨mg, h1, h2, _⟩ := B.g
  refine wpAny_Call_ofName (Name_function_global hk hl (loadGlobal_global (s := s) (by show s.heap.Ns env₀.globals mg; rw [hg]; exact h1) (h2 _ (globs_mem hv)) ?_) hd)
  refine callWith_def (o := o) hdat ?_ he
  refine wpAny_items_cons (wpAny_Name (wpAny_loadName_local hk hlx hn hm ?_) hdx) (by rfl)
  exact wpAny_items_nil ⟨B.get ho, H⟩
/-- where the generator expression of encode_raw stands -/
def gpos : Pos := ⟨226, 27, 226, 56⟩
end
section
variable {w : World}
theorem enc_call : ∀ (k : Nat) (t : Tr), Deep k t → ∀ {A : Around} {E : Value → Shared → Prop} {gs : Array GenState} {dr : Drawn} {tk : Nat} {os : OsState} {h : Heap} {Q : Value → Shared → Prop} {v : Value} {T : Ledger} {o : Obj} {ps : Array Value},
    Base w h → A.depth + 2 * k + 3 < recursionLimit → A.handled = none → (encT t).length ≤ 60000 → h.get? 1702 = some o → TabO o ps → Stands h T → Rep T v t →
    (∀ h' t' tk' gs' o', (∀ b ob, b ≠ 1702 → h.get? b = some ob → h'.get? b = some ob) → h'.get? 1702 = some o' → (∃ ps', TabO o' ps') → (Hit gpos o → o' = o) → GExt gs gs' → Q (.bytes (encT t).toArray t') ⟨h', gs', dr, tk', os⟩) →
    wpAny (model pw w) A (call (.ref 1707) [v]) Q E ⟨h, gs, dr, tk, os⟩ := by
  intro k
  induction k with
  | zero =>
    intro t D A E gs dr tk os h Q v T o ps B hd hh hz ho ht hT R H
    cases D
    cases R
    exact enc_b B (by omega) hh (by rename_i x _; have : x.length ≤ (encT (.b x)).length := by { rw [encT]; split <;> simp }; omega) fun h' t' tk' k => H h' t' tk' _ o (fun b ob _ e => k b ob e) (k _ _ ho) ⟨_, ht⟩ (fun _ => rfl) (GExt.refl _)
  | succ k ih =>
    intro t D A E gs dr tk os h Q v T o ps B hd hh hz ho ht hT R H
    cases R with
    | @b x u => exact enc_b B (by omega) hh (by have : x.length ≤ (encT (.b x)).length := by { rw [encT]; split <;> simp }; omega) fun h' t' tk' k => H h' t' tk' _ o (fun b ob _ e => k b ob e) (k _ _ ho) ⟨_, ht⟩ (fun _ => rfl) (GExt.refl _)
    | @l ax vs n ts hm Rs =>
      have D' : ∀ t ∈ ts, Deep k t := by cases D; assumption
      obtain ⟨hax7, hax⟩ := hT _ hm
      dsimp only at hax7 hax
      refine x_enter B (by omega) (by rfl) (by rfl) (by rfl) (by rfl) (by rfl) (binds := [(Str.ofString "item", _)]) (by rfl) (locs (by rfl)) (by rfl) (by rfl) (by rfl) (by decide) ?_
      intro h₁ L tk' _ F₀ N₀
      have hh' : (A.deeper (envOf (Str.ofString "encode_raw") (fdS (sAt 29)) L 1707 (Value.ref 1706))).handled = none := hh
      have B' : Base w (hideAll h [1702]) := base_tab B
      have F := fr_hide (S := 1702) F₀
      have h1L : (1702 : Addr) ≠ L := Nat.ne_of_lt (Nat.lt_of_lt_of_le (Heap.lt_size ho) F₀.above)
      have N : News (hideAll h [1702]) L h₁ [(1702, o)] := by
        intro p hp
        rw [List.mem_singleton] at hp
        subst hp
        exact ⟨F₀.keep _ _ ho, h1L, hideAll_none _ (.head _)⟩
      have hax' : (hideAll h [1702]).get? ax = some (lob vs n) := hideAll_get _ hax (by simpa using hax7)
      clear N₀
      have B₁ := B
      replace B := B'
      show wpAny _ _ (execs (fdB (sAt 29)) _) _ _ _
      refine wpAny_execs_cons ?_
      repeat' tb_start
      refine x_isi_l1 (B.keeps F.keep) (N.get (.head _)) (F.keep _ _ hax') fun tk' => ?_
      repeat' tb_start
      refine x_isi_l2 (B.keeps F.keep) (N.get (.head _)) (F.keep _ _ hax') fun tk' => ?_
      repeat' tb_start
      refine x_gen (n := n) (vs := vs) F N B (by tb_rel) ht (by rfl) (F.keep _ _ hax') (by show A.depth + 1 < _; omega) (by rfl) (by rfl) (by decide) (by rfl) (by rfl) (by decide) (by rfl) (by rfl) fun h4 gs4 tk4 G I C o2 code X => ?_
      repeat' tb_start
      have hen : (encT (.l ts)).length = (preB (encTs ts).length 192).length + (encTs ts).length := by rw [encT, List.length_append]
      refine x_join F N B hh' (by tb_rel) (F.keep _ _ hax') hax7 (by show A.depth + 1 < _; omega) (by rfl) (by rfl) (by rfl) X (bs := ts.map encT) (by simpa using Rs.length) (by have := encTs_len ts; rw [List.length_map]; omega) (by rw [← encTs_eq]; omega) (fun i v hv A' E' s m hA hdA kp h17 hns hmx => ?_) fun h' t' tk' gs' kp h17 hit same ge => ?_
      · obtain ⟨ti, hti, Ri⟩ := Rs.get i v hv
        have hmem : ti ∈ ts := List.mem_of_getElem? hti
        have hle := encT_mem hmem
        have e : (ts.map encT).getD i [] = encT ti := by simp [hti]
        have Bs : Base w s.heap := B.keeps fun b ob q => kp b ob (hide1 b ob q).2 (F.keep b ob q)
        have hg : (envOf (Str.ofString "encode_raw") (fdS (sAt 29)) L 1707 (Value.ref 1706)).globals = mainGlobals := rfl
        have X2 := X.hit
        obtain ⟨ps2, c2, ht2, hf2⟩ := X2
        refine x_elt Bs (by rfl) (by rfl) (by rfl) (by rfl) (by decide) (by decide) (by rfl) (by rfl) hg hns hmx (by rfl) ?_
        obtain ⟨hs', gs'', dr'', tk'', os''⟩ := s
        dsimp only at kp h17
        refine ih ti (D' ti hmem) (T := T) Bs (by have : A'.depth ≤ A.depth + 1 + 1 := hdA; omega) hA (by omega) h17 ht2 (fun p hp => ⟨(hT p hp).1, kp _ _ (hT p hp).1 (F.keep _ _ (hideAll_get _ (hT p hp).2 (by simpa using (hT p hp).1)))⟩) Ri fun h'' t' tk₃ gs₃ o' kp' h17' _ same' ge' => ?_
        have e2 : o' = o2 := same' ⟨ps2, c2, ht2, hf2⟩
        rw [e]
        refine ⟨⟨t', rfl⟩, h'', tk₃, gs₃, rfl, fun b ob q => ?_, ge'⟩
        by_cases hb : b = 1702
        · subst hb
          rw [h17] at q
          cases q
          rw [h17', e2]
        · exact kp' b ob hb q
      · have F' : Fr (hideAll h [1702]) L h' _ := ⟨F.ns.at' fun ob e => kp L ob h1L.symm e, fun b ob e => kp b ob (hide1 b ob e).2 (F.keep b ob e), F.above⟩
        have N' : News (hideAll h [1702]) L h' [(1702, o2)] := by
          intro p hp
          rw [List.mem_singleton] at hp
          subst hp
          exact ⟨h17, h1L, hideAll_none _ (.head _)⟩
        clear F N
        have F := F'
        have N := N'
        clear F' N'
        have ele : (ts.map encT).flatten = encTs ts := (encTs_eq ts).symm
        rw [ele]
        repeat' tb_start
        refine wpAny_Try_except ?_
        repeat' tb_start
        have hp := preB_le (encTs ts).length 192
        refine lp_call (n := (encTs ts).length) (o := 192) (B.keeps F.keep) (by show A.depth + 1 + 1 < _; omega) (by omega) (by omega) fun h₂ t' tk₂ k₂ => ?_
        replace N := news_ke N k₂
        replace F := F.keeps k₂
        repeat' tb_start
        refine x_badd (by omega) fun t' tk' => ?_
        repeat' tb_start
        have e : encT (.l ts) = preB (encTs ts).length 192 ++ encTs ts := by rw [encT]
        rw [e] at H
        obtain ⟨ps2, c2, ht2, hf2⟩ := hit
        exact H _ _ _ _ o2 (fun b ob hb q => F.keep _ _ (hideAll_get _ q (by simpa using hb))) (N.get (.head _)) ⟨ps2, ht2⟩ same ge
end
end

section
/-- the locals of encode -/
abbrev encB (ob sv : Value) (inf ca : Bool) : List (Str × Value) := [(Str.ofString "obj", ob), (Str.ofString "sedes", sv), (Str.ofString "infer_serializer", .bool inf), (Str.ofString "cache", .bool ca)]
abbrev encFd (pm : Value) : FuncData := defFd "encode" "encode" (fdA (sAt 31)) (fdB (sAt 31)) (fdS (sAt 31)) mainGlobals (.ref 1715) .none none pm (.ref 1721) .none
section
variable {w : World} {A : Around} {E : Value → Shared → Prop} {gs : Array GenState} {dr : Drawn} {tk : Nat} {os : OsState} {h : Heap} {Q : Value → Shared → Prop}
theorem encode_call {k : Nat} {t : Tr} {v : Value} {T : Ledger} {o : Obj} {ps : Array Value} {vals : List Value} {kw : List (Str × Value)} {ca : Bool} (D : Deep k t) (B : Base w h) (hd : A.depth + 2 * k + 4 < recursionLimit) (hh : A.handled = none) (hz : (encT t).length ≤ 60000)
    (ho : h.get? 1702 = some o) (ht : TabO o ps) (hT : Stands h T) (R : Rep T v t)
    (hbind : ∀ pm S, peek (objs w.params) S (bindArgs (encFd pm) ⟨vals, kw⟩) = some (encB v .none false ca))
    (H : ∀ h' t' tk' gs' o', (∀ b ob, b ≠ 1702 → h.get? b = some ob → h'.get? b = some ob) → h'.get? 1702 = some o' → (∃ ps', TabO o' ps') → GExt gs gs' → Q (.bytes (encT t).toArray t') ⟨h', gs', dr, tk', os⟩) :
    wpAny (model pw w) A (call (.ref 1722) vals kw) Q E ⟨h, gs, dr, tk, os⟩ := by
  refine x_enterD B (by omega) (by rfl) (by rfl) (by rfl) (by rfl) (by rfl) (binds := encB v .none false ca) (hbind _) (locs (by rfl)) (by rfl) (by rfl) (by rfl) (by decide) ?_
  intro h₁ L tk' _ F₀ N₀
  have hh' : (A.deeper (envOf (Str.ofString "encode") (fdS (sAt 31)) L 1722 (Value.ref 1721))).handled = none := hh
  have B' : Base w (hideAll h [1702]) := base_tab B
  have F := fr_hide (S := 1702) F₀
  have h1L : (1702 : Addr) ≠ L := Nat.ne_of_lt (Nat.lt_of_lt_of_le (Heap.lt_size ho) F₀.above)
  have N : News (hideAll h [1702]) L h₁ [(1702, o)] := by
    intro p hp
    rw [List.mem_singleton] at hp
    subst hp
    exact ⟨F₀.keep _ _ ho, h1L, hideAll_none _ (.head _)⟩
  clear N₀
  replace B := B'
  show wpAny _ _ (execs (fdB (sAt 31)) _) _ _ _
  refine wpAny_execs_cons ?_
  repeat' tb_start
  refine enc_call k t D (T := T) (B.keeps F.keep) (by show A.depth + 1 + 2 * k + 3 < _; omega) hh' hz (N.get (.head _)) ht (fun p hp => ⟨(hT p hp).1, F.keep _ _ (hideAll_get _ (hT p hp).2 (by simpa using (hT p hp).1))⟩) R fun h' t' tk' gs' o' kp h17 ht' _ ge => ?_
  have F' : Fr (hideAll h [1702]) L h' _ := ⟨F.ns.at' fun ob e => kp L ob h1L.symm e, fun b ob e => kp b ob (hide1 b ob e).2 (F.keep b ob e), F.above⟩
  have N' : News (hideAll h [1702]) L h' [(1702, o')] := by
    intro p hp
    rw [List.mem_singleton] at hp
    subst hp
    exact ⟨h17, h1L, hideAll_none _ (.head _)⟩
  clear F N
  have F := F'
  have N := N'
  clear F' N'
  repeat' tb_start
  exact H _ _ _ _ o' (fun b ob hb q => F.keep _ _ (hideAll_get _ q (by simpa using hb))) (N.get (.head _)) ht' ge
end
end

section
open PySem.SeqAt
section
variable {A : Around} {s : Shared}
theorem rc_bytes (b c : List UInt8) (t u : Tok) : RcAt A s (.bytes b.toArray t) (.bytes c.toArray u) (b == c) := fun prog w E Q h => eq_bytes h
theorem eqAt_bytes (b c : List UInt8) (t u : Tok) : EqAt A s (.bytes b.toArray t) (.bytes c.toArray u) (b == c) := fun prog w E Q h => by
  unfold eqBool
  refine wpAny_holding ?_
  refine wpAny_ite_split (fun hab => ?_) (fun _ => ?_)
  · have e : b = c := by have := eq_of_beq hab; injection this with e; simpa using e
    subst e
    exact wpAny_bind (wpAny_rule (wpAny_pure (by simpa using h)))
  · exact wpAny_bind (rc_bytes b c t u prog w E _ (wpAny_truthy_bool h))
theorem all_true (n : Nat) : ((List.range n).all fun _ => true) = true := by simp
/-- two copies of one tree are the same -/
theorem rep_eq : ∀ (k : Nat) (t : Tr), Deep k t → ∀ {A : Around} {s : Shared} {T T' : Ledger} {v v' : Value}, (∀ p ∈ T, s.heap.get? p.1 = some p.2) → (∀ p ∈ T', s.heap.get? p.1 = some p.2) → Rep T v t → Rep T' v' t → A.units + k < cLine → EqAt A s v v' true := by
  intro k
  induction k with
  | zero =>
    intro t D A s T T' v v' h h' R R' hu
    cases D
    cases R
    cases R'
    have := eqAt_bytes (A := A) (s := s)
    rename_i x t1 t2
    simpa using this x x t1 t2
  | succ k ih =>
    intro t D A s T T' v v' h h' R R' hu
    cases R with
    | @b x t1 =>
      cases R' with
      | @b _ t2 => simpa using eqAt_bytes (A := A) (s := s) x x t1 t2
    | @l a vs n ts hm Rs =>
      cases R' with
      | @l a' vs' n' _ hm' Rs' =>
        have D' : ∀ t ∈ ts, Deep k t := by cases D; assumption
        by_cases e : a = a'
        · subst e; exact EqAt.same _
        · refine EqAt.of_refs e ?_
          have hl : s.heap.IsList a vs.toArray := ⟨_, h _ hm, rfl, n, rfl⟩
          have hl' : s.heap.IsList a' vs'.toArray := ⟨_, h' _ hm', rfl, n', rfl⟩
          have hz : vs.toArray.size = vs'.toArray.size := by rw [List.size_toArray, List.size_toArray, Rs.length, Rs'.length]
          rw [← all_true vs.toArray.size]
          refine RcAt.lists hl hl' hz (by omega) fun j j1 j2 => ?_
          obtain ⟨t1, q1, r1⟩ := Rs.get j _ (List.getElem?_eq_getElem (by simpa using j1))
          obtain ⟨t2, q2, r2⟩ := Rs'.get j _ (List.getElem?_eq_getElem (by simpa using j2))
          rw [q1] at q2
          cases q2
          exact ih t1 (D' t1 (List.mem_of_getElem? q1)) h h' r1 r2 (by show A.units + 1 + k < _; omega)
end
section
variable {prog : Program} {w : World} {A : Around} {E : Value → Shared → Prop} {gs : Array GenState} {dr : Drawn} {tk : Nat} {os : OsState} {h : Heap} {Q : Value → Shared → Prop}
theorem pair_of {s : Shared} {a b c d : Value} (p : EqAt A.in1 s a c true) {x y : Str} {t u : Tok} (e : b = .str x t) (e' : d = .str y u) : ∀ j (h1 : j < #[a, b].size) (h2 : j < #[c, d].size), EqAt A.in1 s #[a, b][j] #[c, d][j] (if j = 0 then true else (x == y)) := by
  intro j h1 h2
  subst e
  subst e'
  match j, h1, h2 with
  | 0, _, _ => exact p
  | 1, _, _ => exact EqAt.str_str x t y u
  | j + 2, h1, _ => exact absurd h1 (by simp)
/-- (v, words) == (v', words') where the first parts are the same -/
theorem x_pair_eq {a b : Addr} {v v' : Value} {x y : Str} {t u : Tok} (ha : h.get? a = some (tob [v, .str x t])) (hb : h.get? b = some (tob [v', .str y u])) (p : EqAt A.in1 ⟨h, gs, dr, tk, os⟩ v v' true) (hu : A.units < cLine)
    (H : Q (.bool (x == y)) ⟨h, gs, dr, tk, os⟩) : wpAny (model prog w) A (compareOp .Eq (.ref a) (.ref b)) Q E ⟨h, gs, dr, tk, os⟩ := by
  refine RcAt.tuples (s := ⟨h, gs, dr, tk, os⟩) (items := #[v, .str x t]) (items2 := #[v', .str y u]) ⟨_, ha, rfl, 0, rfl⟩ ⟨_, hb, rfl, 0, rfl⟩ hu (pair_of p rfl rfl) prog w E Q ?_
  cases hxy : (x == y) <;> (rw [hxy] at H; simpa [List.range, List.range.loop] using H)
theorem x_pair_ne {a b : Addr} {v v' : Value} {x y : Str} {t u : Tok} (ha : h.get? a = some (tob [v, .str x t])) (hb : h.get? b = some (tob [v', .str y u])) (p : EqAt A.in1 ⟨h, gs, dr, tk, os⟩ v v' true) (hu : A.units < cLine)
    (H : Q (.bool (!(x == y))) ⟨h, gs, dr, tk, os⟩) : wpAny (model prog w) A (compareOp .NotEq (.ref a) (.ref b)) Q E ⟨h, gs, dr, tk, os⟩ := by
  refine RcNeAt.tuples (s := ⟨h, gs, dr, tk, os⟩) (items := #[v, .str x t]) (items2 := #[v', .str y u]) ⟨_, ha, rfl, 0, rfl⟩ ⟨_, hb, rfl, 0, rfl⟩ hu (pair_of p rfl rfl) prog w E Q ?_
  cases hxy : (x == y) <;> (rw [hxy] at H; simpa [List.range, List.range.loop] using H)
theorem x_pair_eq_t {a b : Addr} {v v' : Value} {x : Str} {t u : Tok} (ha : h.get? a = some (tob [v, .str x t])) (hb : h.get? b = some (tob [v', .str x u])) (p : EqAt A.in1 ⟨h, gs, dr, tk, os⟩ v v' true) (hu : A.units < cLine)
    (H : Q (.bool true) ⟨h, gs, dr, tk, os⟩) : wpAny (model prog w) A (compareOp .Eq (.ref a) (.ref b)) Q E ⟨h, gs, dr, tk, os⟩ := x_pair_eq ha hb p hu (by rw [beq_self_eq_true]; exact H)
theorem x_pair_ne_f {a b : Addr} {v v' : Value} {x : Str} {t u : Tok} (ha : h.get? a = some (tob [v, .str x t])) (hb : h.get? b = some (tob [v', .str x u])) (p : EqAt A.in1 ⟨h, gs, dr, tk, os⟩ v v' true) (hu : A.units < cLine)
    (H : Q (.bool false) ⟨h, gs, dr, tk, os⟩) : wpAny (model prog w) A (compareOp .NotEq (.ref a) (.ref b)) Q E ⟨h, gs, dr, tk, os⟩ := x_pair_ne ha hb p hu (by rw [beq_self_eq_true]; exact H)
end
end

section
section
variable {g h h' : Heap} {L S : Addr} {mm : Str → Option Value} {news news' : Ledger} {o o' : Obj}
theorem fr_but (F : Fr g L h mm) (N : News g L h news) (U : Upd S o o' news news') (k : ∀ b ob, b ≠ S → h.get? b = some ob → h'.get? b = some ob) : Fr g L h' mm := by
  obtain ⟨pre, post, rfl, rfl, a, b⟩ := U.split
  have z := N (S, o) (List.mem_append.mpr (.inr (.head _)))
  exact ⟨F.ns.at' fun ob e => k L ob (Ne.symm z.2.1) e, fun b ob e => k b ob (fun q => by have := z.2.2; rw [← q, e] at this; cases this) (F.keep b ob e), F.above⟩
theorem news_but (N : News g L h news) (U : Upd S o o' news news') (k : ∀ b ob, b ≠ S → h.get? b = some ob → h'.get? b = some ob) (hS : h'.get? S = some o') : News g L h' news' := by
  obtain ⟨pre, post, rfl, rfl, a, c⟩ := U.split
  intro p hp
  rcases List.mem_append.mp hp with hp | hp
  · have z := N p (List.mem_append_left _ hp)
    exact ⟨k _ _ (a p hp) z.1, z.2⟩
  · rcases List.mem_cons.mp hp with rfl | hp
    · have z := N (S, o) (List.mem_append.mpr (.inr (.head _)))
      exact ⟨hS, z.2⟩
    · have z := N p (List.mem_append_right _ (.tail _ hp))
      exact ⟨k _ _ (c p hp) z.1, z.2⟩
end
section
variable {prog : Program} {w : World} {A : Around} {E : Value → Shared → Prop} {gs : Array GenState} {dr : Drawn} {tk : Nat} {os : OsState} {h g : Heap} {L a : Addr} {mm : Str → Option Value} {news : Ledger} {Q : Value → Shared → Prop} {t u : Tok} {name : Str} {scope : Scope} {cd : Value}
/-- xs[:k] of a list that stands -/
theorem x_sll {l : Addr} {vs : List Value} {k : Int} {value slice : Expr} {ns : List Int} (F : Fr g L h mm) (N : News g L h news) (hl : Heap.IsList h l vs.toArray) (hi : IntsAre vs ns) (hk : 0 ≤ k) (hz : vs.length ≤ 1000)
    (hs : ∀ h : Heap, subscripted slice false (.ref l) (.ref h.objs.size) = operate [.ref h.objs.size, .ref l] (getItem (.ref l) (.ref h.objs.size))) (ht : ∀ r, letTemporaryGo value (.ref l) r = pure ())
    (H : ∀ h' u cells, IntsAre cells (ns.take k.toNat) → (∀ p ∈ news, p.1 ≠ u) → Fr g L h' mm → News g L h' ((u, lob cells 0) :: news) → Q (.ref u) ⟨h', gs, dr, tk, os⟩) :
    SlQ (fun i s₂ => wpAny (model prog w) A (subscriptTail value slice (.ref l) i) Q E s₂) .none (.int k t) ⟨h, gs, dr, tk, os⟩ :=
  slice_list (s := ⟨h, gs, dr, tk, os⟩) (items := vs.toArray) F N hl .none (.int k t) (fun h' F' N' => by
    refine H h' _ (slicePick vs.toArray none (some k) none).toList (slice_ints_uptoW hi hk) (fun p hp e => ?_) F' (by simpa [lob] using N')
    have z := (N p hp).1
    have := Heap.lt_size z
    rw [e] at this
    exact Nat.lt_irrefl _ (Nat.lt_of_succ_lt this)) (hs h) ht (by rw [List.size_toArray, sizeLine_eq]; omega)
/-- range(n) -/
theorem x_range {i : Int} (F : Fr g L h mm) (N : News g L h news) (H : ∀ h' u tk' t1 t2, (∀ p ∈ news, p.1 ≠ u) → Fr g L h' mm → News g L h' ((u, { cls := .type "range", data := .fields #[.int 0 t1, .int i t, .int 1 t2] }) :: news) → Q (.ref u) ⟨h', gs, dr, tk', os⟩) :
    wpAny (model prog w) A (call (.type "range") [.int i t]) Q E ⟨h, gs, dr, tk, os⟩ := by
  refine call_range_1 (s := ⟨h, gs, dr, tk, os⟩) ?_
  refine H _ _ _ tk (tk + 1) (news_lt N) (F.push _) ?_
  exact News.push F N _
/-- a for loop over a range of n -/
theorem x_iter_range {r : Addr} {n : Nat} {t1 t2 t3 : Tok} {env : Env} {target : Expr} {body : List Stmt} {R : Result → Shared → Prop} (hh : A.handled = none) (hn : n ≤ 1000000) (J : Nat → (Str → Option Value) → Ledger → Array GenState → Prop) (h0 : J 0 mm news gs) (F : Fr g L h mm) (N : News g L h news)
    (hr : h.get? r = some { cls := .type "range", data := .fields #[.int 0 t1, .int (n : Int) t2, .int 1 t3] })
    (turn : ∀ (i : Nat) u m news gs' h tk own I, i < n → J i m news gs' → Fr g L h m → News g L h (own ++ news) → (∀ p ∈ own, p.1 = I) → (∃ o, (I, o) ∈ own) → (∀ p ∈ news, p.1 ≠ I) →
      wpAny (model prog w) A (assign target env (.int (i : Int) u)) (fun _ s₂ => wpAny (model prog w) A (execs body env) (fun f s₃ => match f with
          | .next | .cont => ∃ m' news' gs'' h' tk', s₃ = ⟨h', gs'', dr, tk', os⟩ ∧ J (i + 1) m' news' gs'' ∧ Fr g L h' m' ∧ News g L h' (own ++ news') ∧ ∀ p ∈ news', p.1 ≠ I
          | .brk => R (.ok .next) s₃
          | .ret v => R (.ok (.ret v)) s₃) (notedBy (model prog w) A env fun e s' => R (.error e) s') s₂) (notedBy (model prog w) A env fun e s' => R (.error e) s') ⟨h, gs', dr, tk, os⟩)
    (done : ∀ m' news' gs' h' tk', J n m' news' gs' → Fr g L h' m' → News g L h' news' → R (.ok .next) ⟨h', gs', dr, tk', os⟩)
    (ht : ∀ I v, letOwnedTupleGo target (.ref I) v = pure ()) :
    wpAny (model prog w) A (pyIter (.ref r)) (fun it s₂ => codeAny (model prog w) A (.forLoop target it body [] env) R s₂) E ⟨h, gs, dr, tk, os⟩ := by
  refine wpAny_pyIter_range (s := ⟨h, gs, dr, tk, os⟩) (a := 0) (b := n) (c := 1) hr (small_one (by omega) (by omega) (by omega) (by omega)) ?_
  have hsz : Builtin.Range.rangeSize 0 (n : Int) 1 = (n : Int) := by rw [rangeSize_one]; split <;> omega
  have hI : ∀ p ∈ news, p.1 ≠ h.objs.size := news_lt N
  have hLI : L ≠ h.objs.size := Nat.ne_of_lt F.ns.lt
  refine loop_own (Walks.range hh h.objs.size 0 1 n) (by simpa using hLI) (fun b hb => ?_) (fun i h' st b hb => ?_) J h0 (F.push _) (fun p hp => ⟨Heap.get?_push_of_some _ (N p hp).1, (N p hp).2⟩) (fun p hp => by simpa using hI p hp) (by show IsRangeIter _ _ _ _ _; rw [hsz]; simpa using Heap.get?_push_size _ rfl) ?_ (fun m' news' gs' h' tk' hJ F' N' => done m' news' gs' h' tk' hJ F' N') (ht _)
  · rw [List.mem_singleton.mp hb]
    cases q : g.get? h.objs.size with
    | none => rfl
    | some o => exact absurd (Heap.lt_size (F.keep _ _ q)) (Nat.lt_irrefl _)
  · rw [List.mem_singleton.mp hb]
    exact ⟨_, st⟩
  · rintro i v m news gs' h' tk' own hi ⟨u, rfl⟩ hJ F' N' hown hnw hlive
    have := turn i u m news gs' h' tk' own h.objs.size hi hJ F' N' (fun p hp => by simpa using hown p hp) (hlive _ (by simp)) (fun p hp => by simpa using hnw p hp)
    rw [show (0 : Int) + (i : Int) * 1 = (i : Int) by omega]
    refine wpAny_mono this (fun _ s₂ h₂ => wpAny_mono h₂ (fun f s₃ h₃ => ?_) fun _ _ z => z) fun _ _ z => z
    cases f with
    | next => obtain ⟨m', news', gs'', h'', tk'', e, a, b, c, d⟩ := h₃; exact ⟨m', news', gs'', h'', tk'', e, a, b, c, fun p hp => by simpa using d p hp⟩
    | cont => obtain ⟨m', news', gs'', h'', tk'', e, a, b, c, d⟩ := h₃; exact ⟨m', news', gs'', h'', tk'', e, a, b, c, fun p hp => by simpa using d p hp⟩
    | brk => exact h₃
    | ret v => exact h₃
/-- bytes([i]) -/
theorem x_bytes1 {l : Addr} {i : Int} {n : Nat} (F : Fr g L h mm) (N : News g L h news) (hl : h.get? l = some (lob [.int i t] n)) (h0 : 0 ≤ i) (h1 : i < 256) (hh : A.handled = none)
    (H : ∀ h' t' tk', Fr g L h' mm → News g L h' news → Q (.bytes [UInt8.ofNat i.toNat].toArray t') ⟨h', gs, dr, tk', os⟩) : wpAny (model prog w) A (call (.type "bytes") [.ref l]) Q E ⟨h, gs, dr, tk, os⟩ := by
  refine PySem.call_bytes_ints (s := ⟨h, gs, dr, tk, os⟩) (vs := [.int i t]) (ns := [i]) ⟨_, hl, rfl, n, rfl⟩ (.cons i t .nil) (by simpa using ⟨h0, h1⟩) (by rw [sizeLine_eq]; simp) hh fun h' t' tk' k => ?_
  exact H h' t' tk' (F.keeps k) (news_ke N k)
/-- b * n -/
theorem x_bmul {b : UInt8} {i : Int} (h2 : 2 ≤ i) (hn : i ≤ 100000) (H : ∀ t' tk', Q (.bytes (List.replicate i.toNat b).toArray t') ⟨h, gs, dr, tk', os⟩) : wpAny (model prog w) A (binaryOp .Mult (.bytes [b].toArray t) (.int i u)) Q E ⟨h, gs, dr, tk, os⟩ :=
  bytes_mul_K (s := ⟨h, gs, dr, tk, os⟩) (b := [b]) (d := List.replicate i.toNat b) (by simp) h2 (by omega) (by simp; omega) (by
    have : ∀ n, (List.replicate n [b]).flatten = List.replicate n b := by
      intro n
      induction n with
      | zero => rfl
      | succ n ih => rw [List.replicate_succ, List.flatten_cons, ih]; rfl
    exact this _) fun t' k => H t' k
theorem x_strint {i : Int} (hi : i.natAbs < 2 ^ 70) (H : ∀ t' tk', Q (.str (Str.ofString (toString i)) t') ⟨h, gs, dr, tk', os⟩) : wpAny (model prog w) A (call (.type "str") [.int i t]) Q E ⟨h, gs, dr, tk, os⟩ := by
  have hl : i.natAbs.log2 < 70 := by
    by_cases h0 : i.natAbs = 0
    · rw [h0]; decide
    · exact (Nat.log2_lt h0).mpr hi
  exact PySem.P.str_of_int (s := ⟨h, gs, dr, tk, os⟩) (Nat.lt_trans hl (by decide)) (H _ _)
/-- a call without arguments -/
theorem x_call0 {x : Str} {np pos : Pos} {f : Addr} {o : Obj} {fd : FuncData} (F : Fr g L h mm) (B : Base w g) (hv : globs.lookup x = some (.ref f)) (hk : scope.kind = .function) (hl : scope.names.lookup x = some .globalImplicit)
    (hd : (x == ("__debug__" : Str)) = false) (ho : (objs w.params).lookup f = some o) (hdat : o.data = .func fd)
    (H : wpAny (model pw w) A (call (.ref f) []) Q E ⟨h, gs, dr, tk, os⟩) : wpAny (model pw w) A (eval (.Call (.Name x np) [] [] pos) (envOf name scope L a cd)) Q E ⟨h, gs, dr, tk, os⟩ := by
  refine wpAny_Call_ofName (x_glob F B hv hk hl hd ?_)
  exact Calls.callWith_function (o := o) (fd := fd) (PyProof.Rows.evalArgs_none ⟨⟨(B.keeps F.keep).get ho, hdat⟩, by simpa using H⟩)
end
end

section
/-! the order of the octets (02) -/
/-- the first place where two rows of octets part, and how -/
def Less (a b : List UInt8) : Prop := ∃ p x y s t, a = p ++ x :: s ∧ b = p ++ y :: t ∧ x.toNat < y.toNat
theorem Less.front {a b : List UInt8} (p : List UInt8) (h : Less a b) : Less (p ++ a) (p ++ b) := by
  obtain ⟨q, x, y, s, t, rfl, rfl, hl⟩ := h
  exact ⟨p ++ q, x, y, s, t, by simp, by simp, hl⟩
theorem Less.behind {a b : List UInt8} (u v : List UInt8) (h : Less a b) : Less (a ++ u) (b ++ v) := by
  obtain ⟨q, x, y, s, t, rfl, rfl, hl⟩ := h
  exact ⟨q, x, y, s ++ u, t ++ v, by simp, by simp, hl⟩
theorem Less.head {x y : UInt8} (s t : List UInt8) (h : x.toNat < y.toNat) : Less (x :: s) (y :: t) := ⟨[], x, y, s, t, rfl, rfl, h⟩
theorem Less.ne {a b : List UInt8} (h : Less a b) : a ≠ b := by
  obtain ⟨q, x, y, s, t, rfl, rfl, hl⟩ := h
  intro e
  have := List.append_cancel_left e
  injection this with e1 _
  rw [e1] at hl
  exact Nat.lt_irrefl _ hl
theorem Less.asymm {a b : List UInt8} (h : Less a b) : ¬ Less b a := by
  intro k
  obtain ⟨q, x, y, s, t, rfl, rfl, hl⟩ := h
  obtain ⟨q', x', y', s', t', e1, e2, hl'⟩ := k
  have hx : (q ++ x :: s)[q.length]? = some x := by simp
  have hy : (q ++ y :: t)[q.length]? = some y := by simp
  have hx' : (q' ++ y' :: t')[q'.length]? = some y' := by simp
  have hy' : (q' ++ x' :: s')[q'.length]? = some x' := by simp
  rcases Nat.lt_trichotomy q.length q'.length with h | h | h
  · have a1 : (q' ++ x' :: s')[q.length]? = q'[q.length]? := List.getElem?_append_left h
    have a2 : (q' ++ y' :: t')[q.length]? = q'[q.length]? := List.getElem?_append_left h
    rw [← e1, hy] at a1
    rw [← e2, hx] at a2
    have := a1.trans a2.symm
    injection this with this
    rw [this] at hl
    exact Nat.lt_irrefl _ hl
  · rw [e1, h, hy'] at hy
    rw [e2, h, hx'] at hx
    injection hy with hy
    injection hx with hx
    rw [hy, hx] at hl'
    omega
  · have a1 : (q ++ x :: s)[q'.length]? = q[q'.length]? := List.getElem?_append_left h
    have a2 : (q ++ y :: t)[q'.length]? = q[q'.length]? := List.getElem?_append_left h
    rw [e2, hx'] at a1
    rw [e1, hy'] at a2
    have := a1.trans a2.symm
    injection this with this
    rw [this] at hl'
    exact Nat.lt_irrefl _ hl'
/-- octets of one length: the same, or less, or more -/
theorem less_tri : ∀ (a b : List UInt8), a.length = b.length → a = b ∨ Less a b ∨ Less b a
  | [], [], _ => .inl rfl
  | [], _ :: _, h => by simp at h
  | _ :: _, [], h => by simp at h
  | x :: a, y :: b, h => by
    rcases Nat.lt_trichotomy x.toNat y.toNat with e | e | e
    · exact .inr (.inl (.head _ _ e))
    · have e' : x = y := UInt8.toNat_inj.mp e
      subst e'
      rcases less_tri a b (by simpa using h) with k | k | k
      · exact .inl (by rw [k])
      · exact .inr (.inl (k.front [x]))
      · exact .inr (.inr (k.front [x]))
    · exact .inr (.inr (.head _ _ e))
/-- heads are in the order of the sizes -/
theorem preB_less {m n o : Nat} (h : m < n) (hn : n < 65536) (ho : o ≤ 192) : Less (preB m o) (preB n o) := by
  unfold preB
  have e : ∀ k, k < 256 → (UInt8.ofNat k).toNat = k := fun k hk => by simp; omega
  by_cases h1 : n < 56
  · rw [if_pos (by omega), if_pos h1]
    exact .head _ _ (by rw [e _ (by omega), e _ (by omega)]; omega)
  · rw [if_neg h1]
    by_cases h2 : m < 56
    · rw [if_pos h2]
      have := lenB_le n
      have hp : 0 < (lenB n).length := by unfold lenB; split <;> simp
      exact .head _ _ (by rw [e _ (by omega), e _ (by omega)]; omega)
    · rw [if_neg h2]
      unfold lenB
      by_cases h3 : n < 256
      · rw [if_pos h3, if_pos (show m < 256 by omega)]
        refine Less.front [_] (.head _ _ ?_)
        rw [e _ (by omega), e _ (by omega)]
        omega
      · rw [if_neg h3]
        by_cases h4 : m < 256
        · rw [if_pos h4]
          refine .head _ _ ?_
          simp only [List.length_cons, List.length_nil]
          rw [e _ (by omega), e _ (by omega)]
          omega
        · rw [if_neg h4]
          refine Less.front [_] ?_
          by_cases h5 : m / 256 = n / 256
          · rw [h5]
            refine Less.front [_] (.head _ _ ?_)
            rw [e _ (by omega), e _ (by omega)]
            omega
          · refine .head _ _ ?_
            rw [e _ (by omega), e _ (by omega)]
            omega
end

section
open Builtin in
/-- bytes < bytes -/
theorem slot_blt : Slot "bytes" (cmpInfo .Lt).2.1 "bytes.__lt__" :=
  .of (owner := "bytes") (n := "__lt__") (by rw [typeLookup_type, builtinLookup_eq_fast]; kernel_rfl) (by decide +kernel) (by decide +kernel) (by decide +kernel)
    (by first | exact .inl (by decide +kernel) | exact .inr (by decide +kernel)) (by rw [isSubtype_type]; kernel_rfl)
theorem entry_blt : entryFor table "bytes.__lt__" = some Builtin.«bytes.__lt__» := entryFor_of_fast (by kernel_rfl)
theorem args_blt (a b : Value) : argsOk "bytes.__lt__" ⟨[a, b], []⟩ := by unfold argsOk; kernel_rfl
theorem gives_blt (b c : Array UInt8) (t u : Tok) : Gives (Builtin.«bytes.__lt__» ⟨[.bytes b t, .bytes c u], []⟩) (.val (.bool (Builtin.Bytes.order b.toList c.toList == .lt))) := by
  refine .of_wp fun M A E s Q hq => ?_
  show wpAny M A (isInstance (.bytes c u) (.type "bytes") >>= fun r => _) _ E s
  refine wpAny_bind (wpAny_isInstance (typeIs_bytes s c u) PySem.F.sub_bytes_bytes ?_)
  exact wpAny_pure ⟨_, rfl, hq⟩
def ltB (a b : List UInt8) : Bool := Builtin.Bytes.order a b == .lt
theorem x_bltt {prog : Program} {w : World} {A : Around} {E : Value → Shared → Prop} {s : Shared} {b c : List UInt8} {t u : Tok} {Q : Value → Shared → Prop} (h : Q (.bool (ltB b c)) s) : wpAny (model prog w) A (compareOp .Lt (.bytes b.toArray t) (.bytes c.toArray u)) Q E s :=
  compareOp_gives (op := .Lt) (typeIs_bytes s b.toArray t) (typeIs_bytes s c.toArray u) slot_blt entry_blt (args_blt _ _) (gives_blt b.toArray c.toArray t u) (fun e => nomatch e) h
theorem order_front : ∀ (p a b : List UInt8), Builtin.Bytes.order (p ++ a) (p ++ b) = Builtin.Bytes.order a b
  | [], _, _ => rfl
  | x :: p, a, b => by
    show (if x < x then _ else if x > x then _ else Builtin.Bytes.order (p ++ a) (p ++ b)) = _
    rw [if_neg (UInt8.lt_irrefl _), if_neg (UInt8.lt_irrefl _), order_front p a b]
theorem less_lt {a b : List UInt8} (h : Less a b) : ltB a b = true := by
  obtain ⟨p, x, y, s, t, rfl, rfl, hl⟩ := h
  unfold ltB
  rw [order_front]
  show ((if x < y then _ else _) == Ordering.lt) = true
  rw [if_pos (UInt8.lt_iff_toNat_lt.mpr hl)]
  rfl
theorem more_lt {a b : List UInt8} (h : Less b a) : ltB a b = false := by
  obtain ⟨p, x, y, s, t, rfl, rfl, hl⟩ := h
  unfold ltB
  rw [order_front]
  show ((if y < x then _ else if y > x then _ else _) == Ordering.lt) = false
  rw [if_neg (fun q => by have := UInt8.lt_iff_toNat_lt.mp q; omega), if_pos (UInt8.lt_iff_toNat_lt.mpr hl)]
  rfl
theorem ltB_refl : ∀ (a : List UInt8), ltB a a = false
  | [] => rfl
  | x :: a => by
    have := order_front [x] a a
    unfold ltB at *
    have e := ltB_refl a
    unfold ltB at e
    rw [show x :: a = [x] ++ a from rfl, this, e]
end

section
/-- a single octet that stands for itself -/
def single (x : List UInt8) : Bool := x.length == 1 && decide ((x.getD 0 0).toNat < 128)
def tagT : Tr → Int
  | .b x => if single x then 0 else 1
  | .l _ => 2
def keyT : Tr → Int
  | .b x => if single x then (x.getD 0 0).toNat else x.length
  | .l ts => (encTs ts).length
mutual
/-- the law's comparison of two trees -/
def cmpT : Tr → Tr → Int
  | .b x, t => if tagT (.b x) ≠ tagT t then (if tagT (.b x) < tagT t then -1 else 1) else if keyT (.b x) ≠ keyT t then (if keyT (.b x) < keyT t then -1 else 1)
    else match t with
      | .b y => if x ≠ y then (if ltB x y then -1 else 1) else 0
      | .l _ => 0
  | .l ts, t => if tagT (.l ts) ≠ tagT t then (if tagT (.l ts) < tagT t then -1 else 1) else if keyT (.l ts) ≠ keyT t then (if keyT (.l ts) < keyT t then -1 else 1)
    else match t with
      | .b _ => 0
      | .l us => cmpTs ts us
def cmpTs : List Tr → List Tr → Int
  | [], us => -(us.length : Int)
  | t :: ts, us => match us with
    | [] => (ts.length : Int) + 1
    | u :: us => if cmpT t u ≠ 0 then cmpT t u else cmpTs ts us
end
theorem tag_s {x : List UInt8} (h : single x = true) : tagT (.b x) = 0 := by simp [tagT, h]
theorem tag_n {x : List UInt8} (h : single x = false) : tagT (.b x) = 1 := by simp [tagT, h]
theorem tag_l {ts : List Tr} : tagT (.l ts) = 2 := by simp [tagT]
theorem tag_b (x : List UInt8) : tagT (.b x) = 0 ∨ tagT (.b x) = 1 := by
  cases h : single x with
  | true => exact .inl (tag_s h)
  | false => exact .inr (tag_n h)
theorem encB_single {x : List UInt8} (h : single x = true) : encT (.b x) = x := by
  unfold single at h
  rw [encT, if_pos]
  simpa using h
theorem encB_long {x : List UInt8} (h : single x = false) : encT (.b x) = preB x.length 128 ++ x := by
  unfold single at h
  rw [encT, if_neg]
  rintro ⟨q1, q2⟩
  rw [q1, Bool.and_eq_false_iff] at h
  rcases h with h | h
  · cases h
  · exact absurd q2 (by simpa using h)
theorem single_eq {x : List UInt8} (h : single x = true) : ∃ c : UInt8, x = [c] ∧ c.toNat < 128 := by
  unfold single at h
  match x with
  | [c] => exact ⟨c, rfl, by simpa using h⟩
  | [] => simp at h
  | _ :: _ :: _ => simp at h
theorem pre_first (n o : Nat) (hn : n < 65536) (ho : o ≤ 192) : ∃ c s, preB n o = c :: s ∧ o ≤ c.toNat ∧ c.toNat < o + 58 := by
  have hl : (lenB n).length ≤ 2 := lenB_le n
  unfold preB
  split
  · exact ⟨_, _, rfl, by simp; omega, by simp; omega⟩
  · exact ⟨_, _, rfl, by simp; omega, by simp; omega⟩
/-- the first octet says the class -/
theorem first_of (t : Tr) (h : (encT t).length < 65536) : ∃ c s, encT t = c :: s ∧ (tagT t = 0 → c.toNat < 128) ∧ (tagT t = 1 → 128 ≤ c.toNat ∧ c.toNat < 192) ∧ (tagT t = 2 → 192 ≤ c.toNat) := by
  cases t with
  | b x =>
    cases hs : single x with
    | true =>
      obtain ⟨c, rfl, hc⟩ := single_eq hs
      rw [encB_single hs]
      have ht := tag_s hs
      exact ⟨c, [], rfl, fun _ => hc, (fun q => by omega), (fun q => by omega)⟩
    | false =>
      have e := encB_long hs
      rw [e] at h ⊢
      rw [List.length_append] at h
      obtain ⟨c, s, e2, h1, h2⟩ := pre_first x.length 128 (by omega) (by decide)
      rw [e2]
      have ht := tag_n hs
      exact ⟨c, s ++ x, rfl, (fun q => by omega), (fun _ => ⟨h1, by omega⟩), (fun q => by omega)⟩
  | l ts =>
    rw [encT] at h ⊢
    rw [List.length_append] at h
    obtain ⟨c, s, e2, h1, h2⟩ := pre_first (encTs ts).length 192 (by omega) (by decide)
    rw [e2]
    have ht := tag_l (ts := ts)
    exact ⟨c, s ++ encTs ts, rfl, (fun q => by omega), (fun q => by omega), fun _ => h1⟩
theorem tag_range (t : Tr) : tagT t = 0 ∨ tagT t = 1 ∨ tagT t = 2 := by
  cases t with
  | b x => rcases tag_b x with h | h <;> simp [h]
  | l ts => simp [tag_l]
theorem tag_less {a b : Tr} (ha : (encT a).length < 65536) (hb : (encT b).length < 65536) (h : tagT a < tagT b) : Less (encT a) (encT b) := by
  obtain ⟨c, s, e, h0, h1, h2⟩ := first_of a ha
  obtain ⟨c', s', e', h0', h1', h2'⟩ := first_of b hb
  rw [e, e']
  refine .head _ _ ?_
  rcases tag_range a with q | q | q <;> rcases tag_range b with r | r | r <;> (rw [q, r] at h)
  all_goals first
    | omega
    | (have := h0 q; have := h1' r; omega)
    | (have := h0 q; have := h2' r; omega)
    | (have := h1 q; have := h2' r; omega)
theorem key_less {a b : Tr} (ha : (encT a).length < 65536) (hb : (encT b).length < 65536) (ht : tagT a = tagT b) (h : keyT a < keyT b) : Less (encT a) (encT b) := by
  cases a with
  | b x =>
    cases b with
    | l us => have := tag_b x; have := tag_l (ts := us); omega
    | b y =>
      cases hx : single x with
      | true =>
        have hy : single y = true := by
          cases hy : single y with
          | true => rfl
          | false => have := tag_s hx; have := tag_n hy; omega
        obtain ⟨c, rfl, hc⟩ := single_eq hx
        obtain ⟨d, rfl, hd⟩ := single_eq hy
        rw [encB_single hx, encB_single hy]
        simp only [keyT, hx, hy, if_true] at h
        exact .head _ _ (by simpa using h)
      | false =>
        have hy : single y = false := by
          cases hy : single y with
          | false => rfl
          | true => have := tag_n hx; have := tag_s hy; omega
        rw [encB_long hx, encB_long hy]
        rw [encB_long hy, List.length_append] at hb
        simp only [keyT, hx, hy, Bool.false_eq_true, if_false] at h
        exact (preB_less (by omega) (by omega) (by decide)).behind _ _
  | l ts =>
    cases b with
    | b y => have := tag_b y; have := tag_l (ts := ts); omega
    | l us =>
      rw [encT, encT]
      rw [encT, List.length_append] at hb
      simp only [keyT] at h
      exact (preB_less (by omega) (by omega) (by decide)).behind _ _
end

section
def Tri (a b : List UInt8) (same : Prop) (c : Int) : Prop := (c = 0 → same) ∧ (c < 0 → Less a b) ∧ (0 < c → Less b a)
theorem Tri.lt {a b : List UInt8} {p : Prop} (h : Less a b) : Tri a b p (-1) := ⟨fun q => absurd q (by decide), fun _ => h, fun q => absurd q (by decide)⟩
theorem Tri.gt {a b : List UInt8} {p : Prop} (h : Less b a) : Tri a b p 1 := ⟨fun q => absurd q (by decide), fun q => absurd q (by decide), fun _ => h⟩
theorem Tri.eq {a b : List UInt8} {p : Prop} (h : p) : Tri a b p 0 := ⟨fun _ => h, fun q => absurd q (by decide), fun q => absurd q (by decide)⟩
/-- what stands ahead of the last look: classes and keys -/
theorem tri_keys {a b : Tr} {p : Prop} {last : Int} (ha : (encT a).length < 65536) (hb : (encT b).length < 65536) (h : tagT a = tagT b → keyT a = keyT b → Tri (encT a) (encT b) p last) :
    Tri (encT a) (encT b) p (if tagT a ≠ tagT b then (if tagT a < tagT b then -1 else 1) else if keyT a ≠ keyT b then (if keyT a < keyT b then -1 else 1) else last) := by
  by_cases h1 : tagT a = tagT b
  · rw [if_neg (by simpa using h1)]
    by_cases h2 : keyT a = keyT b
    · rw [if_neg (by simpa using h2)]
      exact h h1 h2
    · rw [if_pos h2]
      by_cases h3 : keyT a < keyT b
      · rw [if_pos h3]; exact .lt (key_less ha hb h1 h3)
      · rw [if_neg h3]; exact .gt (key_less hb ha h1.symm (by omega))
  · rw [if_pos h1]
    by_cases h3 : tagT a < tagT b
    · rw [if_pos h3]; exact .lt (tag_less ha hb h3)
    · rw [if_neg h3]; exact .gt (tag_less hb ha (by omega))
theorem tag_bl {x : List UInt8} {us : List Tr} : tagT (.b x) ≠ tagT (.l us) := by
  have := tag_b x
  have := tag_l (ts := us)
  omega
mutual
theorem cmp_spec : ∀ (a b : Tr), (encT a).length < 65536 → (encT b).length < 65536 → Tri (encT a) (encT b) (a = b) (cmpT a b)
  | .b x, t, ha, hb => by
    unfold cmpT
    refine tri_keys ha hb fun h1 h2 => ?_
    cases t with
    | l us => exact absurd h1 tag_bl
    | b y =>
      dsimp only
      by_cases hxy : x = y
      · rw [if_neg (by simpa using hxy)]
        exact .eq (by rw [hxy])
      · rw [if_pos hxy]
        cases hx : single x with
        | true =>
          have hy : single y = true := by
            cases hy : single y with
            | true => rfl
            | false => have := tag_s hx; have := tag_n hy; omega
          obtain ⟨c, rfl, hc⟩ := single_eq hx
          obtain ⟨d, rfl, hd⟩ := single_eq hy
          simp only [keyT, hx, hy, if_true] at h2
          have e0 : ((c.toNat : Nat) : Int) = d.toNat := by simpa using h2
          have e : c = d := UInt8.toNat_inj.mp (by omega)
          exact absurd (by rw [e]) hxy
        | false =>
          have hy : single y = false := by
            cases hy : single y with
            | false => rfl
            | true => have := tag_n hx; have := tag_s hy; omega
          simp only [keyT, hx, hy, Bool.false_eq_true, if_false] at h2
          rw [encB_long hx, encB_long hy]
          have hl : x.length = y.length := by omega
          rcases less_tri x y hl with k | k | k
          · exact absurd k hxy
          · rw [if_pos (less_lt k), hl]; exact .lt (k.front _)
          · rw [if_neg (by rw [more_lt k]; decide), hl]; exact .gt (k.front _)
  | .l ts, t, ha, hb => by
    unfold cmpT
    refine tri_keys ha hb fun h1 h2 => ?_
    cases t with
    | b y => exact absurd h1.symm tag_bl
    | l us =>
      dsimp only
      have hl0 : (((encTs ts).length : Nat) : Int) = (encTs us).length := by simpa [keyT] using h2
      have hl : (encTs ts).length = (encTs us).length := by omega
      rw [encT, List.length_append] at ha hb
      have := cmps_spec ts us (by omega) (by omega) hl
      rw [encT, encT, hl]
      exact ⟨fun q => by rw [this.1 q], fun q => (this.2.1 q).front _, fun q => (this.2.2 q).front _⟩
theorem cmps_spec : ∀ (ts us : List Tr), (encTs ts).length < 65536 → (encTs us).length < 65536 → (encTs ts).length = (encTs us).length → Tri (encTs ts) (encTs us) (ts = us) (cmpTs ts us)
  | [], [], _, _, _ => by unfold cmpTs; exact .eq rfl
  | [], u :: us, _, _, h => by
    have e1 : (encTs (u :: us)).length = (encT u).length + (encTs us).length := by rw [encTs, List.length_append]
    have e0 : (encTs []).length = 0 := by simp [encTs]
    have := encT_pos u
    omega
  | t :: ts, [], _, _, h => by
    have e1 : (encTs (t :: ts)).length = (encT t).length + (encTs ts).length := by rw [encTs, List.length_append]
    have e0 : (encTs []).length = 0 := by simp [encTs]
    have := encT_pos t
    omega
  | t :: ts, u :: us, ha, hb, h => by
    unfold cmpTs
    dsimp only
    have e1 : (encTs (t :: ts)).length = (encT t).length + (encTs ts).length := by rw [encTs, List.length_append]
    have e2 : (encTs (u :: us)).length = (encT u).length + (encTs us).length := by rw [encTs, List.length_append]
    have h1 := cmp_spec t u (by omega) (by omega)
    rw [encTs, encTs]
    by_cases hc : cmpT t u = 0
    · rw [if_neg (by simpa using hc)]
      have e := h1.1 hc
      subst e
      have h2 := cmps_spec ts us (by omega) (by omega) (by omega)
      exact ⟨fun q => by rw [h2.1 q], fun q => (h2.2.1 q).front _, fun q => (h2.2.2 q).front _⟩
    · rw [if_pos hc]
      exact ⟨fun q => absurd q hc, fun q => (h1.2.1 q).behind _ _, fun q => (h1.2.2 q).behind _ _⟩
end
/-- the octets of two trees are the same exactly where the trees are, and in the order of the comparison -/
theorem cmp_enc {a b : Tr} (ha : (encT a).length < 65536) (hb : (encT b).length < 65536) : (cmpT a b = 0 ↔ encT a = encT b) ∧ (cmpT a b < 0 ↔ ltB (encT a) (encT b) = true) := by
  have h := cmp_spec a b ha hb
  rcases Int.lt_trichotomy (cmpT a b) 0 with q | q | q
  · have k := h.2.1 q
    exact ⟨⟨fun e => by omega, fun e => absurd e k.ne⟩, ⟨fun _ => less_lt k, fun _ => q⟩⟩
  · have e := h.1 q
    subst e
    exact ⟨⟨fun _ => rfl, fun _ => q⟩, ⟨fun e => by omega, fun e => by rw [ltB_refl] at e; cases e⟩⟩
  · have k := h.2.2 q
    exact ⟨⟨fun e => by omega, fun e => absurd e.symm k.ne⟩, ⟨fun e => by omega, fun e => by rw [more_lt k] at e; cases e⟩⟩
end

section
/-! what consume_length_prefix answers, case by case -/
section
variable {o : List UInt8} {st : Int}
theorem clp_a (h1 : (o.length : Int) ≤ st) : clp o st = .index := by unfold clp; rw [if_pos h1]
theorem clp_b (h1 : ¬ (o.length : Int) ≤ st) (h2 : ((o.getD st.toNat 0).toNat : Int) < 128) : clp o st = .ok [] "bytes" 1 st := by unfold clp; dsimp only; rw [if_neg h1, if_pos h2]
theorem clp_c (h1 : ¬ (o.length : Int) ≤ st) (h2 : ((o.getD st.toNat 0).toNat : Int) = 129) (h3 : (o.length : Int) ≤ st + 1) : clp o st = .index := by unfold clp; dsimp only; rw [if_neg h1, if_neg (by omega), if_pos (by omega), if_pos (by omega), if_pos h3]
theorem clp_d (h1 : ¬ (o.length : Int) ≤ st) (h2 : ((o.getD st.toNat 0).toNat : Int) = 129) (h3 : ¬ (o.length : Int) ≤ st + 1) (h4 : ((o.getD (st + 1).toNat 0).toNat : Int) < 128) : clp o st = .dec "Encoded as short string although single byte was possible" := by unfold clp; dsimp only; rw [if_neg h1, if_neg (by omega), if_pos (by omega), if_pos (by omega), if_neg h3, if_pos h4]
theorem clp_e (h1 : ¬ (o.length : Int) ≤ st) (h2 : ¬ ((o.getD st.toNat 0).toNat : Int) < 128) (h3 : ((o.getD st.toNat 0).toNat : Int) < 184) (h4 : ¬ (((o.getD st.toNat 0).toNat : Int) = 129 ∧ ((o.length : Int) ≤ st + 1 ∨ ((o.getD (st + 1).toNat 0).toNat : Int) < 128))) : clp o st = .ok (sl o (some st) (some (st + 1))) "bytes" (((o.getD st.toNat 0).toNat : Int) - 128) (st + 1) := by
  unfold clp; dsimp only
  rw [if_neg h1, if_neg h2, if_pos h3]
  by_cases h5 : ((o.getD st.toNat 0).toNat : Int) - 128 = 1
  · rw [if_pos h5, if_neg (by omega), if_neg (by omega)]
  · rw [if_neg h5]
theorem clp_f (h1 : ¬ (o.length : Int) ≤ st) (h2 : ¬ ((o.getD st.toNat 0).toNat : Int) < 184) (h3 : ((o.getD st.toNat 0).toNat : Int) < 192) : clp o st = if (sl o (some (st + 1)) (some (st + 2)) == [0]) = true then .dec "Length starts with zero bytes"
    else if be (sl o (some (st + 1)) (some (st + 1 + (((o.getD st.toNat 0).toNat : Int) - 183)))) < 56 then .dec "Long string prefix used for short string" else .ok (sl o (some st) (some (st + 1)) ++ sl o (some (st + 1)) (some (st + 1 + (((o.getD st.toNat 0).toNat : Int) - 183)))) "bytes" (be (sl o (some (st + 1)) (some (st + 1 + (((o.getD st.toNat 0).toNat : Int) - 183))))) (st + 1 + (((o.getD st.toNat 0).toNat : Int) - 183)) := by
  unfold clp; dsimp only
  rw [if_neg h1, if_neg (by omega), if_neg h2, if_pos h3]
theorem clp_g (h1 : ¬ (o.length : Int) ≤ st) (h2 : ¬ ((o.getD st.toNat 0).toNat : Int) < 192) (h3 : ((o.getD st.toNat 0).toNat : Int) < 248) : clp o st = .ok (sl o (some st) (some (st + 1))) "list" (((o.getD st.toNat 0).toNat : Int) - 192) (st + 1) := by
  unfold clp; dsimp only
  rw [if_neg h1, if_neg (by omega), if_neg (by omega), if_neg h2, if_pos h3]
theorem clp_h (h1 : ¬ (o.length : Int) ≤ st) (h2 : ¬ ((o.getD st.toNat 0).toNat : Int) < 248) : clp o st = if (sl o (some (st + 1)) (some (st + 2)) == [0]) = true then .dec "Length starts with zero bytes"
    else if be (sl o (some (st + 1)) (some (st + 1 + (((o.getD st.toNat 0).toNat : Int) - 192 - 56 + 1)))) < 56 then .dec "Long list prefix used for short list" else .ok (sl o (some st) (some (st + 1)) ++ sl o (some (st + 1)) (some (st + 1 + (((o.getD st.toNat 0).toNat : Int) - 192 - 56 + 1)))) "list" (be (sl o (some (st + 1)) (some (st + 1 + (((o.getD st.toNat 0).toNat : Int) - 192 - 56 + 1))))) (st + 1 + (((o.getD st.toNat 0).toNat : Int) - 192 - 56 + 1)) := by
  unfold clp; dsimp only
  rw [if_neg h1, if_neg (by omega), if_neg (by omega), if_neg (by omega), if_neg h2]
end
end

section
theorem sl_app (o : List UInt8) {a b c : Int} (h0 : 0 ≤ a) (h1 : a ≤ b) (h2 : b ≤ c) : sl o (some a) (some b) ++ sl o (some b) (some c) = sl o (some a) (some c) := by
  rw [sl_nat o a b h0 h1, sl_nat o b c (by omega) h2, sl_nat o a c h0 (by omega)]
  have e1 : o.drop b.toNat = (o.drop a.toNat).drop (b.toNat - a.toNat) := by rw [List.drop_drop]; congr 1; omega
  have e2 : c.toNat - a.toNat = (b.toNat - a.toNat) + (c.toNat - b.toNat) := by omega
  rw [e1, e2, List.take_add]
theorem sl_get (o : List UInt8) {a : Int} (h0 : 0 ≤ a) (h1 : a < o.length) : sl o (some a) (some (a + 1)) = [o.getD a.toNat 0] := by
  rw [sl_nat o a (a + 1) h0 (by omega)]
  have hl : a.toNat < o.length := by omega
  have e : (a + 1).toNat - a.toNat = 1 := by omega
  rw [e, List.drop_eq_getElem_cons hl, List.take_succ_cons, List.take_zero, List.getD_eq_getElem?_getD, List.getElem?_eq_getElem hl]
  rfl
theorem fold_from : ∀ (x : List Int) (a : Int), x.foldl (fun a k => a * 256 + k) a = a * 256 ^ x.length + x.foldl (fun a k => a * 256 + k) 0
  | [], a => by simp
  | k :: x, a => by
    rw [List.foldl_cons, List.foldl_cons, fold_from x (a * 256 + k), fold_from x (0 * 256 + k), List.length_cons, Int.pow_succ, Int.add_mul, Int.zero_mul, Int.zero_add, Int.mul_assoc, Int.mul_comm 256]
    omega
theorem be_cons (c : UInt8) (x : List UInt8) : be (c :: x) = (c.toNat : Int) * 256 ^ x.length + be x := by
  unfold be KFB.value KBw.bInts
  have e : ∀ y : List UInt8, (List.map (fun c : UInt8 => ((c.toNat : Nat) : Int)) y.toArray.toList) = y.map fun c => ((c.toNat : Nat) : Int) := fun y => by simp
  rw [e, e, List.map_cons, List.foldl_cons, fold_from]
  simp
theorem be_nil : be [] = 0 := rfl
theorem ofNat_toNat (c : UInt8) : UInt8.ofNat c.toNat = c := by simp
theorem pow_big {m : Nat} (hm : 2 ≤ m) : (65536 : Int) ≤ 256 ^ m := by
  have : (256 : Nat) ^ 2 ≤ 256 ^ m := Nat.pow_le_pow_right (by decide) hm
  have h : ((256 : Int) ^ m) = ((256 ^ m : Nat) : Int) := by simp
  rw [h]
  have h2 : (65536 : Nat) ≤ 256 ^ m := this
  exact Int.ofNat_le.mpr h2
theorem be_min {c : UInt8} {x : List UInt8} (h0 : c ≠ 0) (h1 : be (c :: x) < 65536) : lenB (be (c :: x)).toNat = c :: x := by
  have hc : c.toNat ≠ 0 := fun h => h0 (by rw [← ofNat_toNat c, h]; rfl)
  have hc2 : c.toNat < 256 := UInt8.toNat_lt _
  rcases x with _ | ⟨d, _ | ⟨e, x⟩⟩
  · rw [be_cons, be_nil]
    have e : ((c.toNat : Int) * 256 ^ ([] : List UInt8).length + 0).toNat = c.toNat := by simp
    rw [e, lenB, if_pos hc2, ofNat_toNat]
  · have hd : d.toNat < 256 := UInt8.toNat_lt _
    rw [be_cons, be_cons, be_nil]
    have e : ((c.toNat : Int) * 256 ^ ([d] : List UInt8).length + ((d.toNat : Int) * 256 ^ ([] : List UInt8).length + 0)).toNat = c.toNat * 256 + d.toNat := by
      simp only [List.length_cons, List.length_nil, Nat.zero_add, Int.pow_one, Int.pow_zero, Int.mul_one, Int.add_zero, Int.pow_succ, Int.one_mul]
      omega
    rw [e, lenB, if_neg (by omega), show (c.toNat * 256 + d.toNat) / 256 = c.toNat by omega, show (c.toNat * 256 + d.toNat) % 256 = d.toNat by omega, ofNat_toNat, ofNat_toNat]
  · exfalso
    rw [be_cons] at h1
    have h2 := be_nonneg (d :: e :: x)
    have h3 : (65536 : Int) ≤ 256 ^ (d :: e :: x).length := pow_big (by simp)
    have h4 : (1 : Int) * 256 ^ (d :: e :: x).length ≤ (c.toNat : Int) * 256 ^ (d :: e :: x).length := Int.mul_le_mul_of_nonneg_right (by omega) (by omega)
    omega
/-- the digits of a long head are written as they were read -/
theorem digits_min (o : List UInt8) {st ll : Int} (h0 : 0 ≤ st) (h1 : 1 ≤ ll) (h2 : st + 1 + ll ≤ o.length) (hz : ¬ (sl o (some (st + 1)) (some (st + 2)) == [0]) = true) (hb : be (sl o (some (st + 1)) (some (st + 1 + ll))) < 65536) :
    lenB (be (sl o (some (st + 1)) (some (st + 1 + ll)))).toNat = sl o (some (st + 1)) (some (st + 1 + ll)) := by
  have e1 : sl o (some (st + 1)) (some (st + 1 + ll)) = o.getD (st + 1).toNat 0 :: sl o (some (st + 2)) (some (st + 1 + ll)) := by
    rw [← sl_app o (a := st + 1) (b := st + 1 + 1) (c := st + 1 + ll) (by omega) (by omega) (by omega), sl_get o (by omega) (by omega)]
    rw [show st + 1 + 1 = st + 2 by omega]
    rfl
  have hz' : o.getD (st + 1).toNat 0 ≠ 0 := fun h => hz (by rw [show st + 2 = st + 1 + 1 by omega, sl_get o (by omega) (by omega), h]; rfl)
  rw [e1] at hb ⊢
  exact be_min hz' hb
theorem row_ok {o : List UInt8} {item1 : Int → IR} {endp : Int} (S : ∀ x, 0 ≤ x → (item1 x).Sane o x) (H : ∀ x t r e, 0 ≤ x → item1 x = .ok t r e → e ≤ o.length → encT t = sl o (some x) (some e)) : ∀ (n : Nat) (next : Int) acc rl t r e, 0 ≤ next → rowF item1 endp n next acc rl = .ok t r e → e ≤ o.length →
    ∃ ts, t = .l (acc ++ ts) ∧ e = endp ∧ next ≤ e ∧ encTs ts = sl o (some next) (some e)
  | 0, _, _, _, _, _, _, _, h, _ => by cases h
  | n + 1, next, acc, rl, t, r, e, h0, h, he => by
    unfold rowF at h
    split at h
    · cases q : item1 next with
      | ok t1 r1 e1 =>
        rw [q] at h
        have hs := S next h0
        rw [q] at hs
        have hlt : next < e1 := hs.2.1
        obtain ⟨ts, rfl, h2, h3, h4⟩ := row_ok S H n e1 _ _ t r e (by omega) h he
        refine ⟨t1 :: ts, by rw [List.append_assoc]; rfl, h2, by omega, ?_⟩
        rw [encTs, h4, H next t1 r1 e1 h0 q (by omega), sl_app o h0 (by omega) h3]
      | index => rw [q] at h; cases h
      | dec m => rw [q] at h; cases h
      | deep => rw [q] at h; cases h
    · split at h
      · cases h
      · injection h with a b c
        subst a
        subst c
        refine ⟨[], by simp, by omega, Int.le_refl _, ?_⟩
        rw [encTs, sl_nat o _ _ h0 (Int.le_refl _), Nat.sub_self, List.take_zero]
theorem row_list {item1 : Int → IR} {endp : Int} : ∀ (n : Nat) (next : Int) acc rl t r e, rowF item1 endp n next acc rl = .ok t r e → ∃ ts, t = .l ts
  | 0, _, _, _, _, _, _, h => by cases h
  | n + 1, next, acc, rl, t, r, e, h => by
    unfold rowF at h
    split at h
    · cases q : item1 next with
      | ok t1 r1 e1 => rw [q] at h; exact row_list n e1 _ _ t r e h
      | index => rw [q] at h; cases h
      | dec m => rw [q] at h; cases h
      | deep => rw [q] at h; cases h
    · split at h
      · cases h
      · injection h with a b c
        exact ⟨_, a.symm⟩
end

section
theorem sl_lenx (o : List UInt8) {a b : Int} (h0 : 0 ≤ a) (h1 : a ≤ b) (h2 : b ≤ o.length) : ((sl o (some a) (some b)).length : Int) = b - a := by rw [sl_length o a b h0 h1]; omega
theorem preB_short (o : List UInt8) {st : Int} {l b : Nat} (hl : l < 56) (hc : (o.getD st.toNat 0).toNat = b + l) (h0 : 0 ≤ st) (h1 : st < o.length) : preB l b = sl o (some st) (some (st + 1)) := by
  rw [preB, if_pos hl, sl_get o h0 h1, ← hc, ofNat_toNat]
theorem preB_long (o : List UInt8) {st ll : Int} {b : Nat} (hc : ((o.getD st.toNat 0).toNat : Int) = b + 55 + ll) (h0 : 0 ≤ st) (h1 : 1 ≤ ll) (h2 : st + 1 + ll ≤ o.length) (hz : ¬ (sl o (some (st + 1)) (some (st + 2)) == [0]) = true) {l : Nat} (hl : 56 ≤ l) (hb : be (sl o (some (st + 1)) (some (st + 1 + ll))) = l) (hlt : l < 65536) :
    preB l b = sl o (some st) (some (st + 1)) ++ sl o (some (st + 1)) (some (st + 1 + ll)) := by
  have hd := digits_min o h0 h1 h2 hz (by omega)
  rw [hb, Int.toNat_natCast] at hd
  have hln := sl_lenx o (a := st + 1) (b := st + 1 + ll) (by omega) (by omega) h2
  rw [preB, if_neg (by omega), hd, sl_get o h0 (by omega)]
  have e : b + 55 + (sl o (some (st + 1)) (some (st + 1 + ll))).length = (o.getD st.toNat 0).toNat := by omega
  rw [e, ofNat_toNat]
theorem item_ok (o : List UInt8) (hz : o.length ≤ 60000) (n : Nat) : ∀ (f : Nat) (st : Int) (t : Tr) r e, 0 ≤ st → itemF o n f st = .ok t r e → e ≤ o.length → encT t = sl o (some st) (some e)
  | 0, _, _, _, _, _, h, _ => by cases h
  | f + 1, st, t, r, e, h0, h, he => by
    have ih := item_ok o hz n f
    have S := item_sane o n f
    have hb : (o.getD st.toNat 0).toNat < 256 := UInt8.toNat_lt _
    unfold itemF at h
    by_cases h1 : (o.length : Int) ≤ st
    · rw [clp_a h1] at h; cases h
    by_cases h2 : ((o.getD st.toNat 0).toNat : Int) < 128
    · rw [clp_b h1 h2] at h
      dsimp only at h
      rw [payF, if_pos rfl] at h
      injection h with a b c
      subst a
      subst c
      rw [encT, if_pos]
      rw [sl_get o h0 (by omega)]
      exact ⟨rfl, Int.ofNat_lt.mp h2⟩
    by_cases h3 : ((o.getD st.toNat 0).toNat : Int) = 129 ∧ (o.length : Int) ≤ st + 1
    · rw [clp_c h1 h3.1 h3.2] at h; cases h
    by_cases h4 : ((o.getD st.toNat 0).toNat : Int) = 129 ∧ ((o.getD (st + 1).toNat 0).toNat : Int) < 128
    · rw [clp_d h1 h4.1 (by omega) h4.2] at h; cases h
    by_cases h5 : ((o.getD st.toNat 0).toNat : Int) < 184
    · rw [clp_e h1 h2 h5 (by omega)] at h
      dsimp only at h
      rw [payF, if_pos rfl] at h
      injection h with a b c
      subst a
      subst c
      have hl := sl_lenx o (a := st + 1) (b := st + 1 + (((o.getD st.toNat 0).toNat : Int) - 128)) (by omega) (by omega) he
      rw [encT, if_neg, preB_short o (st := st) (by omega) (by omega) h0 (by omega), sl_app o h0 (by omega) (by omega)]
      rintro ⟨q1, q2⟩
      have e1 : st + 1 + (((o.getD st.toNat 0).toNat : Int) - 128) = st + 1 + 1 := by omega
      rw [e1, sl_get o (by omega) (by omega)] at q2
      have q3 : (o.getD (st + 1).toNat 0).toNat < 128 := q2
      omega
    by_cases h6 : ((o.getD st.toNat 0).toNat : Int) < 192
    · rw [clp_f h1 h5 h6] at h
      by_cases h7 : (sl o (some (st + 1)) (some (st + 2)) == [0]) = true
      · rw [if_pos h7] at h; cases h
      rw [if_neg h7] at h
      by_cases h8 : be (sl o (some (st + 1)) (some (st + 1 + (((o.getD st.toNat 0).toNat : Int) - 183)))) < 56
      · rw [if_pos h8] at h; cases h
      rw [if_neg h8] at h
      dsimp only at h
      rw [payF, if_pos rfl] at h
      injection h with a b c
      subst a
      subst c
      have hl := sl_lenx o (a := st + 1 + (((o.getD st.toNat 0).toNat : Int) - 183)) (b := st + 1 + (((o.getD st.toNat 0).toNat : Int) - 183) + be (sl o (some (st + 1)) (some (st + 1 + (((o.getD st.toNat 0).toNat : Int) - 183))))) (by omega) (by omega) he
      rw [encT, if_neg (by omega), preB_long o (st := st) (ll := ((o.getD st.toNat 0).toNat : Int) - 183) (by omega) h0 (by omega) (by omega) h7 (by omega) (by omega) (by omega), sl_app o h0 (by omega) (by omega), sl_app o h0 (by omega) (by omega)]
    by_cases h7 : ((o.getD st.toNat 0).toNat : Int) < 248
    · rw [clp_g h1 h6 h7] at h
      dsimp only at h
      rw [payF, if_neg (by decide)] at h
      obtain ⟨ts, rfl, h9, h10, h11⟩ := row_ok S ih n _ _ _ t r e (by omega) h he
      rw [List.nil_append, encT]
      have hl := sl_lenx o (a := st + 1) (b := e) (by omega) h10 he
      rw [h11, preB_short o (st := st) (by omega) (by omega) h0 (by omega), sl_app o h0 (by omega) (by omega)]
    rw [clp_h h1 h7] at h
    by_cases h8 : (sl o (some (st + 1)) (some (st + 2)) == [0]) = true
    · rw [if_pos h8] at h; cases h
    rw [if_neg h8] at h
    by_cases h9 : be (sl o (some (st + 1)) (some (st + 1 + (((o.getD st.toNat 0).toNat : Int) - 192 - 56 + 1)))) < 56
    · rw [if_pos h9] at h; cases h
    rw [if_neg h9] at h
    dsimp only at h
    rw [payF, if_neg (by decide)] at h
    obtain ⟨ts, rfl, h10, h11, h12⟩ := row_ok S ih n _ _ _ t r e (by omega) h he
    rw [List.nil_append, encT]
    have hl := sl_lenx o (a := st + 1 + (((o.getD st.toNat 0).toNat : Int) - 192 - 56 + 1)) (b := e) (by omega) h11 he
    rw [h12, preB_long o (st := st) (ll := ((o.getD st.toNat 0).toNat : Int) - 192 - 56 + 1) (by omega) h0 (by omega) (by omega) h8 (by omega) (by omega) (by omega), sl_app o h0 (by omega) (by omega), sl_app o h0 (by omega) (by omega)]
theorem row_Deep {item1 : Int → IR} {endp : Int} {k : Nat} (H : ∀ x t r e, item1 x = .ok t r e → Deep k t) : ∀ (n : Nat) (next : Int) acc rl t r e, (∀ t ∈ acc, Deep k t) → rowF item1 endp n next acc rl = .ok t r e → Deep (k + 1) t
  | 0, _, _, _, _, _, _, _, h => by cases h
  | n + 1, next, acc, rl, t, r, e, ha, h => by
    unfold rowF at h
    split at h
    · cases q : item1 next with
      | ok t1 r1 e1 =>
        rw [q] at h
        refine row_Deep H n e1 _ _ t r e (fun t ht => ?_) h
        rcases List.mem_append.mp ht with ht | ht
        · exact ha t ht
        · rw [List.mem_singleton.mp ht]; exact H _ _ _ _ q
      | index => rw [q] at h; cases h
      | dec m => rw [q] at h; cases h
      | deep => rw [q] at h; cases h
    · split at h
      · cases h
      · injection h with a b c
        subst a
        exact .l ha
theorem item_Deep (o : List UInt8) (n : Nat) : ∀ (f : Nat) (st : Int) (t : Tr) r e, itemF o n f st = .ok t r e → Deep f t
  | 0, _, _, _, _, h => by cases h
  | f + 1, st, t, r, e, h => by
    unfold itemF at h
    cases q : clp o st with
    | ok pre ty len s =>
      rw [q] at h
      dsimp only at h
      unfold payF at h
      split at h
      · injection h with a b c
        subst a
        exact .b
      · exact row_Deep (item_Deep o n f) n _ _ _ t r e (fun _ h => by cases h) h
    | index => rw [q] at h; cases h
    | dec m => rw [q] at h; cases h
end

section
/-! what is written is read back -/
theorem sl_mid (p x q : List UInt8) : sl (p ++ x ++ q) (some (p.length : Int)) (some ((p.length : Int) + x.length)) = x := by
  rw [sl_nat _ _ _ (by omega) (by omega), Int.toNat_natCast, show ((p.length : Int) + x.length).toNat - p.length = x.length by omega, List.append_assoc, List.drop_left, List.take_left]
theorem get_mid (p s : List UInt8) (c : UInt8) : (p ++ c :: s).getD ((p.length : Int)).toNat 0 = c := by
  rw [Int.toNat_natCast, List.getD_eq_getElem?_getD, List.getElem?_append_right (Nat.le_refl _), Nat.sub_self]
  rfl
theorem be_lenB {n : Nat} (h : n < 65536) : be (lenB n) = n := by
  have e : ∀ k, k < 256 → (UInt8.ofNat k).toNat = k := fun k hk => by simp; omega
  unfold lenB
  split
  · rename_i h1
    rw [be_cons, be_nil, e _ h1]
    simp
  · rw [be_cons, be_cons, be_nil, e _ (by omega), e _ (by omega)]
    simp only [List.length_cons, List.length_nil, Nat.zero_add, Int.pow_zero, Int.mul_one, Int.add_zero, Int.pow_succ, Int.one_mul]
    omega
theorem long_parts (p q D' : List UInt8) (c d : UInt8) : 
    sl (p ++ c :: (d :: D' ++ q)) (some (p.length : Int)) (some ((p.length : Int) + 1)) = [c] ∧ sl (p ++ c :: (d :: D' ++ q)) (some ((p.length : Int) + 1)) (some ((p.length : Int) + 1 + (d :: D').length)) = d :: D' ∧
    sl (p ++ c :: (d :: D' ++ q)) (some ((p.length : Int) + 1)) (some ((p.length : Int) + 2)) = [d] := by
  have hl : (p ++ c :: (d :: D' ++ q)).length = p.length + 2 + D'.length + q.length := by simp; omega
  refine ⟨?_, ?_, ?_⟩
  · rw [sl_get _ (by omega) (by omega), get_mid]
  · have := sl_mid (p ++ [c]) (d :: D') q
    have e1 : p ++ [c] ++ (d :: D') ++ q = p ++ c :: (d :: D' ++ q) := by simp
    have e2 : (((p ++ [c]).length : Nat) : Int) = (p.length : Int) + 1 := by simp
    rw [e1, e2] at this
    exact this
  · have := sl_get (p ++ c :: (d :: D' ++ q)) (a := (p.length : Int) + 1) (by omega) (by omega)
    rw [show (p.length : Int) + 1 + 1 = (p.length : Int) + 2 by omega] at this
    rw [this]
    have := get_mid (p ++ [c]) (D' ++ q) d
    have e1 : p ++ [c] ++ d :: (D' ++ q) = p ++ c :: (d :: D' ++ q) := by simp
    have e2 : (((p ++ [c]).length : Nat) : Int) = (p.length : Int) + 1 := by simp
    rw [e1, e2] at this
    rw [this]
theorem lenB_cons {n : Nat} (h : 56 ≤ n) (hz : n < 65536) : ∃ d D', lenB n = d :: D' ∧ d ≠ 0 ∧ (d :: D').length ≤ 2 := by
  have e : ∀ k, k < 256 → (UInt8.ofNat k).toNat = k := fun k hk => by simp; omega
  unfold lenB
  split
  · exact ⟨_, _, rfl, fun q => by have := e n (by omega); rw [q] at this; simp at this; omega, by simp⟩
  · exact ⟨_, _, rfl, fun q => by have := e (n / 256) (by omega); rw [q] at this; simp at this; omega, by simp⟩
/-- the head of what is written at a place is told -/
theorem clp_str {p q x : List UInt8} (hz : x.length < 65536) (hs : ¬ (x.length = 1 ∧ (x.getD 0 0).toNat < 128)) :
    clp (p ++ (preB x.length 128 ++ x) ++ q) p.length = .ok (preB x.length 128) "bytes" x.length ((p.length : Int) + (preB x.length 128).length) := by
  have e : ∀ k, k < 256 → (UInt8.ofNat k).toNat = k := fun k hk => by simp; omega
  by_cases h1 : x.length < 56
  · have ep : preB x.length 128 = [UInt8.ofNat (128 + x.length)] := by rw [preB, if_pos h1]
    rw [ep]
    have eo : p ++ ([UInt8.ofNat (128 + x.length)] ++ x) ++ q = p ++ UInt8.ofNat (128 + x.length) :: (x ++ q) := by simp
    have hg := get_mid p (x ++ q) (UInt8.ofNat (128 + x.length))
    have hsl := sl_mid p [UInt8.ofNat (128 + x.length)] (x ++ q)
    have eo2 : p ++ [UInt8.ofNat (128 + x.length)] ++ (x ++ q) = p ++ UInt8.ofNat (128 + x.length) :: (x ++ q) := by simp
    rw [eo2] at hsl
    rw [eo]
    have hl : (p ++ UInt8.ofNat (128 + x.length) :: (x ++ q)).length = p.length + 1 + x.length + q.length := by simp; omega
    generalize hO : p ++ UInt8.ofNat (128 + x.length) :: (x ++ q) = o at *
    have hc : ((o.getD ((p.length : Int)).toNat 0).toNat : Int) = 128 + x.length := by rw [hg, e _ (by omega)]; omega
    rw [clp_e (by omega) (by omega) (by omega) ?_, hc]
    · have hs1 : sl o (some (p.length : Int)) (some ((p.length : Int) + 1)) = [UInt8.ofNat (128 + x.length)] := hsl
      have e1 : (128 + (x.length : Int)) - 128 = x.length := by omega
      rw [hs1, e1]
      rfl
    · rintro ⟨h2, h3⟩
      have h4 : x.length = 1 := by omega
      rcases h3 with h3 | h3
      · omega
      · match x, h4 with
        | [d], _ =>
          have hd : o.getD ((p.length : Int) + 1).toNat 0 = d := by
            rw [← hO, show ((p.length : Int) + 1).toNat = p.length + 1 by omega, List.getD_eq_getElem?_getD, List.getElem?_append_right (by omega), show p.length + 1 - p.length = 1 by omega]
            rfl
          rw [hd] at h3
          exact hs ⟨rfl, Int.ofNat_lt.mp h3⟩
  · have hp : preB x.length 128 = [UInt8.ofNat (183 + (lenB x.length).length)] ++ lenB x.length := by rw [preB, if_neg h1]
    obtain ⟨d, D', hD, hd0, hD2⟩ := lenB_cons (n := x.length) (by omega) hz
    have hbe := be_lenB hz
    rw [hD] at hp hbe
    rw [hp]
    have eo : p ++ ([UInt8.ofNat (183 + (d :: D').length)] ++ d :: D' ++ x) ++ q = p ++ UInt8.ofNat (183 + (d :: D').length) :: (d :: D' ++ (x ++ q)) := by simp
    obtain ⟨s1, s2, s3⟩ := long_parts p (x ++ q) D' (UInt8.ofNat (183 + (d :: D').length)) d
    have hg := get_mid p (d :: D' ++ (x ++ q)) (UInt8.ofNat (183 + (d :: D').length))
    have hl : (p ++ UInt8.ofNat (183 + (d :: D').length) :: (d :: D' ++ (x ++ q))).length = p.length + 1 + (d :: D').length + x.length + q.length := by simp; omega
    have hDp : 0 < (d :: D').length := by simp
    rw [eo]
    generalize (d :: D') = D at *
    generalize hO : p ++ UInt8.ofNat (183 + D.length) :: (D ++ (x ++ q)) = o at *
    have hc : ((o.getD ((p.length : Int)).toNat 0).toNat : Int) = 183 + D.length := by rw [hg, e _ (by omega)]; omega
    rw [clp_f (by omega) (by omega) (by omega), hc, show (183 : Int) + D.length - 183 = D.length by omega, s2, s3, hbe, s1, if_neg (by simpa using hd0), if_neg (by omega)]
    simp only [List.length_append, List.length_cons, List.length_nil]
    congr 1
    omega
theorem clp_row {p q x : List UInt8} (hz : x.length < 65536) :
    clp (p ++ (preB x.length 192 ++ x) ++ q) p.length = .ok (preB x.length 192) "list" x.length ((p.length : Int) + (preB x.length 192).length) := by
  have e : ∀ k, k < 256 → (UInt8.ofNat k).toNat = k := fun k hk => by simp; omega
  by_cases h1 : x.length < 56
  · have ep : preB x.length 192 = [UInt8.ofNat (192 + x.length)] := by rw [preB, if_pos h1]
    rw [ep]
    have eo : p ++ ([UInt8.ofNat (192 + x.length)] ++ x) ++ q = p ++ UInt8.ofNat (192 + x.length) :: (x ++ q) := by simp
    have hg := get_mid p (x ++ q) (UInt8.ofNat (192 + x.length))
    have hsl := sl_mid p [UInt8.ofNat (192 + x.length)] (x ++ q)
    have eo2 : p ++ [UInt8.ofNat (192 + x.length)] ++ (x ++ q) = p ++ UInt8.ofNat (192 + x.length) :: (x ++ q) := by simp
    rw [eo2] at hsl
    rw [eo]
    have hl : (p ++ UInt8.ofNat (192 + x.length) :: (x ++ q)).length = p.length + 1 + x.length + q.length := by simp; omega
    generalize hO : p ++ UInt8.ofNat (192 + x.length) :: (x ++ q) = o at *
    have hc : ((o.getD ((p.length : Int)).toNat 0).toNat : Int) = 192 + x.length := by rw [hg, e _ (by omega)]; omega
    rw [clp_g (by omega) (by omega) (by omega), hc]
    have hs1 : sl o (some (p.length : Int)) (some ((p.length : Int) + 1)) = [UInt8.ofNat (192 + x.length)] := hsl
    have e1 : (192 + (x.length : Int)) - 192 = x.length := by omega
    rw [hs1, e1]
    rfl
  · have hp : preB x.length 192 = [UInt8.ofNat (247 + (lenB x.length).length)] ++ lenB x.length := by rw [preB, if_neg h1]
    obtain ⟨d, D', hD, hd0, hD2⟩ := lenB_cons (n := x.length) (by omega) hz
    have hbe := be_lenB hz
    rw [hD] at hp hbe
    rw [hp]
    have eo : p ++ ([UInt8.ofNat (247 + (d :: D').length)] ++ d :: D' ++ x) ++ q = p ++ UInt8.ofNat (247 + (d :: D').length) :: (d :: D' ++ (x ++ q)) := by simp
    obtain ⟨s1, s2, s3⟩ := long_parts p (x ++ q) D' (UInt8.ofNat (247 + (d :: D').length)) d
    have hg := get_mid p (d :: D' ++ (x ++ q)) (UInt8.ofNat (247 + (d :: D').length))
    have hl : (p ++ UInt8.ofNat (247 + (d :: D').length) :: (d :: D' ++ (x ++ q))).length = p.length + 1 + (d :: D').length + x.length + q.length := by simp; omega
    have hDp : 0 < (d :: D').length := by simp
    rw [eo]
    generalize (d :: D') = D at *
    generalize hO : p ++ UInt8.ofNat (247 + D.length) :: (D ++ (x ++ q)) = o at *
    have hc : ((o.getD ((p.length : Int)).toNat 0).toNat : Int) = 247 + D.length := by rw [hg, e _ (by omega)]; omega
    rw [clp_h (by omega) (by omega), hc, show (247 : Int) + D.length - 192 - 56 + 1 = D.length by omega, s2, s3, hbe, s1, if_neg (by simpa using hd0), if_neg (by omega)]
    simp only [List.length_append, List.length_cons, List.length_nil]
    congr 1
    omega
theorem clp_one {p q : List UInt8} {c : UInt8} (hc : c.toNat < 128) : clp (p ++ [c] ++ q) p.length = .ok [] "bytes" 1 p.length := by
  have eo : p ++ [c] ++ q = p ++ c :: q := by simp
  have hg := get_mid p q c
  rw [eo]
  exact clp_b (by simp; omega) (by rw [hg]; omega)
/-- a row's parts are read one behind the other -/
theorem row_back {item1 : Int → IR} : ∀ (ts : List Tr) (n : Nat) (a : Int) (acc : List Tr) (rl : List UInt8), ts.length < n → (∀ (pre : List Tr) (t : Tr) (post : List Tr), ts = pre ++ t :: post → item1 (a + (encTs pre).length) = .ok t (encT t) (a + (encTs pre).length + (encT t).length)) →
    rowF item1 (a + (encTs ts).length) n a acc rl = .ok (.l (acc ++ ts)) (rl ++ encTs ts) (a + (encTs ts).length)
  | [], n, a, acc, rl, hn, _ => by
    obtain ⟨m, rfl⟩ : ∃ m, n = m + 1 := ⟨n - 1, by simp at hn; omega⟩
    have e0 : (encTs []).length = 0 := by simp [encTs]
    unfold rowF
    rw [if_neg (by omega), if_neg (by omega)]
    simp [encTs]
  | t :: ts, n, a, acc, rl, hn, H => by
    obtain ⟨m, rfl⟩ : ∃ m, n = m + 1 := ⟨n - 1, by simp at hn; omega⟩
    have e1 : (encTs (t :: ts)).length = (encT t).length + (encTs ts).length := by rw [encTs, List.length_append]
    have e0 : (encTs []).length = 0 := by simp [encTs]
    have hp := encT_pos t
    unfold rowF
    rw [if_pos (by omega)]
    have h0 := H [] t ts rfl
    rw [e0] at h0
    have h0' : item1 a = .ok t (encT t) (a + (encT t).length) := by simpa using h0
    rw [h0']
    dsimp only
    have := row_back ts m (a + (encT t).length) (acc ++ [t]) (rl ++ encT t) (by simp at hn; omega) fun pre u post hu => by
      have := H (t :: pre) u post (by rw [hu]; rfl)
      have e2 : (encTs (t :: pre)).length = (encT t).length + (encTs pre).length := by rw [encTs, List.length_append]
      rw [e2] at this
      have ea : a + (((encT t).length + (encTs pre).length : Nat) : Int) = a + (encT t).length + (encTs pre).length := by omega
      rw [ea] at this
      exact this
    have eb : a + ((encTs (t :: ts)).length : Int) = a + (encT t).length + (encTs ts).length := by omega
    rw [eb, this]
    simp [encTs]
theorem encTs_app : ∀ (a b : List Tr), encTs (a ++ b) = encTs a ++ encTs b
  | [], b => by simp [encTs]
  | t :: a, b => by rw [List.cons_append, encTs, encTs, encTs_app a b, List.append_assoc]
/-- what is written is read back, wherever it stands -/
theorem read_back (n : Nat) (hn : n ≤ 65536) : ∀ (f : Nat) (t : Tr), Deep f t → (encT t).length < n → ∀ p q, itemF (p ++ encT t ++ q) n (f + 1) p.length = .ok t (encT t) ((p.length : Int) + (encT t).length) := by
  have hb : ∀ (f : Nat) (x : List UInt8), (encT (.b x)).length < n → ∀ p q, itemF (p ++ encT (.b x) ++ q) n (f + 1) p.length = .ok (.b x) (encT (.b x)) ((p.length : Int) + (encT (.b x)).length) := by
    intro f x hl p q
    unfold itemF
    by_cases hs : x.length = 1 ∧ (x.getD 0 0).toNat < 128
    · have e : encT (.b x) = x := by rw [encT, if_pos hs]
      rw [e]
      match x, hs with
      | [c], ⟨_, hc⟩ =>
        rw [clp_one (c := c) hc]
        dsimp only
        rw [payF, if_pos rfl]
        have := sl_mid p [c] q
        rw [show (p.length : Int) + 1 = (p.length : Int) + (([c] : List UInt8).length : Nat) from rfl, this]
        rfl
    · have e : encT (.b x) = preB x.length 128 ++ x := by rw [encT, if_neg hs]
      rw [e] at hl ⊢
      rw [List.length_append] at hl
      rw [clp_str (by omega) hs]
      dsimp only
      rw [payF, if_pos rfl]
      have := sl_mid (p ++ preB x.length 128) x q
      have e1 : p ++ preB x.length 128 ++ x ++ q = p ++ (preB x.length 128 ++ x) ++ q := by simp
      have e2 : (((p ++ preB x.length 128).length : Nat) : Int) = (p.length : Int) + (preB x.length 128).length := by simp
      rw [e1, e2] at this
      rw [this, List.length_append]
      congr 1
      omega
  intro f
  induction f with
  | zero =>
    intro t D
    cases D
    exact hb 0 _
  | succ f ih =>
    intro t D
    cases D with
    | b => exact hb (f + 1) _
    | @l _ ts D' =>
      intro hl p q
      have e : encT (.l ts) = preB (encTs ts).length 192 ++ encTs ts := by rw [encT]
      rw [e] at hl ⊢
      rw [List.length_append] at hl
      unfold itemF
      rw [clp_row (by omega)]
      dsimp only
      rw [payF, if_neg (by decide)]
      have hlen := encTs_len ts
      have := row_back (item1 := itemF (p ++ (preB (encTs ts).length 192 ++ encTs ts) ++ q) n (f + 1)) ts n ((p.length : Int) + (preB (encTs ts).length 192).length) [] (preB (encTs ts).length 192) (by omega) fun pre u post hu => by
        have hm : u ∈ ts := by rw [hu]; simp
        have h1 := encT_mem hm
        have h2 := ih u (D' u hm) (by omega) (p ++ preB (encTs ts).length 192 ++ encTs pre) (encTs post ++ q)
        have eo : p ++ preB (encTs ts).length 192 ++ encTs pre ++ encT u ++ (encTs post ++ q) = p ++ (preB (encTs ts).length 192 ++ encTs ts) ++ q := by
          have et : encTs ts = encTs pre ++ (encT u ++ encTs post) := by rw [hu, encTs_app, encTs]
          generalize preB (encTs ts).length 192 = B
          rw [et]
          simp
        rw [eo] at h2
        have el : (((p ++ preB (encTs ts).length 192 ++ encTs pre).length : Nat) : Int) = (p.length : Int) + (preB (encTs ts).length 192).length + (encTs pre).length := by simp only [List.length_append]; omega
        rw [el] at h2
        exact h2
      rw [this, List.length_append]
      simp only [List.nil_append]
      congr 1
      omega
end

section
/-! a list comprehension whose element may turn the ledger -/
section
variable {prog : Program} {w : World} {A : Around} {E : Value → Shared → Prop} {gs : Array GenState} {dr : Drawn} {tk : Nat} {os : OsState} {h g : Heap} {L : Addr} {mm : Str → Option Value} {news : Ledger} {env : Env}
def TurnEnd (J : Nat → List Value → Ledger → Array GenState → Prop) (dr : Drawn) (os : OsState) (g : Heap) (L : Addr) (mm : Str → Option Value) (own : Ledger) (tw : List Addr) (i : Nat) (ys : List Value) (y : Value) (s₃ : Shared) : Prop :=
  ∃ news' gs'' h' tk', s₃ = ⟨h', gs'', dr, tk', os⟩ ∧ J (i + 1) (ys ++ [y]) news' gs'' ∧ Fr g L h' mm ∧ News g L h' (own ++ news') ∧ ∀ p ∈ news', p.1 ∉ tw
theorem comp_loop {elt iter : Expr} {x : Str} {px : Pos} {cscope : Scope} {cl : List (Str × Addr)} {pos : Pos} {I C D : Addr} {fp wr : List Addr} {n : Nat} {P : Nat → Value → Prop} {St : Nat → Heap → Prop} {R : Result → Shared → Prop} {mC : Str → Option Value}
    (W : Walks prog w A I fp wr n P St) (hsz : n ≤ 100000) (hkind : cscope.kind = .function) (hx : cscope.names.lookup x = some .local)
    (hLf : L ∉ fp) (hwr : ∀ b ∈ wr, g.get? b = none) (hlive : ∀ i h, St i h → ∀ b ∈ wr, ∃ o, h.get? b = some o)
    (hDC : D ≠ C) (hDf : D ∉ fp) (hCf : C ∉ fp) (hCL : C ≠ L) (hCg : g.get? C = none)
    (J : Nat → List Value → Ledger → Array GenState → Prop) (h0 : J 0 [] news gs) (F : Fr g L h mm) (N : News g L h ((D, lob [] 0) :: news)) (hnw : ∀ p ∈ news, p.1 ∉ C :: D :: wr) (hst : St 0 h) (hC : h.Ns C mC)
    (turn : ∀ i v ys news gs' h tk own mC E', i < n → P i v → J i ys news gs' → Fr g L h mm → News g L h (own ++ news) → (∀ p ∈ news, p.1 ∉ C :: D :: wr) → (∀ b ∈ C :: D :: wr, ∃ o, (b, o) ∈ own) → (∀ p ∈ own, p.1 ∈ C :: D :: fp) → h.Ns C mC → mC x = some v →
      wpAny (model prog w) A (eval elt (compEnvC cscope cl C env)) (TurnEnd J dr os g L mm own (C :: D :: wr) i ys) E' ⟨h, gs', dr, tk, os⟩)
    (done : ∀ ys k news' gs' h' tk' mC, J n ys news' gs' → ys.length = n → Fr g L h' mm → News g L h' ((D, lob ys k) :: news') → (∀ p ∈ news', p.1 ∉ C :: D :: wr) → h'.Ns C mC → R (.ok .next) ⟨h', gs', dr, tk', os⟩) :
    codeAny (model prog w) A (.compLoop (.ListComp elt [⟨.Name x px, iter, [], 0⟩] cscope pos) 0 (.ref I) (.ref D) (compEnvC cscope cl C env)) R ⟨h, gs, dr, tk, os⟩ := by
  have hCw : C ∉ wr := fun q => hCf (W.sub _ q)
  have hDw : D ∉ wr := fun q => hDf (W.sub _ q)
  have hLw : L ∉ wr := fun q => hLf (W.sub _ q)
  refine codeAny_compLoop_list (fun k s => ∃ i ys news gs' h tk mC k2, s = ⟨h, gs', dr, tk, os⟩ ∧ k = n - i ∧ i ≤ n ∧ ys.length = i ∧ J i ys news gs' ∧ Fr g L h mm ∧ News g L h ((D, lob ys k2) :: news) ∧ (∀ p ∈ news, p.1 ∉ C :: D :: wr) ∧ St i h ∧ h.Ns C mC) ?_ n
    ⟨0, [], news, gs, h, tk, mC, 0, rfl, rfl, Nat.zero_le _, rfl, h0, F, N, hnw, hst, hC⟩
  rintro k s ⟨i, ys, news, gs', h, tk, mC, k2, rfl, rfl, hi, hys, hJ, F, N, hnw, hst, hC⟩
  have hDn : D ≠ L := (N _ (.head _)).2.1
  have hDg : g.get? D = none := (N _ (.head _)).2.2
  rcases Nat.lt_or_ge i n with hin | hin
  · refine W.item i _ _ _ hin hst fun v h1 tk1 hP hst1 k1 => ?_
    have F1 : Fr g L h1 mm := ⟨F.ns.at fun o e => k1 _ _ hLw e, fun b o e => k1 _ _ (fun hm => by rw [hwr b hm] at e; cases e) (F.keep b o e), F.above⟩
    have N1 : News g L h1 ((D, lob ys k2) :: news) := fun p hp => by
      obtain ⟨x1, x2, x3⟩ := N p hp
      refine ⟨k1 _ _ ?_ x1, x2, x3⟩
      rcases List.mem_cons.mp hp with rfl | hp
      · exact hDw
      · exact fun q => hnw p hp (List.mem_cons_of_mem _ (List.mem_cons_of_mem _ q))
    have hC1 : h1.Ns C mC := hC.at' fun o e => k1 _ _ hCw e
    dsimp only
    refine wpAny_assign_Name (wpAny_storeName_local (lookup_relabel_local hx) hC1 (fun h2 hC2 hs2 => ?_) (by simp [compEnvC, relabel, hkind]))
    have up2 : ∀ b o, b ≠ C → h1.get? b = some o → h2.get? b = some o := fun b o hb e => hs2.extBut b o hb e
    have F2 : Fr g L h2 mm := ⟨F1.ns.at fun o e => up2 _ _ hCL.symm e, fun b o e => up2 _ _ (fun hm => by rw [hm, hCg] at e; cases e) (F1.keep b o e), F1.above⟩
    have N2 : News g L h2 ((D, lob ys k2) :: news) := fun p hp => by
      obtain ⟨x1, x2, x3⟩ := N1 p hp
      refine ⟨up2 _ _ ?_ x1, x2, x3⟩
      rcases List.mem_cons.mp hp with rfl | hp
      · exact hDC
      · exact fun q => hnw p hp (q ▸ List.mem_cons_self ..)
    have hst2 : St (i + 1) h2 := W.frame _ _ _ hst1 fun b hb o e => up2 _ _ (fun q => hCf (q ▸ hb)) e
    obtain ⟨oC, hoC⟩ : ∃ oC, h2.get? C = some oC := let ⟨o, _, _, q, _⟩ := hC2; ⟨o, q⟩
    obtain ⟨own, hown⟩ : ∃ own : Ledger, own = (C, oC) :: (D, lob ys k2) :: fp.filterMap fun b => if (g.get? b).isNone then (h2.get? b).map (b, ·) else none := ⟨_, rfl⟩
    have own_of : ∀ p ∈ own, h2.get? p.1 = some p.2 ∧ p.1 ≠ L ∧ g.get? p.1 = none := by
      intro p hp
      rw [hown] at hp
      rcases List.mem_cons.mp hp with rfl | hp
      · exact ⟨hoC, hCL, hCg⟩
      rcases List.mem_cons.mp hp with rfl | hp
      · exact N2 _ (.head _)
      obtain ⟨b, hb, e⟩ := List.mem_filterMap.mp hp
      split at e
      · rename_i hn
        obtain ⟨o, ho, rfl⟩ := Option.map_eq_some_iff.mp e
        exact ⟨ho, fun q => hLf (q ▸ hb), by simpa using hn⟩
      · cases e
    have own_in : ∀ b ∈ fp, ∀ o, g.get? b = none → h2.get? b = some o → (b, o) ∈ own := by
      intro b hb o hn ho
      rw [hown]
      refine List.mem_cons_of_mem _ (List.mem_cons_of_mem _ (List.mem_filterMap.mpr ⟨b, hb, ?_⟩))
      rw [hn, ho]
      rfl
    have NO : News g L h2 (own ++ news) := fun p hp => by
      rcases List.mem_append.mp hp with hp | hp
      · exact own_of p hp
      · exact N2 p (.tail _ hp)
    have own_fp : ∀ p ∈ own, p.1 ∈ C :: D :: fp := by
      intro p hp
      rw [hown] at hp
      rcases List.mem_cons.mp hp with rfl | hp
      · exact List.mem_cons_self ..
      rcases List.mem_cons.mp hp with rfl | hp
      · exact List.mem_cons_of_mem _ (List.mem_cons_self ..)
      obtain ⟨b, hb, e⟩ := List.mem_filterMap.mp hp
      split at e
      · obtain ⟨o, ho, rfl⟩ := Option.map_eq_some_iff.mp e
        exact List.mem_cons_of_mem _ (List.mem_cons_of_mem _ hb)
      · cases e
    refine wpAny_mono (turn i v ys news gs' h2 _ own _ _ hin hP hJ F2 NO hnw (fun b hb => ?_) own_fp hC2 (by simp)) (fun y s₃ h₃ => ?_) fun _ _ z => z
    · rcases List.mem_cons.mp hb with rfl | hb
      · exact ⟨oC, by rw [hown]; exact List.mem_cons_self ..⟩
      rcases List.mem_cons.mp hb with rfl | hb
      · exact ⟨_, by rw [hown]; exact List.mem_cons_of_mem _ (List.mem_cons_self ..)⟩
      obtain ⟨o, ho⟩ := hlive _ _ hst2 b hb
      exact ⟨o, own_in b (W.sub b hb) o (hwr b hb) ho⟩
    · obtain ⟨news', gs'', h3, tk3, rfl, hJ', F3, N3, hnw'⟩ := h₃
      have hD3 : h3.get? D = some (lob ys k2) := (N3 (D, lob ys k2) (List.mem_append_left _ (by rw [hown]; exact List.mem_cons_of_mem _ (List.mem_cons_self ..)))).1
      have hC3 : h3.get? C = some oC := (N3 (C, oC) (List.mem_append_left _ (by rw [hown]; exact List.mem_cons_self ..))).1
      have hst3 : St (i + 1) h3 := W.frame _ _ _ hst2 fun b hb o ho => by
        cases hg : g.get? b with
        | none => exact (N3 _ (List.mem_append_left _ (own_in b hb o hg ho))).1
        | some o₂ =>
          have := F2.keep b o₂ hg
          rw [ho] at this
          cases this
          exact F3.keep b o hg
      refine append_at (s := ⟨h3, gs'', dr, tk3, os⟩) (hsz := ?hz) hD3 fun h4 hs4 ho4 => ?_
      case hz => rw [List.size_toArray, sizeLine_eq]; omega
      refine ⟨n - (i + 1), by omega, i + 1, ys ++ [y], news', gs'', h4, tk3, _, k2 + 1, rfl, rfl, hin, by simp [hys], hJ', F3.change hs4 hDn hDg, ?_, hnw', W.frame _ _ _ hst3 fun b hb o e => hs4.extBut b o (fun q => hDf (q ▸ hb)) e, (hC2.at' fun o e => ?_)⟩
      · intro p hp
        rcases List.mem_cons.mp hp with rfl | hp
        · refine ⟨?_, hDn, hDg⟩
          rw [ho4]
          simp [lob]
        · obtain ⟨x1, x2, x3⟩ := N3 p (List.mem_append_right _ hp)
          exact ⟨hs4.extBut _ _ (fun q => hnw' p hp (by rw [q]; exact List.mem_cons_of_mem _ (List.mem_cons_self ..))) x1, x2, x3⟩
      · replace e : h2.get? C = some o := e
        rw [hoC] at e
        cases e
        exact hs4.extBut _ _ hDC.symm hC3
  · obtain rfl : i = n := Nat.le_antisymm hi hin
    refine W.done _ _ _ hst fun h1 tk1 k1 => ?_
    refine done ys k2 news gs' h1 _ mC hJ hys ⟨F.ns.at fun o e => k1 _ _ hLw e, fun b o e => k1 _ _ (fun hm => by rw [hwr b hm] at e; cases e) (F.keep b o e), F.above⟩ (fun p hp => ?_) hnw (hC.at' fun o e => k1 _ _ hCw e)
    obtain ⟨x1, x2, x3⟩ := N p hp
    refine ⟨k1 _ _ ?_ x1, x2, x3⟩
    rcases List.mem_cons.mp hp with rfl | hp
    · exact hDw
    · exact fun q => hnw p hp (List.mem_cons_of_mem _ (List.mem_cons_of_mem _ q))
/-- from the iterator on -/
def AfterIter (prog : Program) (w : World) (A : Around) (E : Value → Shared → Prop) (elt iter : Expr) (x : Str) (px : Pos) (cscope : Scope) (cl : List (Str × Addr)) (pos : Pos) (env : Env) (use : Option (Value → Sem Unit)) (Q : Value → Shared → Prop) (it : Value) (s₂ : Shared) : Prop :=
  wpAny (model prog w) A (newList []) (fun acc s₃ => wpAny (model prog w) A (newFunctionEnv cscope env.globals cl [] env.qual none .none (some env)) (fun cenv s₄ =>
    codeAny (model prog w) A (.compStart (.ListComp elt [⟨.Name x px, iter, [], 0⟩] cscope pos) 0 it acc { cenv with scope := relabel cscope env }) (compPost (model prog w) A E use Q acc cenv.locals) s₄) E s₃) E s₂
theorem x_lcomp {elt iter : Expr} {x : Str} {px : Pos} {cscope : Scope} {cl : List (Str × Addr)} {pos : Pos} {Q : Value → Shared → Prop} {s : Shared}
    (hs : ∀ x, foldedSetIterable iter env x = pure x) (hclos : closureFor cscope env = pure cl) (hkind : cscope.kind = .function) (hnames : ∀ y ∈ cscope.names, y.2 = .local → cscope.names.lookup y.1 = some .local)
    (H : wpAny (model prog w) A (eval iter env) (fun xv s₁ => wpAny (model prog w) A (pyIter xv) (AfterIter prog w A E elt iter x px cscope cl pos env none Q) E s₁) E s) :
    wpAny (model prog w) A (eval (.ListComp elt [⟨.Name x px, iter, [], 0⟩] cscope pos) env) Q E s := by
  rw [eval_ListComp]
  exact wpAny_comprehension_free (use := none) rfl hs hclos hkind hnames H
theorem x_acomp {elt iter : Expr} {x y : Str} {px py : Pos} {cscope : Scope} {cl : List (Str × Addr)} {pos spos : Pos} {Q : Flow → Shared → Prop} {s : Shared}
    (hsw : swapsWith (.ListComp elt [⟨.Name x px, iter, [], 0⟩] cscope pos) (some (.Name y py)) spos.line env = pure true)
    (hs : ∀ x, foldedSetIterable iter env x = pure x) (hclos : closureFor cscope env = pure cl) (hkind : cscope.kind = .function) (hnames : ∀ y ∈ cscope.names, y.2 = .local → cscope.names.lookup y.1 = some .local)
    (H : wpAny (model prog w) A (eval iter env) (fun xv s₁ => wpAny (model prog w) A (pyIter xv) (AfterIter prog w A E elt iter x px cscope cl pos env (some (assign (.Name y py) env)) (fun _ s' => Q .next s')) E s₁) E s) :
    wpAny (model prog w) A (exec (.Assign [.Name y py] (.ListComp elt [⟨.Name x px, iter, [], 0⟩] cscope pos) spos) env) Q E s := by
  rw [exec_Assign_Name_used _ _ _ _ hsw]
  refine wpAny_bind (wpAny_standAt (wpAny_bind ?_))
  show wpAny _ A (do let _ ← comprehension (.ListComp elt [⟨.Name x px, iter, [], 0⟩] cscope pos) cscope env _ (newList []) false (eval iter env) (some (assign (.Name y py) env))) _ _ s
  exact wpAny_bind (wpAny_mono (wpAny_comprehension_free (use := some (assign (.Name y py) env)) (Q := fun _ s' => Q .next s') rfl hs hclos hkind hnames H) (fun _ s' hq => wpAny_pure (wpAny_pure hq)) fun _ _ e => e)
/-- the block of a comprehension over what walks -/
theorem comp_block {elt iter : Expr} {x : Str} {px : Pos} {cscope : Scope} {cl : List (Str × Addr)} {pos : Pos} {I : Addr} {fp wr : List Addr} {n : Nat} {P : Nat → Value → Prop} {St : Nat → Heap → Prop} {use : Option (Value → Sem Unit)} {Q : Value → Shared → Prop}
    (W : Walks prog w A I fp wr n P St) (hsz : n ≤ 100000) (hcell : ∀ y ∈ cscope.names, y.2 ≠ .cell) (hkind : cscope.kind = .function) (hx : cscope.names.lookup x = some .local)
    (hLf : L ∉ fp) (hwr : ∀ b ∈ wr, g.get? b = none) (hlive : ∀ i h, St i h → ∀ b ∈ wr, ∃ o, h.get? b = some o) (hfp : ∀ b ∈ fp, b < h.objs.size)
    (J : Nat → List Value → Ledger → Array GenState → Prop) (h0 : J 0 [] news gs) (F : Fr g L h mm) (N : News g L h news) (hnw : ∀ p ∈ news, p.1 ∉ wr) (hst : St 0 h)
    (turn : ∀ i v ys news gs' h tk own C D mC E', i < n → P i v → J i ys news gs' → Fr g L h mm → News g L h (own ++ news) → (∀ p ∈ news, p.1 ∉ C :: D :: wr) → (∀ b ∈ C :: D :: wr, ∃ o, (b, o) ∈ own) → (∀ p ∈ own, p.1 ∈ C :: D :: fp) → h.Ns C mC → mC x = some v →
      wpAny (model prog w) A (eval elt (compEnvC cscope cl C env)) (TurnEnd J dr os g L mm own (C :: D :: wr) i ys) E' ⟨h, gs', dr, tk, os⟩)
    (done : ∀ C D ys k news' gs' h' tk' mC, J n ys news' gs' → ys.length = n → Fr g L h' mm → News g L h' ((D, lob ys k) :: news') → (∀ p ∈ news', p.1 ≠ D) → (∀ p ∈ (D, lob ys k) :: news', p.1 ≠ C) → C ≠ L → g.get? C = none → h'.Ns C mC → compPost (model prog w) A E use Q (.ref D) C (.ok .next) ⟨h', gs', dr, tk', os⟩) :
    AfterIter prog w A E elt iter x px cscope cl pos env use Q (.ref I) ⟨h, gs, dr, tk, os⟩ := by
  unfold AfterIter
  refine wpAny_newObj_type (s := ⟨h, gs, dr, tk, os⟩) (wpAny_newFunctionEnv hcell (by intro y hy; simp at hy) (fun h₁ hns₁ hsb₁ => ?_) hkind)
  dsimp only at hns₁ hsb₁ ⊢
  generalize hH2 : h.push { cls := .type "list", dict := none, data := .seq ([] : List Value).toArray } = H2 at hns₁ hsb₁ ⊢
  have hC : H2.objs.size = h.objs.size + 1 := by rw [← hH2, Heap.size_push]
  have hDC : h.objs.size ≠ H2.objs.size := by rw [hC]; exact Nat.ne_of_lt (Nat.lt_succ_self _)
  have below : ∀ b, b < h.objs.size → b ≠ H2.objs.size ∧ b ≠ h.objs.size := fun b hb => ⟨by rw [hC]; exact Nat.ne_of_lt (Nat.lt_succ_of_lt hb), Nat.ne_of_lt hb⟩
  have hDf : h.objs.size ∉ fp := fun hm => Nat.lt_irrefl _ (hfp _ hm)
  have hCf : H2.objs.size ∉ fp := fun hm => by have := hfp _ hm; rw [hC] at this; exact Nat.lt_irrefl _ (Nat.lt_of_succ_lt this)
  have old : ∀ b o, h.get? b = some o → h₁.get? b = some o := fun b o e => hsb₁.extBut b o (below b (Heap.lt_size e)).1 (Heap.get?_push_of_some _ (hH2 ▸ Heap.get?_push_of_some _ e))
  have hacc : h₁.get? h.objs.size = some (lob [] 0) := hsb₁.extBut _ _ hDC (Heap.get?_push_of_some _ (hH2 ▸ Heap.get?_push_size _ rfl))
  have hst₁ : St 0 h₁ := W.frame _ _ _ hst fun b _ o e => old b o e
  have freshg : ∀ a, h.objs.size ≤ a → g.get? a = none := fun a ha => by
    cases e : g.get? a with
    | none => rfl
    | some o' => exact absurd (Heap.lt_size (F.keep _ _ e)) (Nat.not_lt.mpr ha)
  have hLlt : L < h.objs.size := F.ns.lt
  have hCL : H2.objs.size ≠ L := by rw [hC]; exact Nat.ne_of_gt (Nat.lt_succ_of_lt hLlt)
  have hDL : h.objs.size ≠ L := Nat.ne_of_gt hLlt
  have hCg : g.get? H2.objs.size = none := freshg _ (by rw [hC]; exact Nat.le_succ _)
  have hDg : g.get? h.objs.size = none := freshg _ (Nat.le_refl _)
  have N1 : News g L h₁ ((h.objs.size, lob [] 0) :: news) := fun p hp => by
    rcases List.mem_cons.mp hp with rfl | hp
    · exact ⟨hacc, hDL, hDg⟩
    · exact news_ke N old p hp
  have F1 : Fr g L h₁ mm := F.keeps old
  have hnw1 : ∀ p ∈ news, p.1 ∉ H2.objs.size :: h.objs.size :: wr := fun p hp q => by
    have hlt := Heap.lt_size (N p hp).1
    rcases List.mem_cons.mp q with q | q
    · exact (below _ hlt).1 q
    rcases List.mem_cons.mp q with q | q
    · exact (below _ hlt).2 q
    exact hnw p hp q
  have loop : ∀ tk', codeAny (model prog w) A (.compLoop (.ListComp elt [⟨.Name x px, iter, [], 0⟩] cscope pos) 0 (.ref I) (.ref h.objs.size) (compEnvC cscope cl H2.objs.size env)) (compPost (model prog w) A E use Q (.ref h.objs.size) H2.objs.size) ⟨h₁, gs, dr, tk', os⟩ := by
    intro tk'
    refine comp_loop W hsz hkind hx hLf hwr hlive hDC hDf hCf hCL hCg J h0 F1 N1 hnw1 hst₁ hns₁ (fun i v ys news gs' h tk own mC E' => turn i v ys news gs' h tk own _ _ mC E') fun ys k news' gs' h' tk' mC hJ hy F' N' hw hn => ?_
    refine done _ _ ys k news' gs' h' tk' mC hJ hy F' N' (fun p hp q => hw p hp (by rw [q]; exact List.mem_cons_of_mem _ (List.mem_cons_self ..))) (fun p hp q => ?_) hCL hCg hn
    rcases List.mem_cons.mp hp with rfl | hp
    · exact hDC q
    · exact hw p hp (by rw [q]; exact List.mem_cons_self ..)
  exact codeAny_compStart_list (loop _) (W.self 0 _ _ _ hst₁ (loop _))
theorem comp_end0 {C D : Addr} {ys : List Value} {k : Nat} {news' : Ledger} {mC : Str → Option Value} {P : Shared → Prop} (F : Fr g L h mm) (N : News g L h ((D, lob ys k) :: news')) (hC : ∀ p ∈ (D, lob ys k) :: news', p.1 ≠ C) (hCL : C ≠ L) (hCg : g.get? C = none) (hn : h.Ns C mC)
    (H : ∀ h', Fr g L h' mm → News g L h' ((D, lob ys k) :: news') → P ⟨h', gs, dr, tk, os⟩) : ∃ m, h.Ns C m ∧ ∀ h', Heap.SameBut C h h' → P ⟨h', gs, dr, tk, os⟩ :=
  ⟨mC, hn, fun h' hs => H h' ⟨F.ns.at fun o e => hs.extBut _ _ hCL.symm e, fun b o e => hs.extBut _ _ (fun hm => by rw [hm, hCg] at e; cases e) (F.keep b o e), F.above⟩ fun p hp => ⟨hs.extBut _ _ (hC p hp) (N p hp).1, (N p hp).2⟩⟩
/-- its value is used as it stands -/
theorem comp_end {C D : Addr} {ys : List Value} {k : Nat} {news' : Ledger} {mC : Str → Option Value} {Q : Value → Shared → Prop} (F : Fr g L h mm) (N : News g L h ((D, lob ys k) :: news')) (hC : ∀ p ∈ (D, lob ys k) :: news', p.1 ≠ C) (hCL : C ≠ L) (hCg : g.get? C = none) (hn : h.Ns C mC)
    (H : ∀ h', Fr g L h' mm → News g L h' ((D, lob ys k) :: news') → Q (.ref D) ⟨h', gs, dr, tk, os⟩) : compPost (model prog w) A E none Q (.ref D) C (.ok .next) ⟨h, gs, dr, tk, os⟩ :=
  comp_end0 (P := fun s => Q (.ref D) s) F N hC hCL hCg hn H
/-- its value is bound -/
theorem comp_end_use {C D a : Addr} {ys : List Value} {k : Nat} {news' : Ledger} {mC : Str → Option Value} {Q : Value → Shared → Prop} {y : Str} {py : Pos} {ρ : List (Str × Value)} {name : Str} {scope : Scope} {cd : Value} (F : Fr g L h (look ρ)) (N : News g L h ((D, lob ys k) :: news')) (hC : ∀ p ∈ (D, lob ys k) :: news', p.1 ≠ C) (hCL : C ≠ L) (hCg : g.get? C = none) (hn : h.Ns C mC)
    (hk : scope.kind = .function) (hl : scope.names.lookup y = some .local)
    (H : ∀ h' tk', Fr g L h' (look ((y, .ref D) :: ρ)) → News g L h' ((D, lob ys k) :: news') → Q .none ⟨h', gs, dr, tk', os⟩) : compPost (model prog w) A E (some (assign (.Name y py) (envOf name scope L a cd))) Q (.ref D) C (.ok .next) ⟨h, gs, dr, tk, os⟩ := by
  have hCn : News g L h ((C, (h.get? C).getD default) :: (D, lob ys k) :: news') := fun p hp => by
    rcases List.mem_cons.mp hp with rfl | hp
    · obtain ⟨o, _, _, q, _⟩ := hn
      exact ⟨by rw [q]; rfl, hCL, hCg⟩
    · exact N p hp
  show wpAny _ A (assign (.Name y py) (envOf name scope L a cd) (.ref D)) _ _ _
  refine wpAny_assign_Name (x_store F hCn hk hl fun h' tk' F' N' => ?_)
  obtain ⟨o, ho⟩ : ∃ o, h.get? C = some o := let ⟨o, _, _, q, _⟩ := hn; ⟨o, q⟩
  have hC' : h'.get? C = some o := by have := (N' _ (.head _)).1; rw [ho] at this; exact this
  exact comp_end0 (P := fun s => Q .none s) (tk := tk') F' (N'.tail') hC hCL hCg (hn.at' fun ob e => by rw [ho] at e; cases e; exact hC') (fun h'' F'' N'' => H h'' tk' F'' N'')
end
end

section
/-! names in any function's frame, cells among them -/
section
variable {w : World} {A : Around} {E : Value → Shared → Prop} {gs : Array GenState} {dr : Drawn} {tk : Nat} {os : OsState} {h g : Heap} {L a : Addr} {mm mC : Str → Option Value} {ρ : List (Str × Value)} {news : Ledger} {env : Env} {Q : Value → Shared → Prop}
theorem xe_name {M : Model} {x : Str} {pos : Pos} {v : Value} (hn : h.Ns env.locals mC) (hv : mC x = some v) (hk : env.scope.kind = .function) (hl : env.kindOf x = some .local) (hd : (x == ("__debug__" : Str)) = false) (k : Q v ⟨h, gs, dr, tk, os⟩) :
    wpAny M A (eval (.Name x pos) env) Q E ⟨h, gs, dr, tk, os⟩ := wpAny_Name (wpAny_loadName_local hk hl hn hv k) hd
theorem xe_cell {M : Model} {x : Str} {pos : Pos} {v : Value} {c : Addr} {o : Obj} (hc : env.cells.lookup x = some c) (hk : env.scope.kind = .function) (hl : env.kindOf x = some .cell) (hd : (x == ("__debug__" : Str)) = false) (N : News g L h news) (hm : (c, o) ∈ news) (ho : o.data = .cell (some v)) (k : Q v ⟨h, gs, dr, tk, os⟩) :
    wpAny M A (eval (.Name x pos) env) Q E ⟨h, gs, dr, tk, os⟩ := wpAny_Name (wpAny_loadName_cell hk hl hc ⟨o, N.get hm, ho⟩ k) hd
theorem xe_free {M : Model} {x : Str} {pos : Pos} {v : Value} {c : Addr} {o : Obj} (hc : env.cells.lookup x = some c) (hk : env.scope.kind = .function) (hl : env.kindOf x = some .free) (hd : (x == ("__debug__" : Str)) = false) (hd2 : (x == ("__classdict__" : Str)) = false) (N : News g L h news) (hm : (c, o) ∈ news) (ho : o.data = .cell (some v)) (k : Q v ⟨h, gs, dr, tk, os⟩) :
    wpAny M A (eval (.Name x pos) env) Q E ⟨h, gs, dr, tk, os⟩ := wpAny_Name (wpAny_loadName_free hk hl hc ⟨o, N.get hm, ho⟩ k hd2) hd
theorem xe_glob {M : Model} {x : Str} {pos : Pos} {v : Value} (B : Base w h) (hv : globs.lookup x = some v) (hg : env.globals = mainGlobals) (hk : env.scope.kind = .function) (hl : env.kindOf x = some .globalImplicit)
    (hd : (x == ("__debug__" : Str)) = false) (k : Q v ⟨h, gs, dr, tk, os⟩) : wpAny M A (eval (.Name x pos) env) Q E ⟨h, gs, dr, tk, os⟩ := by
  obtain ⟨mg, h1, h2, _⟩ := B.g
  exact Name_function_global hk hl (loadGlobal_global (s := ⟨h, gs, dr, tk, os⟩) (show h.Ns env.globals mg from hg ▸ h1) (h2 _ (globs_mem hv)) k) hd
theorem xe_blt {M : Model} {x : Str} {pos : Pos} {v : Value} (B : Base w h) (hb : bltNames.contains x = true) (hv : bootBuiltins x = some v) (hg : env.globals = mainGlobals) (hbu : env.builtins = builtinsNs) (hk : env.scope.kind = .function) (hl : env.kindOf x = some .globalImplicit)
    (hd : (x == ("__debug__" : Str)) = false) (hn : x ≠ "__name__") (k : Q v ⟨h, gs, dr, tk, os⟩) : wpAny M A (eval (.Name x pos) env) Q E ⟨h, gs, dr, tk, os⟩ := by
  obtain ⟨mg, h1, _, h3⟩ := B.g
  obtain ⟨mb, b1, b2⟩ := B.b
  exact Name_function_global hk hl (loadGlobal_builtin (s := ⟨h, gs, dr, tk, os⟩) (show h.Ns env.globals mg from hg ▸ h1) (h3 _ (List.contains_iff_mem.mp hb)) (show h.Ns env.builtins mb from hbu ▸ b1) ((b2 _ hn).trans hv) k) hd
theorem xe_call {x : Str} {np pos : Pos} {e : Expr} {rest : List Expr} {f : Addr} {o : Obj} {fd : FuncData} (B : Base w h) (hv : globs.lookup x = some (.ref f)) (hg : env.globals = mainGlobals) (hk : env.scope.kind = .function) (hl : env.kindOf x = some .globalImplicit)
    (hd : (x == ("__debug__" : Str)) = false) (ho : (objs w.params).lookup f = some o) (hdat : o.data = .func fd) (he : starEach (e :: rest) env = (false, eval e env) :: starEach rest env)
    (H : wpAny (model pw w) A (spliced (backTo pos (starEach (e :: rest) env))) (Called w A E f Q) E ⟨h, gs, dr, tk, os⟩) :
    wpAny (model pw w) A (eval (.Call (.Name x np) (e :: rest) [] pos) env) Q E ⟨h, gs, dr, tk, os⟩ := by
  refine wpAny_Call_ofName (xe_glob B hv hg hk hl hd ?_)
  refine callWith_def (o := o) hdat (wpAny_mono H (fun vs s₁ h₁ => ?_) fun _ _ x => x) he
  obtain ⟨⟨o', e1, e2⟩, h2⟩ := h₁
  rw [ho] at e1
  cases e1
  exact ⟨e2, h2⟩
theorem xe_called {f : Addr} {o : Obj} {vs : List Value} (B : Base w h) (ho : (objs w.params).lookup f = some o) (H : wpAny (model pw w) A (call (.ref f) vs) Q E ⟨h, gs, dr, tk, os⟩) :
    Called w A E f Q vs ⟨h, gs, dr, tk, os⟩ := ⟨⟨o, ho, B.get ho⟩, H⟩
theorem xe_callb {x : Str} {np pos : Pos} {e : Expr} {rest : List Expr} {id : String} (B : Base w h) (hb : bltNames.contains x = true) (hv : bootBuiltins x = some (.builtin id)) (hg : env.globals = mainGlobals) (hbu : env.builtins = builtinsNs) (hk : env.scope.kind = .function) (hl : env.kindOf x = some .globalImplicit)
    (hd : (x == ("__debug__" : Str)) = false) (hn : x ≠ "__name__") (he : starEach (e :: rest) env = (false, eval e env) :: starEach rest env) (hp : (backTo pos (starEach rest env)).any (·.1) = false)
    (H : wpAny (model pw w) A (spliced (backTo pos (starEach (e :: rest) env))) (fun vs s₁ => wpAny (model pw w) A (call (.builtin id) vs) Q E s₁) E ⟨h, gs, dr, tk, os⟩) :
    wpAny (model pw w) A (eval (.Call (.Name x np) (e :: rest) [] pos) env) Q E ⟨h, gs, dr, tk, os⟩ :=
  wpAny_Call_ofName (xe_blt B hb hv hg hbu hk hl hd hn (callWith_builtin1 H he hp))
theorem xe_callt {x : Str} {np pos : Pos} {e : Expr} {rest : List Expr} {T : String} (B : Base w h) (hb : bltNames.contains x = true) (hv : bootBuiltins x = some (.type T)) (hg : env.globals = mainGlobals) (hbu : env.builtins = builtinsNs) (hk : env.scope.kind = .function) (hl : env.kindOf x = some .globalImplicit)
    (hd : (x == ("__debug__" : Str)) = false) (hn : x ≠ "__name__") (he : starEach (e :: rest) env = (false, eval e env) :: starEach rest env) (hp : (backTo pos (starEach rest env)).any (·.1) = false)
    (H : wpAny (model pw w) A (spliced (backTo pos (starEach (e :: rest) env))) (fun vs s₁ => wpAny (model pw w) A (call (.type T) vs) Q E s₁) E ⟨h, gs, dr, tk, os⟩) :
    wpAny (model pw w) A (eval (.Call (.Name x np) (e :: rest) [] pos) env) Q E ⟨h, gs, dr, tk, os⟩ :=
  wpAny_Call_ofName (xe_blt B hb hv hg hbu hk hl hd hn (PyProof.Rows.callWith_type1 H he hp))
theorem xe_store {M : Model} {x : Str} {v : Value} {name : Str} {scope : Scope} {cd : Value} {Q : Unit → Shared → Prop} (F : Fr g L h (look ρ)) (N : News g L h news) (hk : scope.kind = .function) (hl : (envOfC name scope L a cd).kindOf x = some .local)
    (H : ∀ h' tk', Fr g L h' (look ((x, v) :: ρ)) → News g L h' news → Q () ⟨h', gs, dr, tk', os⟩) :
    wpAny M A (storeName (envOfC name scope L a cd) x v) Q E ⟨h, gs, dr, tk, os⟩ := stLocN (s := ⟨h, gs, dr, tk, os⟩) F N (fun h' F' N' => H h' _ (look_cons ρ x v ▸ F') N') hk hl
/-- a function is entered whose locals are cells in part -/
theorem x_enterC {name : Str} {params : Arguments} {body : List Stmt} {scope : Scope} {pm doc : Value} {f c : Addr} {o oc : Obj} {vs : Array Value} {tq : Tok} {vals : List Value} {binds : List (Str × Value)} {lρ : List (Str × Value)}
    (B : Base w h) (hdep : A.depth < recursionLimit) (ho : (objs w.params).lookup f = some o) (hdat : o.data = .func (docDef name params body scope pm (.ref c) doc))
    (hc : (objs w.params).lookup c = some oc) (hcd : oc.data = .fields vs) (hq : vs[1]? = some (.str name tq))
    (hbind : bindArgs (docDef name params body scope pm (.ref c) doc) ⟨vals, []⟩ = pure binds)
    (hkind : ∀ x ∈ binds, scope.names.lookup x.1 = some .local ∨ (scope.names.lookup x.1 = some .cell ∧ ((cellsFrom (h.objs.size + 1) scope.names []).lookup x.1).isSome = true))
    (hnd : ((cellsFrom 0 scope.names []).map (·.1)).Nodup) (hρ : (bindL (envOfC name scope h.objs.size f (.ref c)).kindOf binds fun _ => none) = look lρ)
    (hco : scope.isCoroutine = false) (hgen : scope.isGenerator = false) (hk : scope.kind = .function)
    (H : ∀ h₁ L tk' cells, L = h.objs.size → Fr h L h₁ (look lρ) → News h L h₁ cells → CellsAre (bindC (envOfC name scope L f (.ref c)).kindOf binds fun _ => none) (cellsFrom (L + 1) scope.names []) cells →
      wpAny (model pw w) (A.deeper (envOfC name scope L f (.ref c))) (execs body (envOfC name scope L f (.ref c))) (fun fl s' => Q (match fl with | .ret v => v | _ => .none) s') (fun _ _ => False) ⟨h₁, gs, dr, tk', os⟩) :
    wpAny (model pw w) A (call (.ref f) vals) Q E ⟨h, gs, dr, tk, os⟩ :=
  wpAny_call (call_cellsN_ret (s := ⟨h, gs, dr, tk, os⟩) hdep (B.get ho) hdat B.nolimit ⟨c, oc, vs, tq, rfl, B.get hc, hcd, hq⟩ hbind hkind hnd (fun h₁ tk' cells F N X => H h₁ _ tk' cells rfl (hρ ▸ F) N X) hco hgen hk)
end
/-! operations -/
section
variable {w : World} {A : Around} {E : Value → Shared → Prop} {gs : Array GenState} {dr : Drawn} {tk : Nat} {os : OsState} {h g : Heap} {L : Addr} {mm : Str → Option Value} {news news' : Ledger} {Q : Value → Shared → Prop} {t u : Tok} {prog : Program} {i j : Int}
theorem x_fdivE (hj : 0 < j ∧ j < 1000000) (H : ∀ t' tk', Q (.int (i / j) t') ⟨h, gs, dr, tk', os⟩) : wpAny (model prog w) A (binaryOp .FloorDiv (.int i t) (.int j u)) Q E ⟨h, gs, dr, tk, os⟩ :=
  floordiv_int (by omega) (by rw [Int.fdiv_eq_ediv_of_nonneg _ (by omega)]; exact H _ _) (Or.inl (PyProof.noPylong_small (by omega)))
theorem x_isb1 {x : List UInt8} (B : Base w h) (H : ∀ tk', Q (.bool true) ⟨h, gs, dr, tk', os⟩) : wpAny (model pw w) A (call (.builtin "isinstance") [.bytes x.toArray t, .type "bytes"]) Q E ⟨h, gs, dr, tk, os⟩ :=
  kia_one (s := ⟨h, gs, dr, tk, os⟩) (K := objs w.params) kitx_bytes B.inK trivial (by rfl) (by intro q; cases q) (fun tk' => H tk')
theorem x_isl1 {ax : Addr} {vs : List Value} {n : Nat} (B : Base w h) (hax : h.get? ax = some (lob vs n)) (H : ∀ tk', Q (.bool false) ⟨h, gs, dr, tk', os⟩) : wpAny (model pw w) A (call (.builtin "isinstance") [.ref ax, .type "bytes"]) Q E ⟨h, gs, dr, tk, os⟩ :=
  kia_one (s := ⟨h, gs, dr, tk, os⟩) (K := objs w.params) kitx_list B.inK ⟨_, hax, rfl⟩ (by rfl) (by intro q; cases q) (fun tk' => H tk')
theorem x_neg (H : ∀ t' tk', Q (.int (-i) t') ⟨h, gs, dr, tk', os⟩) : wpAny (model prog w) A (unaryOp .USub (.int i t)) Q E ⟨h, gs, dr, tk, os⟩ := PyProof.Rows.neg_int (H _ _)
theorem x_bne {b c : List UInt8} (H : Q (.bool (b != c)) ⟨h, gs, dr, tk, os⟩) : wpAny (model prog w) A (compareOp .NotEq (.bytes b.toArray t) (.bytes c.toArray u)) Q E ⟨h, gs, dr, tk, os⟩ := ne_bytes H
theorem x_boolne {b c : Bool} (H : Q (.bool (b != c)) ⟨h, gs, dr, tk, os⟩) : wpAny (model prog w) A (compareOp .NotEq (.bool b) (.bool c)) Q E ⟨h, gs, dr, tk, os⟩ := ne_bool H
/-- list + list -/
theorem x_ladd {l b : Addr} {vs ws : List Value} (F : Fr g L h mm) (N : News g L h news) (hl : Heap.IsList h l vs.toArray) (hb : Heap.IsList h b ws.toArray) (hz : vs.length + ws.length ≤ 100000)
    (H : ∀ h' u, (∀ p ∈ news, p.1 ≠ u) → Fr g L h' mm → News g L h' ((u, lob (vs ++ ws) 0) :: news) → Q (.ref u) ⟨h', gs, dr, tk, os⟩) : wpAny (model prog w) A (binaryOp .Add (.ref l) (.ref b)) Q E ⟨h, gs, dr, tk, os⟩ :=
  add_lists (s := ⟨h, gs, dr, tk, os⟩) F N hl hb (fun h' F' N' => H h' _ (news_lt N) F' N') (by rw [sizeLine_eq]; omega)
/-- a slice of a list -/
theorem x_lsl {l : Addr} {vs cells : List Value} {vl vu : Value} {lo hi : Option Int} {value slice : Expr} (F : Fr g L h mm) (N : News g L h news) (hl : Heap.IsList h l vs.toArray) (pl : IsPart vl lo) (pu : IsPart vu hi) (hz : vs.length ≤ 100000)
    (hs : ∀ h : Heap, subscripted slice false (.ref l) (.ref h.objs.size) = operate [.ref h.objs.size, .ref l] (getItem (.ref l) (.ref h.objs.size))) (ht : ∀ r, letTemporaryGo value (.ref l) r = pure ())
    (hc : slicePick vs.toArray lo hi none = cells.toArray)
    (H : ∀ h' u, (∀ p ∈ news, p.1 ≠ u) → Fr g L h' mm → News g L h' ((u, lob cells 0) :: news) → Q (.ref u) ⟨h', gs, dr, tk, os⟩) :
    SlQ (fun i s₂ => wpAny (model prog w) A (subscriptTail value slice (.ref l) i) Q E s₂) vl vu ⟨h, gs, dr, tk, os⟩ :=
  slice_list (s := ⟨h, gs, dr, tk, os⟩) (items := vs.toArray) F N hl pl pu (fun h' F' N' => by
    refine H h' _ (fun p hp e => ?_) F' (by rw [hc] at N'; simpa [lob] using N')
    have z := (N p hp).1
    have := Heap.lt_size z
    rw [e] at this
    exact Nat.lt_irrefl _ (Nat.lt_of_succ_lt this)) (hs h) ht (by rw [List.size_toArray, sizeLine_eq]; omega)
theorem pick_upto {vs : List Value} {i : Int} (h0 : 0 ≤ i) : slicePick vs.toArray none (some i) none = (vs.take i.toNat).toArray := by
  obtain ⟨n, rfl⟩ := Int.eq_ofNat_of_zero_le h0
  rw [slicePick_upto']
  simp
theorem pick_from {vs : List Value} {i : Int} (h0 : 0 ≤ i) : slicePick vs.toArray (some i) none none = (vs.drop i.toNat).toArray := by
  obtain ⟨n, rfl⟩ := Int.eq_ofNat_of_zero_le h0
  rw [slicePick_from']
  simp
/-- the last item of a list -/
theorem x_llast {l : Addr} {vs : List Value} {n : Nat} {x : Value} {value slice : Expr} (hg : h.get? l = some (lob vs n)) (hx : vs[vs.length - 1]? = some x)
    (hs : subscripted slice false (.ref l) (.int (-1) u) = operate [.ref l, .int (-1) u] (getItem (.ref l) (.int (-1) u))) (H : Q x ⟨h, gs, dr, tk, os⟩) :
    wpAny (model prog w) A (subscriptTail value slice (.ref l) (.int (-1) u)) Q E ⟨h, gs, dr, tk, os⟩ := by
  have hlt : vs.length - 1 < vs.length := (List.getElem?_eq_some_iff.mp hx).1
  have hl := isl_of hg
  refine kba_turn (value' := .Name Str.empty default) (fun _ => rfl) ?_
  exact subscriptTail_builtin hl.typeIs PySem.F.slot_list_getitem.lookup (wpAny_getItem_list_neg (s := ⟨h, gs, dr, tk, os⟩) hl (by decide) (by rw [List.size_toArray]; omega) (by decide) (by rw [List.size_toArray, show ((-1 : Int) + (vs.length : Int)).toNat = vs.length - 1 by omega]; simpa using hx) H) hs (fun _ => rfl)
/-- an item of a tuple, within -/
theorem x_tget {l : Addr} {vs : List Value} {n : Nat} {x : Value} {value slice : Expr} (hg : h.get? l = some { cls := .type "tuple", data := .seq vs.toArray n }) (h0 : 0 ≤ i) (hfit : i < 1000000) (hx : vs[i.toNat]? = some x)
    (hs : subscripted slice false (.ref l) (.int i u) = operate [.ref l, .int i u] (getItem (.ref l) (.int i u))) (H : Q x ⟨h, gs, dr, tk, os⟩) :
    wpAny (model prog w) A (subscriptTail value slice (.ref l) (.int i u)) Q E ⟨h, gs, dr, tk, os⟩ := kba_turn (value' := .Name Str.empty default) (fun _ => rfl) (x_titem (items := vs) hg h0 hfit hx hs (fun _ => rfl) H)
theorem x_sum {l : Addr} {vs : List Value} {ns : List Int} (F : Fr g L h mm) (N : News g L h news) (hh : A.handled = none) (hl : Heap.IsList h l vs.toArray) (hi : IntsAre vs ns)
    (H : ∀ h' t' tk', Fr g L h' mm → News g L h' news → Q (.int ns.sum t') ⟨h', gs, dr, tk', os⟩) : wpAny (model prog w) A (call (.builtin "sum") [.ref l]) Q E ⟨h, gs, dr, tk, os⟩ := by
  have hall : AllInts vs.toArray := hi.allInts
  obtain ⟨xs, hxs⟩ := hall.items
  have hn : numsOf vs = ns := hi.numsOf
  rw [hxs] at hl
  refine sum_intListG (s := ⟨h, gs, dr, tk, os⟩) hh hl fun h' tk' t' k => ?_
  have := H h' t' tk' (F.keeps k) (news_ke N k)
  rw [preSum_eq, List.take_of_length_le (by simp)]
  rw [← hn, show vs = (intItems xs).toList by rw [← hxs], nums_intItems] at this
  exact this
theorem x_min {i j : Int} (hh : A.handled = none) (F : Fr g L h mm) (N : News g L h news) (H : ∀ h' t' tk', Fr g L h' mm → News g L h' news → Q (.int (if j < i then j else i) t') ⟨h', gs, dr, tk', os⟩) : wpAny (model prog w) A (call (.builtin "min") [.int i t, .int j u]) Q E ⟨h, gs, dr, tk, os⟩ := by
  refine min_two_ints (s := ⟨h, gs, dr, tk, os⟩) hh fun h' tk' k => ?_
  by_cases hc : j < i
  · rw [if_pos hc]; have := H h' u tk' (F.keeps k) (news_ke N k); rwa [if_pos hc] at this
  · rw [if_neg hc]; have := H h' t tk' (F.keeps k) (news_ke N k); rwa [if_neg hc] at this
end
end

section
/-! an exception class of the text's own (any), for what the sedes raise -/
/-- what stands above such a class -/
structure Above (bm : List Value) : Prop where
  e : bm.contains (.type "Exception") = true
  a : bm.contains (.type "AttributeError") = false
  n : bm.contains (.type "NameError") = false
section
variable {prog : Program} {w : World} {M : Model} {A : Around} {E : Value → Shared → Prop} {h : Heap} {g : Array GenState} {d : Drawn} {t : Nat} {os : OsState} {R : Result → Shared → Prop}
variable {nm q : Str} {C N : Addr} {bs bm : List Value} {hdct : Bool} {sn : List Str} {sub : List Value} {ab : Bool} {col : Option Bool} {dd : Option Addr} {k0 k1 k2 k3 k5 : Option Value} {rest : List Value} {kw : List (Str × Value)}
theorem check_new2 (X : Above bm) {Q : Unit → Shared → Prop} (hC : h.get? C = some (excClassObj nm q C N bs bm hdct sn sub ab col dd k0 k1 k2 k3 k5 "Exception.__new__"))
    (hq : Q () ⟨h, g, d, t, os⟩) : wpAny M A (checkBuiltinCall "Exception.__new__" ⟨.ref C :: rest, kw⟩) Q E ⟨h, g, d, t, os⟩ := by
  have F := PySem.F.excBase_Exception
  have hcont : (Value.ref C :: bm).contains (.type "Exception") = true := by rw [List.contains_cons, X.e, Bool.or_true]
  have hstar := F.noStar
  simp only [checkBuiltinCall, F.newKind, F.newSplit, F.newRow]
  repeat (first | refine wpAny_loadPart_at hC ?_ | (refine wpAny_isSubtype_exc hC ?_; rw [hcont]) | refine wpAny_staticBase_exc hC ?_ | refine wpAny_madeBy_exc hC ?_ | simp only [bne_self_eq_false, Bool.false_eq_true, if_false] | wp_step)
  exact hq
theorem exc_new2 (X : Above bm) (hC : h.get? C = some (excClassObj nm q C N bs bm hdct sn sub ab col dd k0 k1 k2 k3 k5 "Exception.__new__"))
    (hq : R (.ok (.ret (.ref (h.objs.size + 1)))) ⟨(h.push { cls := .type "tuple", data := .seq rest.toArray }).push { cls := .ref C, data := .fields #[.ref h.objs.size, .none, .none, .none, .bool false, .none] }, g, d, t, os⟩) (hrest : rest.length ≤ sizeLine) :
    codeAny (model prog w) A (.builtin "Exception.__new__" ⟨.ref C :: rest, kw⟩) R ⟨h, g, d, t, os⟩ := by
  have F := PySem.F.excBase_Exception
  have hends := F.ends
  have hcB : (Value.ref C :: bm).contains (.type "Exception") = true := by rw [List.contains_cons, X.e, Bool.or_true]
  have hcA : (Value.ref C :: bm).contains (.type "AttributeError") = false := by rw [List.contains_cons, X.a]; rfl
  have hcN : (Value.ref C :: bm).contains (.type "NameError") = false := by rw [List.contains_cons, X.n]; rfl
  refine codeAny_builtinAt F.entry ?_
  unfold Builtin.«BaseException.__new__»
  refine PySem.wpAt_bind ?_
  show PySem.wpAt _ _ _ (stack >>= _) _ _ _
  refine PySem.wpAt_bind (PySem.wpAt_stack fun p below => PySem.wpAt_of_wpAny ?_)
  wp_walk
  refine PySem.wpAt_of_wpAny ?_
  rw [F.owner]
  repeat (first | with_reducible refine wpAny_madeHere_exc F.canon hC ?_ | with_reducible refine wpAny_loadPart_at hC ?_ | (with_reducible refine wpAny_isSubtype_exc hC ?_; first | rw [hcB] | rw [hcA] | rw [hcN]) | wp_step)
  show R _ _
  rw [Heap.size_push]
  exact hq
theorem init_lookup {mN : Str → Option Value} {v : Value} {Q : Option Value → Shared → Prop} (hC : h.get? C = some (excClassObj nm q C N bs bm hdct sn sub ab col dd k0 k1 k2 k3 k5 "Exception.__new__")) (hn : h.Ns N mN) (hi : mN "__init__" = some v)
    (hq : Q (some v) ⟨h, g, d, t, os⟩) : wpAny M A (typeLookup (.ref C) "__init__") Q E ⟨h, g, d, t, os⟩ := by
  rw [typeLookup_eq]
  refine wpAny_bind (wpAny_mroOf_exc hC ?_)
  rw [lookupAlong_cons]
  refine wpAny_bind (wpAny_classOwn_exc hC hn ?_)
  rw [hi]
  exact wpAny_pure hq
theorem type_call2 (X : Above bm) {mN : Str → Option Value} {fI : Addr} {oI : Obj} {Q : Fin → Shared → Prop}
    (hC : h.get? C = some (excClassObj nm q C N bs bm hdct sn sub ab col dd k0 k1 k2 k3 k5 "Exception.__new__")) (hn : h.Ns N mN) (hi : mN "__init__" = some (.ref fI)) (hfI : h.get? fI = some oI) (hfc : oI.cls = .type "function")
    (hq : ∀ h' e, Heap.MadeExcOf h h' e (.ref C) rest → wpAny (model prog w) A (call (.ref fI) (.ref e :: rest) kw) (fun r s' => r = .none ∧ Q (.done (.ret (.ref e))) s') E ⟨h', g, d, t, os⟩) (hrest : rest.length ≤ sizeLine) :
    wpAny (model prog w) A (Builtin.«type.__call__» ⟨.ref C :: rest, kw⟩) Q E ⟨h, g, d, t, os⟩ := by
  have F := PySem.F.excBase_Exception
  repeat (first | with_reducible refine wpAny_loadPart_at hC ?_ | with_reducible refine wpAny_madeBy_exc hC ?_ | wp_step)
  refine codeAny_call_builtin_code (Code.quiet_builtin _ F.quiet) (check_new2 X hC ?_)
  refine exc_new2 X hC ?_ hrest
  show wpAny _ _ _ _ _ _
  have hC₁ := Heap.get?_push_of_some { cls := .ref C, data := .fields #[.ref h.objs.size, .none, .none, .none, .bool false, .none] } (Heap.get?_push_of_some { cls := .type "tuple", data := .seq rest.toArray } hC)
  have hfI₁ := Heap.get?_push_of_some { cls := .ref C, data := .fields #[.ref h.objs.size, .none, .none, .none, .bool false, .none] } (Heap.get?_push_of_some { cls := .type "tuple", data := .seq rest.toArray } hfI)
  have hn₁ : ((h.push { cls := .type "tuple", data := .seq rest.toArray }).push { cls := .ref C, data := .fields #[.ref h.objs.size, .none, .none, .none, .bool false, .none] }).Ns N mN :=
    hn.keeps fun b o e => Heap.get?_push_of_some _ (Heap.get?_push_of_some _ e)
  have hget : ((h.push { cls := .type "tuple", data := .seq rest.toArray }).push { cls := .ref C, data := .fields #[.ref h.objs.size, .none, .none, .none, .bool false, .none] }).get? (h.objs.size + 1) = some
      { cls := .ref C, data := .fields #[.ref h.objs.size, .none, .none, .none, .bool false, .none] } := by heap_get
  have hcC : (Value.ref C :: bm).contains (.ref C) = true := by simp
  unfold isInstance
  repeat (first | with_reducible refine wpAny_loadPart_at hget ?_ | (with_reducible refine wpAny_isSubtype_exc hC₁ ?_; rw [hcC]) | wp_step)
  show wpAny _ _ (typeLookup (.ref C) _) _ _ _
  refine init_lookup hC₁ hn₁ hi ?_
  refine wpAny_holding (wpAny_bind ?_)
  unfold bindSpecial
  refine wpAny_bind (wpAny_typeOf (T := "function") ⟨_, hfI₁, hfc⟩ ?_)
  rw [if_pos (by decide)]
  refine wpAny_pure (wpAny_bind (wpAny_mono (hq _ (h.objs.size + 1) ⟨fun b o hb => Heap.get?_push_of_some _ (Heap.get?_push_of_some _ hb), Heap.get?_none_of_le (Nat.le_succ _), h.objs.size, hget, Heap.get?_none_of_le (Nat.le_refl _), ?_⟩) (fun r s' hr => ?_) fun _ _ x => x))
  · exact Heap.get?_push_of_some _ (Heap.get?_push_at rfl rfl)
  · obtain ⟨rfl, hQ⟩ := hr
    wp_walk
    exact hQ
theorem check_tc2 {Q : Unit → Shared → Prop} (hC : h.get? C = some (excClassObj nm q C N bs bm hdct sn sub ab col dd k0 k1 k2 k3 k5 "Exception.__new__")) (hq : Q () ⟨h, g, d, t, os⟩) :
    wpAny M A (checkBuiltinCall "type.__call__" ⟨.ref C :: rest, kw⟩) Q E ⟨h, g, d, t, os⟩ := by
  have f3 := tc_sub
  have hT : (⟨h, g, d, t, os⟩ : Shared).TypeIs (.ref C) "type" := ⟨_, hC, rfl⟩
  simp only [checkBuiltinCall, tc_kind, tc_split]
  repeat (any_goals (first | assumption | with_reducible refine wpAny_loadPart_at hC ?_ | with_reducible refine wpAny_onRaise ?_ | with_reducible refine wpAny_map ?_ | wp_step))
theorem call2 (X : Above bm) {mN : Str → Option Value} {fI : Addr} {oI : Obj} {Q : Value → Shared → Prop}
    (hC : h.get? C = some (excClassObj nm q C N bs bm hdct sn sub ab col dd k0 k1 k2 k3 k5 "Exception.__new__")) (hn : h.Ns N mN) (hi : mN "__init__" = some (.ref fI)) (hfI : h.get? fI = some oI) (hfc : oI.cls = .type "function")
    (hq : ∀ h' e, Heap.MadeExcOf h h' e (.ref C) rest →
      wpAny (model prog w) (A.under (.builtin "type.__call__" ⟨.ref C :: rest, kw⟩)) (call (.ref fI) (.ref e :: rest) kw) (fun r s' => r = .none ∧ Q (.ref e) s') E ⟨h', g, d, t, os⟩) (hrest : rest.length ≤ sizeLine) :
    wpAny (model prog w) A (call (.ref C) rest kw) Q E ⟨h, g, d, t, os⟩ := by
  have f1 := tc_lookup
  have f2 := tc_bind (.ref C)
  have hT : (⟨h, g, d, t, os⟩ : Shared).TypeIs (.ref C) "type" := ⟨_, hC, rfl⟩
  refine wpAny_call (codeAny_of_tree ?_)
  show wpAny _ _ (callAny (.ref C) _) _ _ _
  repeat (any_goals (first | assumption | with_reducible refine wpAny_loadPart_at hC ?_ | wp_step))
  refine ⟨rfl, ?_⟩
  refine codeAny_call_builtin_at (Code.quiet_builtin _ (by decide +kernel)) entry_typeCall (check_tc2 hC (type_call2 (hrest := hrest) X hC hn hi hfI hfc fun h' e hm => ?_))
  exact hq h' e hm
end
end

section
def DesC (C : Addr) : Prop := C = 138 ∨ C = 160
section
variable {w : World} {A : Around} {E : Value → Shared → Prop} {h : Heap} {gs : Array GenState} {dr : Drawn} {tk : Nat} {os : OsState} {C : Addr}
theorem c138 (B : Base w h) : h.get? 138 = some (excClassObj "DeserializationError" "DeserializationError" 138 137 [.ref 31] [.ref 31, .type "Exception", .type "BaseException", .type "object"] true [] [.ref 160] false none none (some (.ref 120)) none (some (.str "DeserializationError" 331)) (some (.str "DeserializationError" 339)) (some (.bool true)) "Exception.__new__") := B.get (by rfl)
theorem c160 (B : Base w h) : h.get? 160 = some (excClassObj "ListDeserializationError" "ListDeserializationError" 160 159 [.ref 138] [.ref 138, .ref 31, .type "Exception", .type "BaseException", .type "object"] true [] [] false none none (some (.ref 141)) none (some (.str "ListDeserializationError" 359)) (some (.str "ListDeserializationError" 367)) (some (.bool true)) "Exception.__new__") := B.get (by rfl)
theorem ab138 : Above [.ref 31, .type "Exception", .type "BaseException", .type "object"] := ⟨by rfl, by rfl, by rfl⟩
theorem ab160 : Above [.ref 138, .ref 31, .type "Exception", .type "BaseException", .type "object"] := ⟨by rfl, by rfl, by rfl⟩
theorem isi_des {M : Model} {e : Addr} {oe : Obj} (hc : DesC C) (B : Base w h) (he : h.get? e = some oe) (hcls : oe.cls = .ref C) (A : Around) (t : Nat) :
    wpAny M A (isInstance (.ref e) (.type "Exception")) (fun b s => b = true ∧ s = ⟨h, gs, dr, t, os⟩) (fun _ _ => False) ⟨h, gs, dr, t, os⟩ := by
  rcases hc with rfl | rfl
  · have hC := c138 B
    unfold isInstance
    repeat (first | (with_reducible refine wpAny_loadPart_at he ?_; rw [hcls]) | (with_reducible refine wpAny_isSubtype_exc hC ?_) | wp_step)
    exact ⟨rfl, rfl⟩
  · have hC := c160 B
    unfold isInstance
    repeat (first | (with_reducible refine wpAny_loadPart_at he ?_; rw [hcls]) | (with_reducible refine wpAny_isSubtype_exc hC ?_) | wp_step)
    exact ⟨rfl, rfl⟩
open Builtin Builtin.ObjectAttr in
theorem put_dict {D : Addr} {name : Str} {tk' : Tok} {v : Value} {m : Str → Option Value} {ns : List Str} {Q : Fin → Shared → Prop} (hn : h.Ns1 D m) (hw : Within m ns) (hl : ns.length ≤ 10) (H : ∀ h' tk', h'.Ns1 D (fun y => if y = name then some v else m y) → Heap.SameBut D h h' → Q (.done (.ret .none)) ⟨h', gs, dr, tk', os⟩) :
    wpAny (model pw w) A (storeInDict D (.str name tk') name v) Q E ⟨h, gs, dr, tk, os⟩ := by
  unfold storeInDict newKeyGuard
  refine wpAny_bind (wpAny_pure (wpAny_bind (wpAny_nsSet1 hn fun h' hn' hs => ?_)))
  obtain ⟨oD, esD, epD, hoD, hdD, hcD⟩ := hn'.count (Within.cons name v hw)
  refine wpAny_bind (wpAny_lookBehind hoD (by rw [hdD]; exact pastItsLine_dict (Nat.le_trans hcD (by rw [List.length_cons, sizeLine_eq]; omega))) ?_)
  wp_walk
  exact H h' _ hn' hs
/-- an attribute is put where the exception has none yet -/
theorem put1 {e : Addr} {oe : Obj} {vs : Array Value} {name : Str} {tk' : Tok} {v : Value} {Q : Fin → Shared → Prop} (hc : DesC C) (B : Base w h)
    (he : h.get? e = some oe) (hcl : oe.cls = .ref C) (hdn : oe.dict = none) (hd : oe.data = .fields vs) (hf : findIn (objs w.params) (.ref C) name = some none)
    (H : ∀ h' D tk', (∀ b o, b ≠ e → h.get? b = some o → h'.get? b = some o) → h'.get? e = some { cls := .ref C, dict := some D, data := .fields vs, slots := oe.slots } → h'.Ns1 D (fun y => if y = name then some v else none) → h.get? D = none → D ≠ e → Q (.done (.ret .none)) ⟨h', gs, dr, tk', os⟩) :
    wpAny (model pw w) A (Builtin.«object.__setattr__» ⟨[.ref e, .str name tk', v], []⟩) Q E ⟨h, gs, dr, tk, os⟩ := by
  have hpass := PySem.F.store_Exception.passes (.ref e)
  unfold Builtin.«object.__setattr__»
  rcases hc with rfl | rfl
  · have hC := c138 B
    repeat (first | rw [refuse_eq] | (rw [refuseLoop_ref, refuseLoop_ref, hpass]) | (with_reducible refine wpAny_loadPart_at he ?_; rw [hcl]) | with_reducible refine wpAny_mroOf_exc hC ?_ | (with_reducible refine (looks_findIn B.inK hf).at ?_) | wp_step)
    obtain ⟨oc, od, oda, osl⟩ := oe
    dsimp only at hcl hdn hd
    subst hcl hdn hd
    dsimp only
    rw [if_neg (by simp [typeHasDict])]
    have he₁ : (h.push { cls := .type "dict", data := .dict #[] }).get? e = some ⟨.ref 138, none, .fields vs, osl⟩ := Heap.get?_push_of_some _ he
    have hes : e ≠ h.objs.size := Nat.ne_of_lt (Heap.lt_size he)
    refine wpAny_bind (wpAny_alloc' ?_)
    refine wpAny_bind (wpAny_update' he₁ ?_)
    refine wpAny_pure ?_
    have hgd : ((h.push { cls := .type "dict", data := .dict #[] }).update e fun o => { cls := o.cls, dict := some h.objs.size, data := o.data, slots := o.slots }).get? h.objs.size = some { cls := .type "dict", data := .dict #[] } :=
      (Heap.get?_update_ne _ _ _ _ hes.symm).trans (Heap.get?_push_at rfl rfl)
    have hnd : ((h.push { cls := .type "dict", data := .dict #[] }).update e fun o => { cls := o.cls, dict := some h.objs.size, data := o.data, slots := o.slots }).Ns h.objs.size (fun _ => none) :=
      ⟨_, #[], _, hgd, rfl, fun e he => absurd he (by simp), fun _ => rfl⟩
    refine put_dict (Heap.Ns1.of_empty hnd) Within.nil (by simp) fun h' tk2 hn' hs => ?_
    refine H h' h.objs.size _ (fun b ob hbe hb => ?_) ?_ hn' (Heap.get?_none_of_le (Nat.le_refl _)) hes.symm
    · exact (hs.2 b (Nat.ne_of_lt (Heap.lt_size hb))).trans ((Heap.get?_update_ne _ _ _ _ hbe).trans (Heap.get?_push_of_some _ hb))
    · exact (hs.2 e hes).trans (Heap.get?_update_self _ he₁ rfl)
  · have hC := c160 B
    repeat (first | rw [refuse_eq] | (rw [refuseLoop_ref, refuseLoop_ref, refuseLoop_ref, hpass]) | (with_reducible refine wpAny_loadPart_at he ?_; rw [hcl]) | with_reducible refine wpAny_mroOf_exc hC ?_ | (with_reducible refine (looks_findIn B.inK hf).at ?_) | wp_step)
    obtain ⟨oc, od, oda, osl⟩ := oe
    dsimp only at hcl hdn hd
    subst hcl hdn hd
    dsimp only
    rw [if_neg (by simp [typeHasDict])]
    have he₁ : (h.push { cls := .type "dict", data := .dict #[] }).get? e = some ⟨.ref 160, none, .fields vs, osl⟩ := Heap.get?_push_of_some _ he
    have hes : e ≠ h.objs.size := Nat.ne_of_lt (Heap.lt_size he)
    refine wpAny_bind (wpAny_alloc' ?_)
    refine wpAny_bind (wpAny_update' he₁ ?_)
    refine wpAny_pure ?_
    have hgd : ((h.push { cls := .type "dict", data := .dict #[] }).update e fun o => { cls := o.cls, dict := some h.objs.size, data := o.data, slots := o.slots }).get? h.objs.size = some { cls := .type "dict", data := .dict #[] } :=
      (Heap.get?_update_ne _ _ _ _ hes.symm).trans (Heap.get?_push_at rfl rfl)
    have hnd : ((h.push { cls := .type "dict", data := .dict #[] }).update e fun o => { cls := o.cls, dict := some h.objs.size, data := o.data, slots := o.slots }).Ns h.objs.size (fun _ => none) :=
      ⟨_, #[], _, hgd, rfl, fun e he => absurd he (by simp), fun _ => rfl⟩
    refine put_dict (Heap.Ns1.of_empty hnd) Within.nil (by simp) fun h' tk2 hn' hs => ?_
    refine H h' h.objs.size _ (fun b ob hbe hb => ?_) ?_ hn' (Heap.get?_none_of_le (Nat.le_refl _)) hes.symm
    · exact (hs.2 b (Nat.ne_of_lt (Heap.lt_size hb))).trans ((Heap.get?_update_ne _ _ _ _ hbe).trans (Heap.get?_push_of_some _ hb))
    · exact (hs.2 e hes).trans (Heap.get?_update_self _ he₁ rfl)
/-- an attribute is put where others stand -/
theorem put2 {e D : Addr} {oe : Obj} {name : Str} {tk' : Tok} {v : Value} {m : Str → Option Value} {ns : List Str} {Q : Fin → Shared → Prop} (hc : DesC C) (B : Base w h)
    (he : h.get? e = some oe) (hcl : oe.cls = .ref C) (hdn : oe.dict = some D) (hn : h.Ns1 D m) (hw : Within m ns) (hl : ns.length ≤ 10) (hf : findIn (objs w.params) (.ref C) name = some none)
    (H : ∀ h' tk', h'.Ns1 D (fun y => if y = name then some v else m y) → Heap.SameBut D h h' → Q (.done (.ret .none)) ⟨h', gs, dr, tk', os⟩) :
    wpAny (model pw w) A (Builtin.«object.__setattr__» ⟨[.ref e, .str name tk', v], []⟩) Q E ⟨h, gs, dr, tk, os⟩ := by
  have hpass := PySem.F.store_Exception.passes (.ref e)
  unfold Builtin.«object.__setattr__»
  rcases hc with rfl | rfl
  · have hC := c138 B
    repeat (first | rw [refuse_eq] | (rw [refuseLoop_ref, refuseLoop_ref, hpass]) | (with_reducible refine wpAny_loadPart_at he ?_; rw [hcl]) | with_reducible refine wpAny_mroOf_exc hC ?_ | (with_reducible refine (looks_findIn B.inK hf).at ?_) | wp_step)
    rw [hdn]
    refine wpAny_pure ?_
    exact put_dict hn hw hl fun h' tk2 hn' hs => H h' tk2 hn' hs
  · have hC := c160 B
    repeat (first | rw [refuse_eq] | (rw [refuseLoop_ref, refuseLoop_ref, refuseLoop_ref, hpass]) | (with_reducible refine wpAny_loadPart_at he ?_; rw [hcl]) | with_reducible refine wpAny_mroOf_exc hC ?_ | (with_reducible refine (looks_findIn B.inK hf).at ?_) | wp_step)
    rw [hdn]
    refine wpAny_pure ?_
    exact put_dict hn hw hl fun h' tk2 hn' hs => H h' tk2 hn' hs
theorem check_des {M : Model} {e : Addr} {oe : Obj} {nameV v : Value} {Q : Unit → Shared → Prop} (hc : DesC C) (B : Base w h) (he : h.get? e = some oe) (hcl : oe.cls = .ref C) (hq : Q () ⟨h, gs, dr, tk, os⟩) :
    wpAny M A (checkBuiltinCall "object.__setattr__" ⟨[.ref e, nameV, v], []⟩) Q E ⟨h, gs, dr, tk, os⟩ := by
  have SF := PySem.F.store_object
  have ha := SF.args (.ref e) nameV v
  simp only [checkBuiltinCall, SF.kind, SF.split]
  refine wpAny_bind ?_
  rcases hc with rfl | rfl
  · have hC := c138 B
    unfold isInstance
    repeat (first | (with_reducible refine wpAny_loadPart_at he ?_; rw [hcl]) | (with_reducible refine wpAny_isSubtype_exc hC ?_) | wp_step)
    exact hq
  · have hC := c160 B
    unfold isInstance
    repeat (first | (with_reducible refine wpAny_loadPart_at he ?_; rw [hcl]) | (with_reducible refine wpAny_isSubtype_exc hC ?_) | wp_step)
    exact hq
theorem des_setattr (hc : DesC C) : findIn (objs w.params) (.ref C) "__setattr__" = some (some (.builtin "object.__setattr__")) := by
  rcases hc with rfl | rfl <;> rfl
/-- x.name = v -/
theorem set_by {e : Addr} {oe : Obj} {name : Str} {v : Value} {Q : Unit → Shared → Prop} (hc : DesC C) (B : Base w h) (he : h.get? e = some oe) (hcl : oe.cls = .ref C)
    (H : ∀ A' t' tk, wpAny (model pw w) A' (Builtin.«object.__setattr__» ⟨[.ref e, .str name t', v], []⟩) (fun r s' => ∃ h' tk', r = .done (.ret .none) ∧ s' = ⟨h', gs, dr, tk', os⟩ ∧ ∀ tk, Q () ⟨h', gs, dr, tk, os⟩) (fun _ _ => False) ⟨h, gs, dr, tk, os⟩) :
    wpAny (model pw w) A (setAttr (.ref e) name v) Q E ⟨h, gs, dr, tk, os⟩ := by
  have SF := PySem.F.store_object
  have f3 := SF.slot.bind (.ref e)
  have hsa := des_setattr (w := w) hc
  unfold setAttr callSpecial? specialOf
  repeat (any_goals (first | assumption | (with_reducible refine wpAny_loadPart_at he ?_; rw [hcl]) | (with_reducible refine (looks_findIn B.inK hsa).at ?_) | wp_step))
  refine codeAny_call_builtin SF.slot.plain SF.entry (check_des hc B he hcl (wpAny_mono (H _ _ _) (fun r s' hr => ?_) fun _ _ z => z.elim))
  obtain ⟨h', tk', rfl, rfl, hq⟩ := hr
  repeat (any_goals (first | assumption | wp_step))
  exact hq _
end
end

section
def fd135 : FuncData := { name := "__init__", qualname := "DeserializationError.__init__", params := fdA (mAt 7 0), body := .stmts (fdB (mAt 7 0)), scope := fdS (mAt 7 0), globals := 3, closure := [("__class__", 123)], defaults := .none, kwdefaults := .none, doc := .none, pyModule := (.str (Str.ofString "rlp.exceptions") 194), code := .ref 134, closureTuple := .ref 128, builtins := 0 }
section
variable {prog : Program} {w : World} {A : Around} {E : Value → Shared → Prop} {h : Heap} {g : Array GenState} {d : Drawn} {t : Nat} {os : OsState}
variable {nm q : Str} {C N : Addr} {bs bm : List Value} {hdct : Bool} {sn : List Str} {sub : List Value} {ab : Bool} {col : Option Bool} {dd : Option Addr} {k0 k1 k2 k3 k5 : Option Value} {newId : String}
theorem check_initX {M : Model} {e : Addr} {oe : Obj} {m : Value} {Q : Unit → Shared → Prop} (X : Above bm)
    (hC : h.get? C = some (excClassObj nm q C N bs bm hdct sn sub ab col dd k0 k1 k2 k3 k5 newId)) (he : h.get? e = some oe) (hcls : oe.cls = .ref C) (hq : Q () ⟨h, g, d, t, os⟩) : wpAny M A (checkBoundCall "Exception.__init__" ⟨[.ref e, m], []⟩) Q E ⟨h, g, d, t, os⟩ := by
  have FX := PySem.F.excBase_Exception
  have hcB : (Value.ref C :: bm).contains (.type "Exception") = true := by rw [List.contains_cons, X.e, Bool.or_true]
  have hshort := FX.noStar
  simp only [checkBoundCall, FX.initKind, FX.initRow]
  repeat (first | (with_reducible refine wpAny_loadPart_at he ?_; rw [hcls]) | with_reducible refine wpAny_loadPart_at hC ?_ | (with_reducible refine wpAny_isSubtype_exc hC ?_; rw [hcB]) | wp_step)
  exact hq
theorem call_initX {b e : Addr} {oe : Obj} {vs : Array Value} {m : Value} {Q : Value → Shared → Prop} (X : Above bm)
    (hC : h.get? C = some (excClassObj nm q C N bs bm hdct sn sub ab col dd k0 k1 k2 k3 k5 newId)) (he : h.get? e = some oe) (hcls : oe.cls = .ref C) (hd : oe.data = .fields vs) (hsz : 0 < vs.size) (hb : h.get? b = some (initBound e))
    (hq : Q .none ⟨(h.push { cls := .type "tuple", data := .seq #[m] }).update e (Obj.mapFields (·.setIfInBounds 0 (.ref h.objs.size))), g, d, t, os⟩) :
    wpAny (model prog w) A (call (.ref b) [m]) Q E ⟨h, g, d, t, os⟩ := by
  refine wpAny_call (codeAny_of_tree ?_)
  show wpAny _ A.in1 (callAny (.ref b) ⟨[m], []⟩) _ _ _
  simp only [callAny]
  refine wpAny_bind (wpAny_load hb ?_)
  simp only [initBound, show (Value.type "method-wrapper" == Value.type "method" || Value.type "method-wrapper" == Value.type "builtin_function_or_method" || Value.type "method-wrapper" == Value.type "method-wrapper") = true by decide, if_true]
  refine KFB.if_so (by decide) ?_
  refine wpAny_bind (check_initX X hC he hcls ?_)
  refine wpAny_pure ?_
  show _ ∧ codeAny _ _ (.builtin "Exception.__init__" ⟨[.ref e, m], []⟩) _ _
  refine ⟨quiet_init, codeAny_builtin PySem.F.excBase_Exception.initEntry ?_⟩
  unfold Builtin.«BaseException.__init__»
  refine wpAny_bind (wpAny_newObj_type ?_ (by show (#[m] : Array Value).size ≤ sizeLine; exact (by decide : 1 ≤ sizeLine)))
  have he' := Heap.get?_push_of_some { cls := .type "tuple", data := .seq #[m] } he
  obtain ⟨v0, h0⟩ : ∃ v0, vs[0]? = some v0 := ⟨vs[0], Array.getElem?_eq_getElem hsz⟩
  unfold Builtin.BaseException.bexcPut
  refine wpAny_bind (wpAny_bind (wpAny_field he' hd h0 ?_))
  refine wpAny_bind (wpAny_setField (s := ⟨h.push { cls := .type "tuple", data := .seq #[m] }, g, d, t, os⟩) he' hd hsz ?_)
  cases v0 <;> (wp_walk; exact hq)
end
section
variable {w : World} {A : Around} {E : Value → Shared → Prop} {h : Heap} {gs : Array GenState} {dr : Drawn} {tk : Nat} {os : OsState} {C : Addr}
/-- DeserializationError.__init__, of an instance of it or of a class below it -/
theorem des_code {g₀ : Heap} {e : Addr} {t0 m r : Value} {Q : Value → Shared → Prop} (hc : DesC C) (B₀ : Base w g₀) (k₀ : Ke g₀ h) (hn₀ : g₀.get? e = none) (hdep : A.depth < recursionLimit) (he : h.get? e = some { cls := .ref C, data := .fields #[t0, .none, .none, .none, .bool false, .none] })
    (H : ∀ h' D ta tk', (∀ b o, b ≠ e → h.get? b = some o → h'.get? b = some o) → h'.get? e = some { cls := .ref C, dict := some D, data := .fields #[.ref ta, .none, .none, .none, .bool false, .none] } → h'.get? ta = some { cls := .type "tuple", data := .seq #[m] } →
      h'.Ns1 D (fun y => if y = "serial" then some r else none) → h.get? D = none → h.get? ta = none → ta ≠ D → D ≠ e → Q .none ⟨h', gs, dr, tk', os⟩) :
    codeAny (model pw w) A (.call (.ref 135) ⟨[.ref e, m, r], []⟩) (fun r s' => match r with | .ok (.ret v) => Q v s' | .ok _ => False | .error e => E e s') ⟨h, gs, dr, tk, os⟩ := by
  have B : Base w h := B₀.keeps k₀
  rcases hc with rfl | rfl
  · refine (ks_codeAny_call_defAt (s := ⟨h, gs, dr, tk, os⟩) (fd := fd135) (body := fdB (mAt 7 0)) (binds := [("self", .ref e), ("message", m), ("serial", r)]) hdep (B.get (by rfl)) (by rfl) B.nolimit ⟨134, _, _, _, rfl, B.get (by rfl), rfl, rfl⟩ rfl (BindsTo.of_eq rfl) (by decide) (locs rfl) (fun h₁ hns hk => ?_))
    refine ks_wpAt_execs_cons ?_
    refine ks_wpAt_Expr_any ?_
    refine ks_wpAt_MethodCall ?_ (by rfl)
    refine ks_wpAt_super_base (f := 135) (cc := 134) (by rfl) (by rfl) (by rfl) (by rfl) (hk _ _ (B.get (by rfl))) (by rfl) (by rfl) (by rfl) (hk _ _ (B.get (by rfl))) (by rfl) (by rfl) (by rfl) (by rfl) ?_
    have B₁ : Base w h₁ := B.keeps hk
    have he₁ := hk _ _ he
    dsimp only at hns hk ⊢
    obtain ⟨mg, g1, g2, g3⟩ := B₁.g
    obtain ⟨mb, b1, b2⟩ := B₁.b
    refine ks_loadName_global (by rfl) (by rfl) (loadGlobal_builtin (env := callEnv fd135 h.objs.size 135) g1 (g3 _ (by decide)) b1 ((b2 _ (by decide)).trans (by kernel_rfl)) ⟨rfl, ?_⟩)
    refine wpAny_loadName_free (by rfl) (by rfl) (by rfl) ⟨_, B₁.get (by rfl), rfl⟩ ?_
    refine wpAny_loadName_local (by rfl) (by rfl) hns (by rfl) ?_
    refine ks_wpAny_isType_cls (B₁.get (by rfl)) (by rfl) ⟨rfl, ?_⟩
    refine ks_wpAny_call_super (C := 138) (B₁.get (by rfl)) (by rfl) he₁ rfl (fun c q => by cases q) (looks_mroIn B₁.inK (by rfl)) (fun h₂ hso hk₂ => ?_)
    have B₂ : Base w h₂ := B₁.keeps hk₂
    have he₂ := hk₂ _ _ he₁
    have hns₂ := hns.keeps hk₂
    refine get_init hso (looks_opaque B₂.inK (by rfl)) ((looks_clsIn B₂.inK (by rfl)).andThen .now) (by rfl) B₂.inK (by rfl) ?_ (isi_des (show DesC 138 from .inl rfl) B₂ he₂ rfl) ?_
    · intro q
      subst q
      have := c138 B₂
      rw [he₂] at this
      cases this
    · dsimp only
      refine callWith_init (e := e) (by rfl) (evalArgs_plain ?_)
      refine spliced_cons ?_
      have k₃ : ∀ b o, h₂.get? b = some o → (h₂.push (initBound e)).get? b = some o := fun b o q => Heap.get?_push_of_some _ q
      have B₃ := B₂.keeps k₃
      have he₃ := k₃ _ _ he₂
      have hns₃ := hns₂.keeps k₃
      have hb₃ : (h₂.push (initBound e)).get? h₂.objs.size = some (initBound e) := Heap.get?_push_size _ rfl
      generalize h₂.push (initBound e) = h₃ at k₃ B₃ he₃ hns₃ hb₃ ⊢
      refine wpAny_Name (wpAny_loadName_local (by rfl) (by rfl) hns₃ (by rfl) ?_)
      refine spliced_nil ⟨hb₃, ?_⟩
      refine call_initX ab138 (c138 B₃) he₃ rfl rfl (by simp) hb₃ ?_
      have k₄ : ∀ b o, b ≠ e → h₃.get? b = some o → ((h₃.push { cls := .type "tuple", data := .seq #[m] }).update e (Obj.mapFields (·.setIfInBounds 0 (.ref h₃.objs.size)))).get? b = some o := fun b o hb q => by
        rw [Heap.get?_update_other _ _ (Ne.symm hb)]
        exact Heap.get?_push_of_some _ q
      have he₄ : ((h₃.push { cls := .type "tuple", data := .seq #[m] }).update e (Obj.mapFields (·.setIfInBounds 0 (.ref h₃.objs.size)))).get? e = some { cls := .ref 138, data := .fields #[.ref h₃.objs.size, .none, .none, .none, .bool false, .none] } :=
        Heap.get?_update_self _ (Heap.get?_push_of_some _ he₃) rfl
      have ht₄ : ((h₃.push { cls := .type "tuple", data := .seq #[m] }).update e (Obj.mapFields (·.setIfInBounds 0 (.ref h₃.objs.size)))).get? h₃.objs.size = some { cls := .type "tuple", data := .seq #[m] } := by
        rw [Heap.get?_update_other _ _ (Nat.ne_of_lt (Heap.lt_size he₃))]
        exact Heap.get?_push_size _ rfl
      generalize (h₃.push { cls := .type "tuple", data := .seq #[m] }).update e (Obj.mapFields (·.setIfInBounds 0 (.ref h₃.objs.size))) = h₄ at k₄ he₄ ht₄ ⊢
      refine ks_wpAt_execs_cons ?_
      refine ks_wpAt_Assign_Attr ?_ (by rfl)
      refine wpAt_of_wpAny ?_
      have hns₄ := hns₃.at fun o q => k₄ _ o (fun z => Nat.ne_of_lt (Heap.lt_size he) z.symm) q
      refine wpAny_Name (wpAny_loadName_local (by rfl) (by rfl) hns₄ (by rfl) ?_)
      refine wpAny_Name (wpAny_loadName_local (by rfl) (by rfl) hns₄ (by rfl) ?_)
      have B₄ : Base w h₄ := B₀.keeps fun b o q => k₄ b o (fun z => by subst z; rw [hn₀] at q; cases q) (k₃ _ _ (hk₂ _ _ (hk _ _ (k₀ _ _ q))))
      refine set_by (show DesC 138 from .inl rfl) B₄ he₄ rfl fun A' t' tk => put1 (show DesC 138 from .inl rfl) B₄ he₄ rfl rfl rfl (by rfl) fun h₅ D tk' k1 k2 k3 k4 k5 => ⟨h₅, tk', rfl, rfl, fun tk' => ?_⟩
      have fresh : ∀ b, h₃.get? b = none → h.get? b = none := fun b q => by
        cases z : h.get? b with
        | none => rfl
        | some o => rw [k₃ _ _ (hk₂ _ _ (hk _ _ z))] at q; cases q
      have hta : h₃.objs.size ≠ e := Nat.ne_of_gt (Heap.lt_size he₃)
      refine wpAt_of_wpAny (wpAny_execs_nil ?_)
      refine H h₅ D h₃.objs.size tk' (fun b o hb q => k1 b o hb (k₄ b o hb (k₃ _ _ (hk₂ _ _ (hk _ _ q))))) k2 (k1 _ _ hta ht₄) k3 ?_ (fresh _ (Heap.get?_none_of_le (Nat.le_refl _))) (fun q => by rw [← q, ht₄] at k4; cases k4) k5
      cases z : h.get? D with
      | none => rfl
      | some o => rw [k₄ _ _ k5 (k₃ _ _ (hk₂ _ _ (hk _ _ z)))] at k4; cases k4
  · refine (ks_codeAny_call_defAt (s := ⟨h, gs, dr, tk, os⟩) (fd := fd135) (body := fdB (mAt 7 0)) (binds := [("self", .ref e), ("message", m), ("serial", r)]) hdep (B.get (by rfl)) (by rfl) B.nolimit ⟨134, _, _, _, rfl, B.get (by rfl), rfl, rfl⟩ rfl (BindsTo.of_eq rfl) (by decide) (locs rfl) (fun h₁ hns hk => ?_))
    refine ks_wpAt_execs_cons ?_
    refine ks_wpAt_Expr_any ?_
    refine ks_wpAt_MethodCall ?_ (by rfl)
    refine ks_wpAt_super_base (f := 135) (cc := 134) (by rfl) (by rfl) (by rfl) (by rfl) (hk _ _ (B.get (by rfl))) (by rfl) (by rfl) (by rfl) (hk _ _ (B.get (by rfl))) (by rfl) (by rfl) (by rfl) (by rfl) ?_
    have B₁ : Base w h₁ := B.keeps hk
    have he₁ := hk _ _ he
    dsimp only at hns hk ⊢
    obtain ⟨mg, g1, g2, g3⟩ := B₁.g
    obtain ⟨mb, b1, b2⟩ := B₁.b
    refine ks_loadName_global (by rfl) (by rfl) (loadGlobal_builtin (env := callEnv fd135 h.objs.size 135) g1 (g3 _ (by decide)) b1 ((b2 _ (by decide)).trans (by kernel_rfl)) ⟨rfl, ?_⟩)
    refine wpAny_loadName_free (by rfl) (by rfl) (by rfl) ⟨_, B₁.get (by rfl), rfl⟩ ?_
    refine wpAny_loadName_local (by rfl) (by rfl) hns (by rfl) ?_
    refine ks_wpAny_isType_cls (B₁.get (by rfl)) (by rfl) ⟨rfl, ?_⟩
    refine ks_wpAny_call_super (C := 160) (B₁.get (by rfl)) (by rfl) he₁ rfl (fun c q => by cases q) (looks_mroIn B₁.inK (by rfl)) (fun h₂ hso hk₂ => ?_)
    have B₂ : Base w h₂ := B₁.keeps hk₂
    have he₂ := hk₂ _ _ he₁
    have hns₂ := hns.keeps hk₂
    refine get_init hso (looks_opaque B₂.inK (by rfl)) ((looks_clsIn B₂.inK (by rfl)).andThen .now) (by rfl) B₂.inK (by rfl) ?_ (isi_des (show DesC 160 from .inr rfl) B₂ he₂ rfl) ?_
    · intro q
      subst q
      have := c160 B₂
      rw [he₂] at this
      cases this
    · dsimp only
      refine callWith_init (e := e) (by rfl) (evalArgs_plain ?_)
      refine spliced_cons ?_
      have k₃ : ∀ b o, h₂.get? b = some o → (h₂.push (initBound e)).get? b = some o := fun b o q => Heap.get?_push_of_some _ q
      have B₃ := B₂.keeps k₃
      have he₃ := k₃ _ _ he₂
      have hns₃ := hns₂.keeps k₃
      have hb₃ : (h₂.push (initBound e)).get? h₂.objs.size = some (initBound e) := Heap.get?_push_size _ rfl
      generalize h₂.push (initBound e) = h₃ at k₃ B₃ he₃ hns₃ hb₃ ⊢
      refine wpAny_Name (wpAny_loadName_local (by rfl) (by rfl) hns₃ (by rfl) ?_)
      refine spliced_nil ⟨hb₃, ?_⟩
      refine call_initX ab160 (c160 B₃) he₃ rfl rfl (by simp) hb₃ ?_
      have k₄ : ∀ b o, b ≠ e → h₃.get? b = some o → ((h₃.push { cls := .type "tuple", data := .seq #[m] }).update e (Obj.mapFields (·.setIfInBounds 0 (.ref h₃.objs.size)))).get? b = some o := fun b o hb q => by
        rw [Heap.get?_update_other _ _ (Ne.symm hb)]
        exact Heap.get?_push_of_some _ q
      have he₄ : ((h₃.push { cls := .type "tuple", data := .seq #[m] }).update e (Obj.mapFields (·.setIfInBounds 0 (.ref h₃.objs.size)))).get? e = some { cls := .ref 160, data := .fields #[.ref h₃.objs.size, .none, .none, .none, .bool false, .none] } :=
        Heap.get?_update_self _ (Heap.get?_push_of_some _ he₃) rfl
      have ht₄ : ((h₃.push { cls := .type "tuple", data := .seq #[m] }).update e (Obj.mapFields (·.setIfInBounds 0 (.ref h₃.objs.size)))).get? h₃.objs.size = some { cls := .type "tuple", data := .seq #[m] } := by
        rw [Heap.get?_update_other _ _ (Nat.ne_of_lt (Heap.lt_size he₃))]
        exact Heap.get?_push_size _ rfl
      generalize (h₃.push { cls := .type "tuple", data := .seq #[m] }).update e (Obj.mapFields (·.setIfInBounds 0 (.ref h₃.objs.size))) = h₄ at k₄ he₄ ht₄ ⊢
      refine ks_wpAt_execs_cons ?_
      refine ks_wpAt_Assign_Attr ?_ (by rfl)
      refine wpAt_of_wpAny ?_
      have hns₄ := hns₃.at fun o q => k₄ _ o (fun z => Nat.ne_of_lt (Heap.lt_size he) z.symm) q
      refine wpAny_Name (wpAny_loadName_local (by rfl) (by rfl) hns₄ (by rfl) ?_)
      refine wpAny_Name (wpAny_loadName_local (by rfl) (by rfl) hns₄ (by rfl) ?_)
      have B₄ : Base w h₄ := B₀.keeps fun b o q => k₄ b o (fun z => by subst z; rw [hn₀] at q; cases q) (k₃ _ _ (hk₂ _ _ (hk _ _ (k₀ _ _ q))))
      refine set_by (show DesC 160 from .inr rfl) B₄ he₄ rfl fun A' t' tk => put1 (show DesC 160 from .inr rfl) B₄ he₄ rfl rfl rfl (by rfl) fun h₅ D tk' k1 k2 k3 k4 k5 => ⟨h₅, tk', rfl, rfl, fun tk' => ?_⟩
      have fresh : ∀ b, h₃.get? b = none → h.get? b = none := fun b q => by
        cases z : h.get? b with
        | none => rfl
        | some o => rw [k₃ _ _ (hk₂ _ _ (hk _ _ z))] at q; cases q
      have hta : h₃.objs.size ≠ e := Nat.ne_of_gt (Heap.lt_size he₃)
      refine wpAt_of_wpAny (wpAny_execs_nil ?_)
      refine H h₅ D h₃.objs.size tk' (fun b o hb q => k1 b o hb (k₄ b o hb (k₃ _ _ (hk₂ _ _ (hk _ _ q))))) k2 (k1 _ _ hta ht₄) k3 ?_ (fresh _ (Heap.get?_none_of_le (Nat.le_refl _))) (fun q => by rw [← q, ht₄] at k4; cases k4) k5
      cases z : h.get? D with
      | none => rfl
      | some o => rw [k₄ _ _ k5 (k₃ _ _ (hk₂ _ _ (hk _ _ z)))] at k4; cases k4
theorem des_init {g₀ : Heap} {e : Addr} {t0 m r : Value} {Q : Value → Shared → Prop} (hc : DesC C) (B₀ : Base w g₀) (k₀ : Ke g₀ h) (hn₀ : g₀.get? e = none) (hdep : A.depth < recursionLimit) (he : h.get? e = some { cls := .ref C, data := .fields #[t0, .none, .none, .none, .bool false, .none] })
    (H : ∀ h' D ta tk', (∀ b o, b ≠ e → h.get? b = some o → h'.get? b = some o) → h'.get? e = some { cls := .ref C, dict := some D, data := .fields #[.ref ta, .none, .none, .none, .bool false, .none] } → h'.get? ta = some { cls := .type "tuple", data := .seq #[m] } →
      h'.Ns1 D (fun y => if y = "serial" then some r else none) → h.get? D = none → h.get? ta = none → ta ≠ D → D ≠ e → Q .none ⟨h', gs, dr, tk', os⟩) :
    wpAny (model pw w) A (call (.ref 135) [.ref e, m, r]) Q E ⟨h, gs, dr, tk, os⟩ := wpAny_call (des_code hc B₀ k₀ hn₀ hdep he H)
theorem ns137 (B : Base w h) : ∃ m, h.Ns 137 m ∧ m "__init__" = some (.ref 135) := ⟨_, ns_of (a := 137) (B.get (by rfl)) (by rfl) (by rfl), by rfl⟩
/-- DeserializationError(m, r) -/
theorem des_new {m r : Value} {Q : Value → Shared → Prop} (B : Base w h) (hdep : A.depth + 1 < recursionLimit)
    (H : ∀ h' e D ta tk', Ke h h' → h.get? e = none → h'.get? e = some { cls := .ref 138, dict := some D, data := .fields #[.ref ta, .none, .none, .none, .bool false, .none] } → h'.get? ta = some { cls := .type "tuple", data := .seq #[m] } →
      h.get? ta = none → (∃ mD, h'.Ns1 D mD) → h.get? D = none → Q (.ref e) ⟨h', gs, dr, tk', os⟩) : wpAny (model pw w) A (call (.ref 138) [m, r]) Q E ⟨h, gs, dr, tk, os⟩ := by
  obtain ⟨mN, hn, hi⟩ := ns137 B
  refine call2 ab138 (c138 B) hn hi (B.get (a := 135) (by rfl)) (by rfl) (fun h₁ e M => ?_) (by show 2 ≤ sizeLine; decide)
  obtain ⟨t, he, _, _⟩ := M.there
  refine des_init (.inl rfl) B M.keeps M.new (by simp only [depth_under_make]; exact hdep) he fun h₂ D ta tk' k1 k2 k3 k4 k5 k6 _ _ => ⟨rfl, H h₂ e D ta tk' (fun b o q => k1 b o (fun z => by subst z; rw [M.new] at q; cases q) (M.keeps _ _ q)) M.new k2 k3 (fresh1 M.keeps k6) ⟨_, k4⟩ (fresh1 M.keeps k5)⟩
end
end

section
def fd157 : FuncData := { name := "__init__", qualname := "ListDeserializationError.__init__", params := fdA (mAt 8 0), body := .stmts (fdB (mAt 8 0)), scope := fdS (mAt 8 0), globals := 3, closure := [("__class__", 144)], defaults := .ref 149, kwdefaults := .none, doc := .none, pyModule := (.str (Str.ofString "rlp.exceptions") 194), code := .ref 156, closureTuple := .ref 150, builtins := 0 }
section
variable {w : World} {A : Around} {gs : Array GenState} {dr : Drawn} {tk : Nat} {os : OsState} {h g₀ : Heap} {L e : Addr} {m : Str → Option Value} {t0 mV sV eV iV : Value} {Qf : Flow → Shared → Prop} {Ef : Value → Shared → Prop}
abbrev env157 (L : Addr) : Env := callEnv fd157 L 157
/-- behind the look at the message -/
theorem ldes_rest (B₀ : Base w g₀) (k₀ : Ke g₀ h) (hn₀ : g₀.get? e = none) (hdep : A.depth < recursionLimit) (he : h.get? e = some { cls := .ref 160, data := .fields #[t0, .none, .none, .none, .bool false, .none] })
    (hns : h.Ns L m) (hself : m "self" = some (.ref e)) (hmes : m "message" = some mV) (hser : m "serial" = some sV) (hexc : m "element_exception" = some eV) (hidx : m "index" = some iV)
    (H : ∀ h' D ta tk', (∀ b o, b ≠ e → h.get? b = some o → h'.get? b = some o) → h'.get? e = some { cls := .ref 160, dict := some D, data := .fields #[.ref ta, .none, .none, .none, .bool false, .none] } → h'.get? ta = some { cls := .type "tuple", data := .seq #[mV] } → h.get? ta = none → (∃ mD, h'.Ns1 D mD) → h.get? D = none → Qf .next ⟨h', gs, dr, tk', os⟩) :
    PySem.wpAt (model pw w) A (.func (fdB (mAt 8 0)) (env157 L)) (execs ((fdB (mAt 8 0)).drop 1) (env157 L)) Qf Ef ⟨h, gs, dr, tk, os⟩ := by
  have B : Base w h := B₀.keeps k₀
  have hLe : L ≠ e := by
    obtain ⟨o, es, ep, h1, h2, _⟩ := hns
    intro q
    subst q
    rw [he] at h1
    cases h1
    cases h2
  refine ks_wpAt_execs_cons ?_
  refine ks_wpAt_Expr_any ?_
  refine ks_wpAt_MethodCall ?_ (by rfl)
  refine ks_wpAt_super_base (f := 157) (cc := 156) (by rfl) (by rfl) (by rfl) (by rfl) (B.get (by rfl)) (by rfl) (by rfl) (by rfl) (B.get (by rfl)) (by rfl) (by rfl) (by rfl) (by rfl) ?_
  obtain ⟨mg, g1, g2, g3⟩ := B.g
  obtain ⟨mb, b1, b2⟩ := B.b
  refine ks_loadName_global (by rfl) (by rfl) (loadGlobal_builtin (env := env157 L) g1 (g3 _ (by decide)) b1 ((b2 _ (by decide)).trans (by kernel_rfl)) ⟨rfl, ?_⟩)
  refine wpAny_loadName_free (by rfl) (by rfl) (by rfl) ⟨_, B.get (by rfl), rfl⟩ ?_
  refine wpAny_loadName_local (by rfl) (by rfl) hns hself ?_
  refine ks_wpAny_isType_cls (B.get (by rfl)) (by rfl) ⟨rfl, ?_⟩
  refine ks_wpAny_call_super (C := 160) (B.get (by rfl)) (by rfl) he rfl (fun c q => by cases q) (looks_mroIn B.inK (by rfl)) (fun h₂ hso hk₂ => ?_)
  have B₂ : Base w h₂ := B.keeps hk₂
  have he₂ := hk₂ _ _ he
  have hns₂ := hns.keeps hk₂
  refine ks_wpAny_getMethod_super hso (looks_opaque B₂.inK (by rfl)) ((looks_clsIn B₂.inK (by rfl)).andThen .now) (by rfl) B₂.inK (by rfl) (B₂.get (a := 135) (by rfl)) (by rfl) ?_ (by decide) ?_
  · intro q
    subst q
    have := c160 B₂
    rw [he₂] at this
    cases this
  have k₃ : Ke h₂ (h₂.push (methodObj (.ref 135) (.ref e))) := fun b o q => Heap.get?_push_of_some _ q
  have B₃ := B₂.keeps k₃
  have he₃ := k₃ _ _ he₂
  have hns₃ := hns₂.keeps k₃
  have hb₃ : (h₂.push (methodObj (.ref 135) (.ref e))).get? h₂.objs.size = some (methodObj (.ref 135) (.ref e)) := Heap.get?_push_size _ rfl
  dsimp only
  refine callWith_of (P := MethP (objs w.params) h₂.objs.size 135 (.ref e)) (by rfl) (fun h X => keeps_M (by rfl) h X) ?_
  refine evalArgs_plain ?_
  have kk : Ke h (h₂.push (methodObj (.ref 135) (.ref e))) := fun b o q => k₃ _ _ (hk₂ _ _ q)
  generalize hu : h₂.objs.size = u at hb₃ ⊢
  generalize h₂.push (methodObj (.ref 135) (.ref e)) = h₃ at k₃ B₃ he₃ hns₃ hb₃ kk ⊢
  refine spliced_cons ?_
  refine wpAny_Name (wpAny_loadName_local (by rfl) (by rfl) hns₃ hmes ?_)
  refine spliced_cons ?_
  refine wpAny_Name (wpAny_loadName_local (by rfl) (by rfl) hns₃ hser ?_)
  refine spliced_nil ⟨⟨hb₃, B₃.inK⟩, ?_⟩
  refine wpAny_call (ks_codeAny_call_bound hb₃ ?_)
  refine des_code (.inr rfl) B₀ (fun b o q => kk _ _ (k₀ _ _ q)) hn₀ hdep he₃ fun h₄ D ta tk₄ k1 k2 k3 k4 k5 k6 k7 k8 => ?_
  have B₄ : Base w h₄ := B₀.keeps fun b o q => k1 b o (fun z => by subst z; rw [hn₀] at q; cases q) (kk _ _ (k₀ _ _ q))
  have hns₄ : h₄.Ns L m := hns₃.at' fun o q => k1 _ _ hLe q
  refine ks_wpAt_execs_cons ?_
  refine ks_wpAt_Assign_Attr ?_ (by rfl)
  refine PySem.wpAt_of_wpAny ?_
  refine wpAny_Name (wpAny_loadName_local (by rfl) (by rfl) hns₄ hidx ?_)
  refine wpAny_Name (wpAny_loadName_local (by rfl) (by rfl) hns₄ hself ?_)
  have w1 : Within (fun y => if y = ("serial" : Str) then some sV else none) ["serial"] := Within.cons _ _ Within.nil
  refine set_by (.inr rfl) B₄ k2 rfl fun A' t' tk => put2 (.inr rfl) B₄ k2 rfl rfl k4 w1 (by decide) (by rfl) fun h₅ tk' n5 s5 => ⟨h₅, tk', rfl, rfl, fun tk' => ?_⟩
  have h5 : ∀ b o, b ≠ D → h₄.get? b = some o → h₅.get? b = some o := fun b o hb q => s5.extBut b o hb q
  have hDL : L ≠ D := fun q => by rw [← q] at k5; obtain ⟨o, _, _, z, _⟩ := hns₃; rw [z] at k5; cases k5
  have hns₅ : h₅.Ns L m := hns₄.at' fun o q => h5 _ _ hDL q
  have B₅ : Base w h₅ := B₀.keeps fun b o q => h5 b o (fun z => by rw [← z] at k5; rw [kk _ _ (k₀ _ _ q)] at k5; cases k5) (k1 b o (fun z => by subst z; rw [hn₀] at q; cases q) (kk _ _ (k₀ _ _ q)))
  refine ks_wpAt_execs_cons ?_
  refine ks_wpAt_Assign_Attr ?_ (by rfl)
  refine PySem.wpAt_of_wpAny ?_
  refine wpAny_Name (wpAny_loadName_local (by rfl) (by rfl) hns₅ hexc ?_)
  refine wpAny_Name (wpAny_loadName_local (by rfl) (by rfl) hns₅ hself ?_)
  refine set_by (.inr rfl) B₅ (h5 _ _ k8.symm k2) rfl fun A' t' tk => put2 (.inr rfl) B₅ (h5 _ _ k8.symm k2) rfl rfl n5 (Within.cons _ _ w1) (by decide) (by rfl) fun h₆ tk' n6 s6 => ⟨h₆, tk', rfl, rfl, fun tk' => ?_⟩
  have h6 : ∀ b o, b ≠ D → h₅.get? b = some o → h₆.get? b = some o := fun b o hb q => s6.extBut b o hb q
  refine PySem.wpAt_of_wpAny (wpAny_execs_nil ?_)
  refine H h₆ D ta tk' (fun b o hb q => h6 _ _ ?_ (h5 _ _ ?_ (k1 _ _ hb (kk _ _ q)))) (h6 _ _ k8.symm (h5 _ _ k8.symm k2)) (h6 _ _ k7 (h5 _ _ k7 k3)) (fresh1 kk k6) ⟨_, n6⟩ (fresh1 kk k5)
  · intro z; rw [← z, kk _ _ q] at k5; cases k5
  · intro z; rw [← z, kk _ _ q] at k5; cases k5
theorem sm_line {a : Nat} {x : Str} (h : Sm a x) (k : a ≤ 10000) : x.length ≤ sizeLine := by unfold Sm at h; rw [sizeLine_eq]; omega
theorem sm_mono {a b : Nat} {x : Str} (h : Sm a x) (k : a ≤ b) : Sm b x := by unfold Sm at *; omega
theorem x_truthys {prog : Program} {w : World} {A : Around} {E : Value → Shared → Prop} {h : Heap} {gs : Array GenState} {dr : Drawn} {tk : Nat} {os : OsState} {x : Str} {t : Tok} {Q : Bool → Shared → Prop} (hf : ¬ (x.length : Int) ≥ 2 ^ 63) (H : ∀ tk', Q ((x.length : Int) != 0) ⟨h, gs, dr, tk', os⟩) : wpAny (model prog w) A (truthy (.str x t)) Q E ⟨h, gs, dr, tk, os⟩ := PySem.P.truthy_str hf (H _)
theorem x_not {M : Model} {A : Around} {E : Value → Shared → Prop} {s : Shared} {x : Expr} {p : Pos} {env : Env} {m : Sem Value} {Q : Bool → Shared → Prop} (H : wpAny M A (isTrue x env (eval x env)) (fun b => Q (!b)) E s) : wpAny M A (isTrue (.UnaryOp .Not x p) env m) Q E s := by
  rw [arm_isTrue_UnaryOp]
  exact wpAny_bind (wpAny_mono H (fun b s h => wpAny_pure h) fun _ _ z => z)
variable {E : Value → Shared → Prop} {rest : List Value} {kw : List (Str × Value)} {Q : Value → Shared → Prop}
abbrev lbinds (e : Addr) (mV sV eV iV : Value) : List (Str × Value) := [(Str.ofString "self", .ref e), (Str.ofString "message", mV), (Str.ofString "serial", sV), (Str.ofString "element_exception", eV), (Str.ofString "index", iV)]
/-- ListDeserializationError.__init__ with a message -/
theorem ldes_given {mm : Str} {tm : Tok} (B₀ : Base w g₀) (k₀ : Ke g₀ h) (hn₀ : g₀.get? e = none) (hdep : A.depth + 1 < recursionLimit) (he : h.get? e = some { cls := .ref 160, data := .fields #[t0, .none, .none, .none, .bool false, .none] })
    (hbind : ∀ S, peek (objs w.params) S (bindArgs fd157 ⟨.ref e :: rest, kw⟩) = some (lbinds e (.str mm tm) sV eV iV)) (hm : mm.length ≠ 0) (hs : Short mm)
    (H : ∀ h' D ta tk', (∀ b o, b ≠ e → h.get? b = some o → h'.get? b = some o) → h'.get? e = some { cls := .ref 160, dict := some D, data := .fields #[.ref ta, .none, .none, .none, .bool false, .none] } → h'.get? ta = some { cls := .type "tuple", data := .seq #[.str mm tm] } → h.get? ta = none → (∃ mD, h'.Ns1 D mD) → h.get? D = none → Q .none ⟨h', gs, dr, tk', os⟩) :
    wpAny (model pw w) A (call (.ref 157) (.ref e :: rest) kw) Q E ⟨h, gs, dr, tk, os⟩ := by
  have B : Base w h := B₀.keeps k₀
  refine wpAny_call (ks_codeAny_call_defAt (s := ⟨h, gs, dr, tk, os⟩) (fd := fd157) (body := fdB (mAt 8 0)) (binds := lbinds e (.str mm tm) sV eV iV) (by omega) (B.get (by rfl)) (by rfl) B.nolimit ⟨156, _, _, _, rfl, B.get (by rfl), rfl, rfl⟩ rfl (kp_binds B.inK hbind) (by decide) (locs rfl) (fun h₁ hns hk => ?_))
  refine ks_wpAt_execs_cons ?_
  refine PySem.wpAt_of_wpAny ?_
  refine wpAny_If ?_
  refine x_not ?_
  refine isTrue_plain ?_ (by rfl)
  refine wpAny_Name (wpAny_loadName_local (by rfl) (by rfl) hns (by rfl) ?_)
  refine x_truthys (by have := hs.le; omega) fun tk' => ?_
  rw [show ((mm.length : Int) != 0) = true by simpa using hm]
  refine x_ite_f ?_
  refine wpAny_execs_nil ?_
  exact ldes_rest B₀ (fun b o q => hk _ _ (k₀ _ _ q)) hn₀ (by show A.depth + 1 < _; exact hdep) (hk _ _ he) hns (by rfl) (by rfl) (by rfl) (by rfl) (by rfl) fun h' D ta tk' k1 k2 k3 k4 k5 k6 => H h' D ta tk' (fun b o hb q => k1 b o hb (hk _ _ q)) k2 k3 (fresh1 hk k4) k5 (fresh1 hk k6)
/-- with none: it is made of the index and the other error's words -/
theorem ldes_none {ex : Addr} {i : Int} {ti tm : Tok} {mm : Str} {n : Nat} (B₀ : Base w g₀) (k₀ : Ke g₀ h) (hn₀ : g₀.get? e = none) (hdep : A.depth + 1 < recursionLimit) (he : h.get? e = some { cls := .ref 160, data := .fields #[t0, .none, .none, .none, .bool false, .none] })
    (hbind : ∀ S, peek (objs w.params) S (bindArgs fd157 ⟨.ref e :: rest, kw⟩) = some (lbinds e .none sV (.ref ex) (.int i ti))) (hi : i.natAbs < 2 ^ 70) (hs : Sm n mm) (hn : n ≤ 9000)
    (hstr : ∀ {A' : Around} {E' : Value → Shared → Prop} {Q' : Value → Shared → Prop} h' tk', Ke h h' → A'.units ≤ A.units + 20 → Q' (.str mm tm) ⟨h', gs, dr, tk', os⟩ → wpAny (model pw w) A' (call (.type "str") [.ref ex]) Q' E' ⟨h', gs, dr, tk', os⟩)
    (H : ∀ h' D ta tk' m' t', Sm (n + 10) m' → (∀ b o, b ≠ e → h.get? b = some o → h'.get? b = some o) → h'.get? e = some { cls := .ref 160, dict := some D, data := .fields #[.ref ta, .none, .none, .none, .bool false, .none] } → h'.get? ta = some { cls := .type "tuple", data := .seq #[.str m' t'] } → h.get? ta = none → (∃ mD, h'.Ns1 D mD) → h.get? D = none → Q .none ⟨h', gs, dr, tk', os⟩) :
    wpAny (model pw w) A (call (.ref 157) (.ref e :: rest) kw) Q E ⟨h, gs, dr, tk, os⟩ := by
  have B : Base w h := B₀.keeps k₀
  refine wpAny_call (ks_codeAny_call_defAt (s := ⟨h, gs, dr, tk, os⟩) (fd := fd157) (body := fdB (mAt 8 0)) (binds := lbinds e .none sV (.ref ex) (.int i ti)) (by omega) (B.get (by rfl)) (by rfl) B.nolimit ⟨156, _, _, _, rfl, B.get (by rfl), rfl, rfl⟩ rfl (kp_binds B.inK hbind) (by decide) (locs rfl) (fun h₁ hns hk => ?_))
  refine ks_wpAt_execs_cons ?_
  refine PySem.wpAt_of_wpAny ?_
  have B₁ : Base w h₁ := B.keeps hk
  refine wpAny_If ?_
  refine x_not ?_
  refine isTrue_plain ?_ (by rfl)
  refine wpAny_Name (wpAny_loadName_local (by rfl) (by rfl) hns (by rfl) ?_)
  refine truthy_none ?_
  refine x_ite_t ?_
  refine wpAny_execs_cons ?_
  refine wpAny_Assert_holds ?_
  refine wpAny_isTrue_Compare1 ?_ (by with_unfolding_all rfl)
  refine wpAny_Name (wpAny_loadName_local (by rfl) (by rfl) hns (by rfl) ?_)
  refine x_none ?_
  refine isnot_none_gen ?_
  refine x_truthy ⟨rfl, ?_⟩
  dsimp only
  refine wpAny_execs_cons ?_
  refine wpAny_Assert_holds ?_
  refine wpAny_isTrue_Compare1 ?_ (by with_unfolding_all rfl)
  refine wpAny_Name (wpAny_loadName_local (by rfl) (by rfl) hns (by rfl) ?_)
  refine x_none ?_
  refine isnot_none_gen ?_
  refine x_truthy ⟨rfl, ?_⟩
  dsimp only
  refine wpAny_execs_cons ?_
  refine wpAny_Assign_Name ?_ (by rfl)
  refine JoinedStr_many ?_
  dsimp only [evalEach]
  have s1 : Sm 1 (Str.ofString "Deserialization failed because of element at index ") := sm_of (by decide +kernel)
  have s3 : Sm 1 (Str.ofString " (\"") := sm_of (by decide +kernel)
  have s5 : Sm 1 (Str.ofString "\")") := sm_of (by decide +kernel)
  have s0 : Sm 0 Str.empty := by unfold Sm; decide
  have s2 := sm_int hi
  refine x_jp_str (short_of s0 (by decide)) (by decide +kernel) fun tk' => ?_
  refine x_jp_fmt ?_
  refine wpAny_Name (wpAny_loadName_local (by rfl) (by rfl) hns (by rfl) ?_)
  refine x_fmt_int hi (short_of (sm_app s0 s1) (by decide)) fun tk' => ?_
  refine x_jp_str (short_of (sm_app (sm_app s0 s1) s2) (by decide)) (by decide +kernel) fun tk' => ?_
  refine x_jp_fmt ?_
  refine xe_callt B₁ (by rfl) bt_str (by rfl) (by rfl) (by rfl) (by rfl) (by decide) (by decide) (by rfl) (by rfl) ?_
  refine spliced_cons ?_
  refine wpAny_Name (wpAny_loadName_local (by rfl) (by rfl) hns (by rfl) ?_)
  refine spliced_nil ?_
  refine hstr _ _ hk (by show A.units + _ ≤ _; omega) ?_
  refine formatField_str (s := ⟨h₁, gs, dr, _, os⟩) (fun t' tk' => ?_) (sm_line hs (by omega))
  have s6 := sm_app (sm_app (sm_app (sm_app s0 s1) s2) s3) hs
  refine ⟨sm_line s6 (by omega), ?_⟩
  refine x_jp_str (short_of s6 (by omega)) (by decide +kernel) fun tk' => ?_
  have s7 := sm_app s6 s5
  refine x_jp_end (short_of s7 (by omega)) fun t' tk' => ?_
  refine wpAny_storeName_local (by rfl) hns (fun h₂ hns₂ hs₂ => ?_) (by rfl)
  refine wpAny_execs_nil ?_
  have hLe : h.objs.size ≠ e := Nat.ne_of_gt (Heap.lt_size he)
  have hk2 : ∀ b o, h.get? b = some o → h₂.get? b = some o := fun b o q => hs₂.extBut b o (Nat.ne_of_lt (Heap.lt_size q)) (hk _ _ q)
  exact ldes_rest B₀ (fun b o q => hk2 _ _ (k₀ _ _ q)) hn₀ (by show A.depth + 1 < _; exact hdep) (hk2 _ _ he) hns₂ (by rfl) (by rfl) (by rfl) (by rfl) (by rfl) fun h' D ta tk' k1 k2 k3 k4 k5 k6 => H h' D ta tk' _ t' (sm_mono s7 (by omega)) (fun b o hb q => k1 b o hb (hk2 _ _ q)) k2 k3 (fresh1 hk2 k4) k5 (fresh1 hk2 k6)
end
end

section
section
variable {w : World} {A : Around} {E : Value → Shared → Prop} {h : Heap} {gs : Array GenState} {dr : Drawn} {tk : Nat} {os : OsState} {e C D : Addr} {oe : Obj}
open Builtin Builtin.BaseException in
theorem call_desstr {prog : Program} {w' : World} {ta : Addr} {m : Str} {t : Tok} {vs : Array Value} {Q : Value → Shared → Prop} (HC : DesC C) (B : Base w h) (he : h.get? e = some oe) (hc : oe.cls = .ref C) (hno : notCls oe = true) {od : Option Obj} (I : InstAt h e oe C od) (hd : oe.data = .fields vs) (h0 : vs[0]? = some (.ref ta)) (ht : h.TupAt ta [.str m t])
    (H : Q (.str m t) ⟨h, gs, dr, tk, os⟩) : wpAny (model prog w') A (call (.builtin "BaseException.__str__") [.ref e]) Q E ⟨h, gs, dr, tk, os⟩ := by
  have hargs : ∀ {M : Model} {A : Around} {E : Value → Shared → Prop} {Q : Value × List Value → Shared → Prop}, Q (.ref ta, [.str m t]) ⟨h, gs, dr, tk, os⟩ → wpAny M A (bexcArgs (.ref e)) Q E ⟨h, gs, dr, tk, os⟩ := by
    intro M A E Q hq
    obtain ⟨ot, k, hto, _, htd⟩ := ht
    unfold bexcArgs
    refine wpAny_bind (wpAny_field (s := ⟨h, gs, dr, tk, os⟩) he hd h0 (wpAny_bind (wpAny_seqItems (s := ⟨h, gs, dr, tk, os⟩) hto htd ?_)))
    exact wpAny_pure hq
  refine wpAny_call (codeAny_call_builtin (id := "BaseException.__str__") (by decide +kernel) PySem.F.entry_bexc_str (check_slot (i := "BaseException.__str__") (owner := "BaseException") (n := "__str__") (by decide +kernel) (by decide +kernel) (I.type.andThen (looks_mroIn (K := objs w.params) B.inK (by rcases HC with rfl | rfl <;> rfl))) (PySem.F.args_bexc_str _) ?_))
  unfold Builtin.«BaseException.__str__»
  repeat (first | with_reducible refine hargs ?_ | wp_step)
  exact H
theorem str_des {ta : Addr} {m : Str} {t : Tok} {vs : Array Value} {Q : Value → Shared → Prop} (hu : A.units + 2 < cLine) (HC : DesC C) (B : Base w h) (he : h.get? e = some oe) (hc : oe.cls = .ref C) (hno : notCls oe = true) {od : Option Obj} (I : InstAt h e oe C od) (hd : oe.data = .fields vs) (h0 : vs[0]? = some (.ref ta)) (ht : h.TupAt ta [.str m t])
    (H : Q (.str m t) ⟨h, gs, dr, tk, os⟩) : wpAny (model pw w) A (call (.type "str") [.ref e]) Q E ⟨h, gs, dr, tk, os⟩ := by
  refine callType_new (S := fun A R s => s = ⟨h, gs, dr, tk, os⟩ ∧ A.units + 1 < cLine ∧ R (.ok (.ret (.str m t))) s) PySem.F.called_str (by decide) (PySem.F.typeCall_str_1 _) (PySem.F.newCall_str_1 _) (fun obj => PySem.F.args_object_init_2 obj _) PySem.F.entry_str_new
    (meets_str_new fun prog w' A' R s hs => ?_) ⟨rfl, by show A.units + 1 + 1 < cLine; omega, typeIs_str _ _ _, H⟩
  obtain ⟨rfl, hu', hR⟩ := hs
  unfold Builtin.Str.strOf
  rw [show Builtin.Str.isExactStr (.ref e) = false from rfl, if_neg (by decide)]
  refine wpAny_bind (wpAny_cRoomFor (by show A'.units + 1 < cLine; omega) ?_)
  refine wpAny_bind (m := callSpecial? (.ref e) (Str.ofString "__str__")) (kfo_special (K := objs w.params) B.inK I (by rcases HC with rfl | rfl <;> rfl) (PySem.F.excStr_Exception.str.bind) (call_desstr HC B he hc hno I hd h0 ht ?_))
  exact wpAny_pure hR
end
section
variable {w : World} {A : Around} {E : Value → Shared → Prop} {h : Heap} {gs : Array GenState} {dr : Drawn} {tk : Nat} {os : OsState} {rest : List Value} {kw : List (Str × Value)} {sV eV iV : Value} {Q : Value → Shared → Prop}
theorem ns159 (B : Base w h) : ∃ m, h.Ns 159 m ∧ m "__init__" = some (.ref 157) := ⟨_, ns_of (a := 159) (B.get (by rfl)) (by rfl) (by rfl), by rfl⟩
/-- what a made error is -/
def LMade (C : Addr) (h h' : Heap) (e ta D : Addr) (m : Str) (t : Tok) : Prop := Ke h h' ∧ h.get? e = none ∧ h'.get? e = some { cls := .ref C, dict := some D, data := .fields #[.ref ta, .none, .none, .none, .bool false, .none] } ∧ h'.get? ta = some { cls := .type "tuple", data := .seq #[.str m t] } ∧ h.get? ta = none ∧ (∃ mD, h'.Ns1 D mD) ∧ h.get? D = none
theorem des_newL {m : Str} {t : Tok} {r : Value} (B : Base w h) (hdep : A.depth + 1 < recursionLimit)
    (H : ∀ h' e ta D tk', LMade 138 h h' e ta D m t → Q (.ref e) ⟨h', gs, dr, tk', os⟩) : wpAny (model pw w) A (call (.ref 138) [.str m t, r]) Q E ⟨h, gs, dr, tk, os⟩ :=
  des_new B hdep fun h' e D ta tk' k1 k2 k3 k4 k5 k6 k7 => H h' e ta D tk' ⟨k1, k2, k3, k4, k5, k6, k7⟩
theorem ldes_new {mm : Str} {tm : Tok} (B : Base w h) (hdep : A.depth + 2 < recursionLimit) (hbind : ∀ S e, peek (objs w.params) S (bindArgs fd157 ⟨.ref e :: rest, kw⟩) = some (lbinds e (.str mm tm) sV eV iV)) (hm : mm.length ≠ 0) (hs : Short mm) (hr : rest.length ≤ 4)
    (H : ∀ h' e ta D tk', LMade 160 h h' e ta D mm tm → Q (.ref e) ⟨h', gs, dr, tk', os⟩) : wpAny (model pw w) A (call (.ref 160) rest kw) Q E ⟨h, gs, dr, tk, os⟩ := by
  obtain ⟨mN, hn, hi⟩ := ns159 B
  refine call2 ab160 (c160 B) hn hi (B.get (a := 157) (by rfl)) (by rfl) (fun h₁ e M => ?_) (by rw [sizeLine_eq]; omega)
  obtain ⟨t, he, _, _⟩ := M.there
  exact ldes_given B M.keeps M.new (by show A.depth + 1 + 1 < _; exact hdep) he (fun S => hbind S e) hm hs fun h₂ D ta tk' k1 k2 k3 k4 k5 k6 => ⟨rfl, H h₂ e ta D tk' ⟨fun b o q => k1 b o (fun z => by subst z; rw [M.new] at q; cases q) (M.keeps _ _ q), M.new, k2, k3, fresh1 M.keeps k4, k5, fresh1 M.keeps k6⟩⟩
theorem ldes_newE {ex : Addr} {i : Int} {ti tm : Tok} {mm : Str} {n : Nat} (B : Base w h) (hdep : A.depth + 2 < recursionLimit) (hbind : ∀ S e, peek (objs w.params) S (bindArgs fd157 ⟨.ref e :: rest, kw⟩) = some (lbinds e .none sV (.ref ex) (.int i ti))) (hr : rest.length ≤ 4)
    (hi : i.natAbs < 2 ^ 70) (hs : Sm n mm) (hn : n ≤ 9000)
    (hstr : ∀ {A' : Around} {E' : Value → Shared → Prop} {Q' : Value → Shared → Prop} h' tk', Ke h h' → A'.units ≤ A.units + 30 → Q' (.str mm tm) ⟨h', gs, dr, tk', os⟩ → wpAny (model pw w) A' (call (.type "str") [.ref ex]) Q' E' ⟨h', gs, dr, tk', os⟩)
    (H : ∀ h' e ta D tk' m' t', Sm (n + 10) m' → LMade 160 h h' e ta D m' t' → Q (.ref e) ⟨h', gs, dr, tk', os⟩) : wpAny (model pw w) A (call (.ref 160) rest kw) Q E ⟨h, gs, dr, tk, os⟩ := by
  obtain ⟨mN, hn', hi'⟩ := ns159 B
  refine call2 ab160 (c160 B) hn' hi' (B.get (a := 157) (by rfl)) (by rfl) (fun h₁ e M => ?_) (by rw [sizeLine_eq]; omega)
  obtain ⟨t, he, _, _⟩ := M.there
  exact ldes_none B M.keeps M.new (by show A.depth + 1 + 1 < _; exact hdep) he (fun S => hbind S e) hi hs hn (fun h' tk' k hu hq => hstr h' tk' (fun b o q => k _ _ (M.keeps _ _ q)) (by refine Nat.le_trans hu ?_; show A.units + 1 + 20 ≤ A.units + 30; omega) hq) fun h₂ D ta tk' m' t' s1 k1 k2 k3 k4 k5 k6 => ⟨rfl, H h₂ e ta D tk' m' t' s1 ⟨fun b o q => k1 b o (fun z => by subst z; rw [M.new] at q; cases q) (M.keeps _ _ q), M.new, k2, k3, fresh1 M.keeps k4, k5, fresh1 M.keeps k6⟩⟩
end
end

section
section
variable {w : World} {A : Around} {E : Value → Shared → Prop} {gs : Array GenState} {dr : Drawn} {tk : Nat} {os : OsState} {h : Heap} {Q : Value → Shared → Prop}
/-- entry of a method -/
theorem x_enterM {name qual : Str} {scope : Scope} {params : Arguments} {body : List Stmt} {dV kwdV : Value} {ann : Option Addr} {pm doc : Value} {f c : Addr} {o oc : Obj} {vs : Array Value} {tq : Tok} {vals : List Value} {kw : List (Str × Value)} {binds : List (Str × Value)}
    (B : Base w h) (hdep : A.depth < recursionLimit) (ho : (objs w.params).lookup f = some o) (hdat : o.data = .func (defFd name qual params body scope mainGlobals dV kwdV ann pm (.ref c) doc))
    (hc : (objs w.params).lookup c = some oc) (hcd : oc.data = .fields vs) (hq : vs[1]? = some (.str qual tq))
    (hbind : ∀ S, peek (objs w.params) S (bindArgs (defFd name qual params body scope mainGlobals dV kwdV ann pm (.ref c) doc) ⟨vals, kw⟩) = some binds)
    (hloc : ∀ x ∈ binds, scope.names.lookup x.1 = some .local) (hco : scope.isCoroutine = false) (hgen : scope.isGenerator = false) (hk : scope.kind = .function) (hcell : ∀ x ∈ scope.names, x.2 ≠ .cell)
    (H : ∀ h₁ L tk', L = h.objs.size → Fr h L h₁ (look binds.reverse) → News h L h₁ [] →
      wpAny (model pw w) (A.deeper (envOf qual scope L f (.ref c))) (execs body (envOf qual scope L f (.ref c))) (fun fl s' => Q (match fl with | .ret v => v | _ => .none) s')
        (fun e s' => wpAny (model pw w) (A.deeper (envOf qual scope L f (.ref c))) (leaving (envOf qual scope L f (.ref c)) e) (fun _ s'' => E e s'') (fun e' s'' => E e' s'') s') ⟨h₁, gs, dr, tk', os⟩) :
    wpAny (model pw w) A (call (.ref f) vals kw) Q E ⟨h, gs, dr, tk, os⟩ :=
  wpAny_call (codeAny_call_def (s := ⟨h, gs, dr, tk, os⟩) hdep (B.get ho) hdat B.nolimit ⟨c, oc, vs, tq, rfl, B.get hc, hcd, hq⟩ rfl (kp_binds B.inK hbind) hcell hloc (fun h₁ hns hkeep => wpAny_mono (H h₁ _ _ rfl ⟨hns, hkeep, Nat.le_refl _⟩ News.nil) (fun fl s' x => by cases fl <;> exact x) fun _ _ x => x) hco hgen hk)
end
section
variable {w : World} {A : Around} {E : Value → Shared → Prop} {C e : Addr} {BB h : Heap} {gs : Array GenState} {dr : Drawn} {tk : Nat} {os : OsState}
theorem raise_load {env : Env} {x : Sem Value} {Q : Flow → Shared → Prop} {s : Shared} (HC : DesC C)
    (H : wpAny (model pw w) A x (fun v s₁ => ∃ e D ta, v = .ref e ∧ Base w s₁.heap ∧ s₁.heap.get? e = some { cls := .ref C, dict := some D, data := .fields #[.ref ta, .none, .none, .none, .bool false, .none] } ∧ wpAny (model pw w) A (raiseNew (.ref e) : Sem Flow) Q E s₁) E s) :
    wpAny (model pw w) A (raiseStmt env (some x) none) Q E s := by
  unfold raiseStmt
  refine wpAny_bind (wpAny_mono H (fun v s₁ h₁ => ?_) fun _ _ x => x)
  obtain ⟨e, D, ta, rfl, B, he, hE⟩ := h₁
  obtain ⟨hp, g, d, tk, os⟩ := s₁
  rcases HC with rfl | rfl
  · have hC := c138 B
    repeat (first | with_reducible refine wpAny_loadPart_at he ?_ | with_reducible refine wpAny_loadPart_at hC ?_ | (with_reducible refine wpAny_isSubtype_exc hC ?_) | wp_step)
    exact hE
  · have hC := c160 B
    repeat (first | with_reducible refine wpAny_loadPart_at he ?_ | with_reducible refine wpAny_loadPart_at hC ?_ | (with_reducible refine wpAny_isSubtype_exc hC ?_) | wp_step)
    exact hE
theorem x_raiseD {env : Env} {c : Expr} {pos : Pos} {Q : Flow → Shared → Prop} {s : Shared} (HC : DesC C)
    (H : wpAny (model pw w) A (eval c env) (fun v s₁ => ∃ e D ta, v = .ref e ∧ Base w s₁.heap ∧ s₁.heap.get? e = some { cls := .ref C, dict := some D, data := .fields #[.ref ta, .none, .none, .none, .bool false, .none] } ∧ wpAny (model pw w) A (raiseNew (.ref e) : Sem Flow) Q E s₁) E s) :
    wpAny (model pw w) A (exec (.Raise (some c) none pos) env) Q E s := by
  rw [arm_exec_Raise]
  show wpAny _ A (do standAt pos; raiseStmt env (some (do let v ← eval c env; standAt pos; pure v)) none) Q E s
  exact wpAny_bind (wpAny_standAt (raise_load HC (wpAny_bind (wpAny_mono H (fun v s₁ h₁ => wpAny_bind (wpAny_standAt (wpAny_pure h₁))) fun _ _ x => x))))
/-- what an exception's context may be: none, or one that stands alone -/
def ChainIn (T : Ledger) (ctx : Value) : Prop := (ctx = .none ∧ T = []) ∨ ∃ c oc vc, ctx = .ref c ∧ T = [(c, oc)] ∧ oc.data = .fields vc ∧ vc[2]? = some .none
/-- a made exception is raised within a handler: it bears the handled one, which may bear one itself -/
theorem raise_in2 {α : Type} {prog : Program} {x1 : Ex} {e1 : Addr} {oh : Obj} {vh : Array Value} {ctx : Value} {T : Ledger} {Q : α → Shared → Prop} (hh : A.handled = some (.ref e)) (hne : e1 ≠ e) (he : h.get? e = some oh) (hd : oh.data = .fields vh) (h2 : vh[2]? = some ctx)
    (hch : ChainIn T ctx) (hT : ∀ p ∈ T, h.get? p.1 = some p.2 ∧ p.1 ≠ e1 ∧ p.1 ≠ e)
    (ht : ExAt h BB e1 x1 none) (H : ∀ h', (∀ b, b ≠ e1 → h'.get? b = h.get? b) → ExAt h' BB e1 { x1 with ctx := .ref e } none → E (.ref e1) ⟨h', gs, dr, tk, os⟩) :
    wpAny (model prog w) A (raiseNew (.ref e1) : Sem α) Q E ⟨h, gs, dr, tk, os⟩ := by
  rcases hch with ⟨rfl, rfl⟩ | ⟨c, oc, vc, rfl, rfl, hcd, hc2⟩
  · exact raise_in hh hne he hd h2 ht H
  obtain ⟨hc, hce1, hce⟩ := hT _ (.head _)
  unfold raiseNew
  refine wpAny_bind (wpAny_handled ?_)
  rw [hh]
  dsimp only
  rw [if_pos (show (Value.ref e != Value.ref e1) = true by simp [Ne.symm hne])]
  refine wpAny_bind (wpAny_holding (wpAny_runValue (codeAny_builtin (b := Builtin.«proto.unchain») (id := "proto.unchain") (entryFor_of_tree (by kernel_rfl)) ?_)))
  unfold Builtin.«proto.unchain»
  dsimp only
  refine wpAny_bind (wpAny_field he hd h2 ?_)
  rw [if_neg (show ¬ ((Value.ref c == Value.none) = true) from by simp), if_neg (show ¬ ((Value.ref c == Value.ref e1) = true) from by simpa using hce1), if_neg (show ¬ ((Value.ref c == Value.ref e) = true) from by simpa using hce)]
  rw [if_neg (show ¬ (false = true) from by simp)]
  refine wpAny_bind (wpAny_pure (wpAny_pure ?_))
  refine ⟨by kernel_rfl, codeAny_builtin (b := Builtin.«proto.unchain») (id := "proto.unchain") (entryFor_of_tree (by kernel_rfl)) ?_⟩
  unfold Builtin.«proto.unchain»
  dsimp only
  refine wpAny_bind (wpAny_field hc hcd hc2 ?_)
  rw [if_pos (by decide)]
  obtain ⟨o1, v1, q1, q2, q3, q4, q5, q6, q7⟩ := ht
  refine wpAny_bind (wpAny_pure (wpAny_pure ?_))
  dsimp only
  unfold updateField
  refine wpAny_bind (wpAny_bind (wpAny_load q1 ?_))
  rw [q4]
  dsimp only
  rw [if_pos (Array.getElem?_eq_some_iff.mp q6).1]
  refine wpAny_update' q1 (wpAny_throw ?_)
  refine H _ (fun b hb => Heap.get?_update_other _ _ (Ne.symm hb)) ⟨_, _, Heap.get?_update_self _ q1 (Obj.isFreed_of_fields (Obj.data_mapFields q4 _)), (Obj.cls_mapFields _ _).trans q2, (dict_mapFields _ _).trans q3, Obj.data_mapFields q4 _, ?_, ?_, ?_⟩
  · rw [Array.getElem?_setIfInBounds_ne (by decide)]; exact q5
  · simp [(Array.getElem?_eq_some_iff.mp q6).1]
  · show _ = _
    rw [Array.getElem?_setIfInBounds_ne (by decide)]; exact q7
end
end

section
def Live (h : Heap) (D : Addr) : Prop := ∃ o, h.get? D = some o ∧ ∀ vs, o.data ≠ .fields vs
theorem Live.upTo {h h' : Heap} {D : Addr} (x : Live h D) (u : h.UpToSlots h') : Live h' D := by
  obtain ⟨o, a, b⟩ := x
  obtain ⟨sl, q⟩ := u D o a b
  exact ⟨_, q, b⟩
/-- an error of deserializing, of nesting d, words of n pages -/
def DesT (d n : Nat) (g : Heap) (outer : List Env) (h' : Heap) (e : Addr) (x : Ex) : Prop :=
  ∃ g' C ta D m s T, Kp outer g g' ∧ Thrown g' outer e x h' ∧ g.get? e = none ∧ DesC C ∧ x.cls = .ref C ∧ x.a0 = .ref ta ∧ x.dict = some D ∧ h'.TupAt ta [.str m s] ∧ g.get? ta = none ∧ Live h' D ∧ g.get? D = none ∧ Sm n m ∧
    (d ≤ 1 → ChainIn T x.ctx) ∧ (d = 0 → x.ctx = .none) ∧ ∀ p ∈ T, g'.get? p.1 = some p.2 ∧ g.get? p.1 = none
theorem live_ns {h : Heap} {D : Addr} (x : ∃ mD, h.Ns1 D mD) : Live h D := by
  obtain ⟨mD, o, es, ep, h1, h2, _⟩ := x
  exact ⟨o, h1, fun vs q => by rw [h2] at q; cases q⟩
theorem DesT.leaf {d n : Nat} {g h h1 h'' : Heap} {outer : List Env} {C e ta D : Addr} {m : Str} {t : Tok} (T : Thrown g outer e ⟨.ref C, .ref ta, some D, .none⟩ h'') (M : LMade C h h1 e ta D m t) (k : Ke g h) (u : h1.UpToSlots h'') (HC : DesC C) (hs : Sm n m) :
    DesT d n g outer h'' e ⟨.ref C, .ref ta, some D, .none⟩ := by
  obtain ⟨m1, m2, m3, m4, m5, m6, m7⟩ := M
  exact ⟨g, C, ta, D, m, t, [], Kp.refl, T, fresh1 k m2, HC, rfl, rfl, rfl, Heap.TupAt.of_slots ⟨_, 0, m4, rfl, rfl⟩ u, fresh1 k m5, (live_ns m6).upTo u, fresh1 k m7, hs, fun _ => .inl ⟨rfl, rfl⟩, fun _ => rfl, fun _ q => nomatch q⟩
theorem DesT.ground {d n : Nat} {g g6 h'' : Heap} {outer : List Env} {e : Addr} {x : Ex} (kp : Kp outer g g6) (hdom : ∀ b, g6.get? b = none → g.get? b = none) (T : DesT d n g6 outer h'' e x) : DesT d n g outer h'' e x := by
  obtain ⟨g', C, ta, D, m, s, T', kp', T, hne, HC, hxc, hx0, hxd, hta, hfta, hD, hfD, hsm, hch, hd0, hT'⟩ := T
  exact ⟨g', C, ta, D, m, s, T', kp.trans kp', T, hdom _ hne, HC, hxc, hx0, hxd, hta, hdom _ hfta, hD, hdom _ hfD, hsm, hch, hd0, fun p hp => ⟨(hT' p hp).1, hdom _ (hT' p hp).2⟩⟩
section
variable {w : World} {A : Around} {E : Value → Shared → Prop} {gs : Array GenState} {dr : Drawn} {tk : Nat} {os : OsState} {hb g h h' : Heap} {outer : List Env} {L a e C ta D : Addr} {mm : Str → Option Value} {name : Str} {scope : Scope} {cd : Value} {x : Ex} {Q : Flow → Shared → Prop} {m : Str} {t : Tok} {d n : Nat}
theorem des_raised (K : Below A hb outer g) (F : Fr g L h mm) (B : Base w g) (hk : scope.kind = .function) (hh : A.handled = none) (M : LMade C h h' e ta D m t) {E : Value → Shared → Prop}
    (H : Fly (hideAll h (fs (envOf name scope L a cd :: outer))) (envOf name scope L a cd :: outer) e ⟨.ref C, .ref ta, some D, .none⟩ none h' → E (.ref e) ⟨h', gs, dr, tk, os⟩) :
    ∃ e' D ta, (Value.ref e) = .ref e' ∧ Base w (⟨h', gs, dr, tk, os⟩ : Shared).heap ∧ (⟨h', gs, dr, tk, os⟩ : Shared).heap.get? e' = some { cls := .ref C, dict := some D, data := .fields #[.ref ta, .none, .none, .none, .bool false, .none] } ∧
      wpAny (model pw w) (A.deeper (envOf name scope L a cd)) (raiseNew (.ref e') : Sem Flow) Q E ⟨h', gs, dr, tk, os⟩ := by
  obtain ⟨m1, m2, m3, m4, m5, m6, m7⟩ := M
  exact ⟨e, D, ta, rfl, B.keeps fun b o q => m1 b o (F.keep b o q), m3, wpAny_raiseNew_none hh (H (fly_made K F hk m1 m2 ⟨_, _, m3, rfl, rfl, rfl, rfl, rfl, rfl⟩))⟩
/-- raised in the function's own body -/
theorem des_leave (K : Below A hb outer g) (F : Fr g L h mm) (B : Base w g) (hk : scope.kind = .function) (hh : A.handled = none) (HC : DesC C) (hs : Sm n m) (M : LMade C h h' e ta D m t)
    (H : ∀ h'' x, DesT d n g outer h'' e x → E (.ref e) ⟨h'', gs, dr, tk, os⟩) :
    ∃ e' D ta, (Value.ref e) = .ref e' ∧ Base w (⟨h', gs, dr, tk, os⟩ : Shared).heap ∧ (⟨h', gs, dr, tk, os⟩ : Shared).heap.get? e' = some { cls := .ref C, dict := some D, data := .fields #[.ref ta, .none, .none, .none, .bool false, .none] } ∧
      wpAny (model pw w) (A.deeper (envOf name scope L a cd)) (raiseNew (.ref e') : Sem Flow) Q (fun e s' => wpAny (model pw w) (A.deeper (envOf name scope L a cd)) (leaving (envOf name scope L a cd) e) (fun _ s'' => E e s'') (fun e' s'' => E e' s'') s') ⟨h', gs, dr, tk, os⟩ :=
  des_raised K F B hk hh M fun _ => leave_made (x := ⟨.ref C, .ref ta, some D, .none⟩) K F hk M.1 M.2.1 ⟨_, _, M.2.2.1, rfl, rfl, rfl, rfl, rfl, rfl⟩ fun h'' T u => H h'' _ (.leaf T M F.keep u HC hs)
/-- raised in a loop of the body -/
theorem des_loop (K : Below A hb outer g) (F : Fr g L h mm) (B : Base w g) (hk : scope.kind = .function) (hh : A.handled = none) (HC : DesC C) (hs : Sm n m) (M : LMade C h h' e ta D m t)
    (H : ∀ h'' x, DesT d n g outer h'' e x → E (.ref e) ⟨h'', gs, dr, tk, os⟩) :
    ∃ e' D ta, (Value.ref e) = .ref e' ∧ Base w (⟨h', gs, dr, tk, os⟩ : Shared).heap ∧ (⟨h', gs, dr, tk, os⟩ : Shared).heap.get? e' = some { cls := .ref C, dict := some D, data := .fields #[.ref ta, .none, .none, .none, .bool false, .none] } ∧
      wpAny (model pw w) (A.deeper (envOf name scope L a cd)) (raiseNew (.ref e') : Sem Flow) Q (notedBy (model pw w) (A.deeper (envOf name scope L a cd)) (envOf name scope L a cd) (fun e s' => cameBackBy (model pw w) (A.deeper (envOf name scope L a cd)) (envOf name scope L a cd) (fun e s' =>
      wpAny (model pw w) (A.deeper (envOf name scope L a cd)) (leaving (envOf name scope L a cd) e) (fun _ s'' => E e s'') (fun e' s'' => E e' s'') s') e s')) ⟨h', gs, dr, tk, os⟩ :=
  des_raised K F B hk hh M fun X => loop_leave K F X (.inl rfl) (Heap.UpToSlots.of_keeps M.1) fun h'' T u => H h'' _ (.leaf T M F.keep u HC hs)
end
section
variable {M : Model} {A : Around} {E : Value → Shared → Prop} {gs : Array GenState} {dr : Drawn} {tk : Nat} {os : OsState} {h BB : Heap} {outer : List Env} {L e : Addr} {env : Env} {x : Ex}
theorem noted_again (hf : env.frame = some L) (X : Fly BB (env :: outer) e x (some (rawInt L)) h) (H : E (.ref e) ⟨h, gs, dr, tk, os⟩) : notedBy M A env E (.ref e) ⟨h, gs, dr, tk, os⟩ := ex_again hf X.2.2.2 H
theorem came_back {fl : Value} (hf : env.frame = some L) (X : Fly BB (env :: outer) e x (some fl) h) (H : ∀ h', Fly BB (env :: outer) e x (some (rawInt L)) h' → h.UpToSlots h' → E (.ref e) ⟨h', gs, dr, tk, os⟩) : cameBackBy M A env E (.ref e) ⟨h, gs, dr, tk, os⟩ := by
  unfold cameBackBy
  obtain ⟨_, _, _, oe, vs, he, _, _, hd, _, _, T, _, _, h1', _⟩ := id X
  refine wpAny_bind (wpAny_field he hd h1' ?_)
  rw [if_neg (show ¬ ((Value.ref T == Value.none) = true) from by simp), hf]
  exact fly_flight (to := some L) X fun h2 X2 u2 => H h2 X2 u2
theorem passed_on {α : Type} {what : String} {fl : Value} {Q : α → Shared → Prop} (hf : env.frame = some L) (X : Fly BB (env :: outer) e x (some fl) h) (H : ∀ h', Fly BB (env :: outer) e x (some (rawInt L)) h' → h.UpToSlots h' → E (.ref e) ⟨h', gs, dr, tk, os⟩) : wpAny M A (passOn what (.ref e) env : Sem α) Q E ⟨h, gs, dr, tk, os⟩ := by
  unfold PySem.passOn
  obtain ⟨_, _, _, oe, vs, he, _, _, hd, _, _, T, _, _, h1', _⟩ := id X
  refine wpAny_bind (wpAny_field he hd h1' ?_)
  rw [if_neg (show ¬ ((Value.ref T == Value.none) = true) from by simp), hf]
  exact wpAny_bind (fly_flight (to := some L) X fun h2 X2 u2 => wpAny_throw (H h2 X2 u2))
end
end

section
theorem ns_nf {h : Heap} {L : Addr} {m : Str → Option Value} (n : h.Ns L m) : ∃ o, h.get? L = some o ∧ ∀ vs, o.data ≠ .fields vs := by
  obtain ⟨o, es, ep, h1, h2, _⟩ := n
  exact ⟨o, h1, fun vs q => by rw [h2] at q; cases q⟩
theorem funFrames_set {h h' B : Heap} {L : Addr} {m' : Str → Option Value} (hn : h'.Ns L m') (hs : Heap.SameBut L h h') : ∀ {l : List Env}, h.FunFrames B l → h'.FunFrames B l
  | [], _ => trivial
  | env :: rest, ⟨hk, ⟨L', o, hf, hb, ho, hd⟩, hr⟩ => by
    refine ⟨hk, ?_, funFrames_set hn hs hr⟩
    by_cases q : L' = L
    · subst q
      obtain ⟨o', ho', hd'⟩ := ns_nf hn
      exact ⟨L', o', hf, hb, ho', hd'⟩
    · exact ⟨L', o, hf, hb, (hs.2 L' q).trans ho, hd⟩
theorem fly_set {B h h' : Heap} {l : List Env} {e L : Addr} {x : Ex} {st : Option Value} {m m' : Str → Option Value} (X : Fly B l e x st h) (hB : B.get? L = none) (hL : h.Ns L m) (hn : h'.Ns L m') (hs : Heap.SameBut L h h') : Fly B l e x st h' := by
  obtain ⟨a, b, c, oe, vs, he, d1, d2, d3, d4, d5, d6⟩ := X
  obtain ⟨oL, hoL, hdL⟩ := ns_nf hL
  have nL : ∀ b o fs, h.get? b = some o → o.data = .fields fs → b ≠ L := fun b o fs q1 q2 q3 => by
    rw [q3, hoL] at q1
    cases q1
    exact hdL _ q2
  refine ⟨fun p o q => (hs.2 p fun z => by rw [z, hB] at q; cases q).trans (a p o q), b, funFrames_set hn hs c, oe, vs, (hs.2 e (nL _ _ _ he d3)).trans he, d1, d2, d3, d4, d5, ?_⟩
  cases st with
  | none => exact d6
  | some fl =>
    obtain ⟨T, oT, ts, q1, q2, q3, q4, q5, q6⟩ := d6
    exact ⟨T, oT, ts, q1, q2, q3, (hs.2 T (nL _ _ _ q4 q5)).trans q4, q5, q6⟩
theorem slots_set {h h' : Heap} {L : Addr} (hs : Heap.SameBut L h h') : ∀ b o, b ≠ L → h.get? b = some o → h'.get? b = some o := fun b o hb q => (hs.2 b hb).trans q
section
variable {w : World} {A : Around} {E : Value → Shared → Prop} {gs : Array GenState} {dr : Drawn} {tk : Nat} {os : OsState} {hb g h h' : Heap} {outer : List Env} {L a e e1 C ta D : Addr} {mm : Str → Option Value} {name : Str} {scope : Scope} {cd : Value} {Q : Flow → Shared → Prop} {m : Str} {t : Tok} {d n : Nat}
/-- raised in a handler that bears the handled exception's name, in a loop of the body -/
theorem as_leave {nm : Str} {pos : Pos} {oh : Obj} {vh : Array Value} {ctx : Value} {T : Ledger} (K : Below A hb outer g) (F : Fr g L h mm) (B : Base w g) (hk : scope.kind = .function) (hl : scope.names.lookup nm = some .local)
    (HC : DesC C) (hsm : Sm n m) (M : LMade C h h' e1 ta D m t) (he : h.get? e = some oh) (hd : oh.data = .fields vh) (hv2 : vh[2]? = some ctx) (hch : ChainIn T ctx) (hT : ∀ p ∈ T, h.get? p.1 = some p.2 ∧ p.1 ≠ e)
    (hge : g.get? e = none) (hdd : d ≤ 1) (hd0 : d = 0 → ctx = .none)
    (H : ∀ h'' x, DesT (d + 1) n g outer h'' e1 x → E (.ref e1) ⟨h'', gs, dr, tk + 1, os⟩) :
    ∃ e' D ta, (Value.ref e1) = .ref e' ∧ Base w (⟨h', gs, dr, tk, os⟩ : Shared).heap ∧ (⟨h', gs, dr, tk, os⟩ : Shared).heap.get? e' = some { cls := .ref C, dict := some D, data := .fields #[.ref ta, .none, .none, .none, .bool false, .none] } ∧
      wpAny (model pw w) ((A.deeper (envOf name scope L a cd)).mark (some (.ref e))) (raiseNew (.ref e') : Sem Flow) Q
       (fun x s₄ => wpAny (model pw w) ((A.deeper (envOf name scope L a cd)).mark (some (.ref e))) (noteFrame x (envOf name scope L a cd)) (fun _ s₄' =>
                wpAny (model pw w) ((A.deeper (envOf name scope L a cd)).mark (some (.ref e))) (do bindName (envOf name scope L a cd) nm .none; unbindBehindTheSuite (envOf name scope L a cd) nm pos)
                  (fun _ s₅ => wpAny (model pw w) ((A.deeper (envOf name scope L a cd)).mark (some (.ref e))) (passOn "try.except-as" x (envOf name scope L a cd) : Sem Flow) (fun _ _ => False) (notedBy (model pw w) ((A.deeper (envOf name scope L a cd)).mark (some (.ref e))) (envOf name scope L a cd) (cameBackBy (model pw w) (A.deeper (envOf name scope L a cd)) (envOf name scope L a cd)
                     (notedBy (model pw w) (A.deeper (envOf name scope L a cd)) (envOf name scope L a cd) (fun e s' => cameBackBy (model pw w) (A.deeper (envOf name scope L a cd)) (envOf name scope L a cd) (fun e s' =>
      wpAny (model pw w) (A.deeper (envOf name scope L a cd)) (leaving (envOf name scope L a cd) e) (fun _ s'' => E e s'') (fun e' s'' => E e' s'') s') e s')))) s₅)
                  (fun y s₅ => wpAny (model pw w) ((A.deeper (envOf name scope L a cd)).mark (some (.ref e))) (setFlight x none) (fun _ s₆ => (notedBy (model pw w) ((A.deeper (envOf name scope L a cd)).mark (some (.ref e))) (envOf name scope L a cd) (cameBackBy (model pw w) (A.deeper (envOf name scope L a cd)) (envOf name scope L a cd) (notedBy (model pw w) (A.deeper (envOf name scope L a cd)) (envOf name scope L a cd) (fun e s' => cameBackBy (model pw w) (A.deeper (envOf name scope L a cd)) (envOf name scope L a cd) (fun e s' =>
      wpAny (model pw w) (A.deeper (envOf name scope L a cd)) (leaving (envOf name scope L a cd) e) (fun _ s'' => E e s'') (fun e' s'' => E e' s'') s') e s')))) y s₆) (notedBy (model pw w) ((A.deeper (envOf name scope L a cd)).mark (some (.ref e))) (envOf name scope L a cd) (cameBackBy (model pw w) (A.deeper (envOf name scope L a cd)) (envOf name scope L a cd) (notedBy (model pw w) (A.deeper (envOf name scope L a cd)) (envOf name scope L a cd) (fun e s' => cameBackBy (model pw w) (A.deeper (envOf name scope L a cd)) (envOf name scope L a cd) (fun e s' =>
      wpAny (model pw w) (A.deeper (envOf name scope L a cd)) (leaving (envOf name scope L a cd) e) (fun _ s'' => E e s'') (fun e' s'' => E e' s'') s') e s')))) s₅) s₄') (notedBy (model pw w) ((A.deeper (envOf name scope L a cd)).mark (some (.ref e))) (envOf name scope L a cd) (cameBackBy (model pw w) (A.deeper (envOf name scope L a cd)) (envOf name scope L a cd) (notedBy (model pw w) (A.deeper (envOf name scope L a cd)) (envOf name scope L a cd) (fun e s' => cameBackBy (model pw w) (A.deeper (envOf name scope L a cd)) (envOf name scope L a cd) (fun e s' =>
      wpAny (model pw w) (A.deeper (envOf name scope L a cd)) (leaving (envOf name scope L a cd) e) (fun _ s'' => E e s'') (fun e' s'' => E e' s'') s') e s')))) s₄) ⟨h', gs, dr, tk, os⟩ := by
  obtain ⟨m1, m2, m3, m4, m5, m6, m7⟩ := id M
  have hfr := Around.frames_deeper (env := envOf name scope L a cd) K.stack
  have hfr' : ((A.deeper (envOf name scope L a cd)).mark (some (.ref e))).frames = some (envOf name scope L a cd :: outer) := hfr
  have hne : e1 ≠ e := fun z => by rw [z, he] at m2; cases m2
  refine ⟨e1, D, ta, rfl, B.keeps fun b o q => m1 b o (F.keep b o q), m3, ?_⟩
  refine raise_in2 (BB := h) (x1 := ⟨.ref C, .ref ta, some D, .none⟩) rfl hne (m1 _ _ he) hd hv2 hch (fun p hp => ⟨m1 _ _ (hT p hp).1, (fun z => by have := (hT p hp).1; rw [z, m2] at this; cases this), (hT p hp).2⟩) ⟨_, _, m3, rfl, rfl, rfl, rfl, rfl, rfl⟩ fun h1 k1 X1 => ?_
  have kh1 : Ke h h1 := fun b o q => (k1 b fun z => by rw [z, m2] at q; cases q).trans (m1 _ _ q)
  have X := fly_made (name := name) (a := a) (cd := cd) K F hk kh1 m2 (show ExAt h1 h1 e1 _ none from X1)
  have hns1 := F.ns.keeps kh1
  refine fly_note hfr' rfl X (.inl rfl) fun h2 X2 u2 => ?_
  have hns2 := u2.ns hns1
  refine wpAny_nameGoes (s := ⟨h2, gs, dr, tk, os⟩) hl hns2 (by rw [show (envOf name scope L a cd).scope.kind = .function from hk]; rfl) fun h3 m3' hn3 hs3 => ?_
  have X3 := fly_set X2 (hideAll_none _ (.head _)) hns2 hn3 hs3
  refine passed_on (L := L) rfl X3 fun h4 X4 u4 => ?_
  refine noted_again (L := L) rfl X4 ?_
  refine came_back (L := L) rfl X4 fun h5 X5 u5 => ?_
  refine noted_again (L := L) rfl X5 ?_
  refine came_back (L := L) rfl X5 fun h6 X6 u6 => ?_
  refine fly_leave hfr rfl X6 (.inr rfl) fun h7 X7 u7 => ?_
  have uu := ((u4.trans u5).trans u6).trans u7
  obtain ⟨oL, hoL, hdL⟩ := ns_nf F.ns
  have up : ∀ b o, b ≠ L → h1.get? b = some o → (∀ vs, o.data ≠ .fields vs) → ∃ sl, h7.get? b = some { o with slots := sl } := fun b o hb q hq => by
    obtain ⟨sl, q2⟩ := u2 b o q hq
    obtain ⟨sl', q3⟩ := uu b _ (slots_set hs3 b _ hb q2) hq
    exact ⟨sl', q3⟩
  have gL : ∀ b o, (hideAll h [L]).get? b = some o → h.get? b = some o ∧ b ≠ L := fun b o q => ⟨of_hideAll _ q, fun z => by rw [z, hideAll_none _ (.head _)] at q; cases q⟩
  have toL : ∀ b o, b ≠ L → h.get? b = some o → (hideAll h [L]).get? b = some o := fun b o hb q => hideAll_get _ q fun z => hb (List.mem_singleton.mp z)
  have tal : ta ≠ L := fun z => by rw [z, hoL] at m5; cases m5
  have dl : D ≠ L := fun z => by rw [z, hoL] at m7; cases m7
  have el : e ≠ L := fun z => by rw [z, hoL] at he; cases he; exact hdL _ hd
  have te : ta ≠ e1 := fun z => by rw [z, m3] at m4; cases m4
  have live := live_ns m6
  obtain ⟨oD, hoD, hdD⟩ := live
  have de : D ≠ e1 := fun z => by rw [z, m3] at hoD; cases hoD; exact hdD _ rfl
  have slots : (hideAll h [L]).UpToSlots h7 := fun b o q hq => up b o (gL b o q).2 (kh1 _ _ (gL b o q).1) hq
  have stays : (hideAll (hideAll h [L]) (fs outer)).StaysIn (hideAll h (fs (envOf name scope L a cd :: outer))) := fun b o q => by
    have hb : b ∉ fs outer := fun hm => by rw [hideAll_none _ hm] at q; cases q
    obtain ⟨q1, q2⟩ := gL b o (of_hideAll _ q)
    refine hideAll_get _ q1 fun hm => ?_
    rcases List.mem_cons.mp hm with z | hm
    · exact q2 z
    · exact hb hm
  have hK : Kp outer g (hideAll h [L]) := Kp.of_ke fun b o q => toL b o (Nat.ne_of_lt (Nat.lt_of_lt_of_le (Heap.lt_size q) F.above)) (F.keep b o q)
  obtain ⟨sl1, ht7⟩ := up ta _ tal ((k1 ta te).trans m4) (fun vs q => by cases q)
  obtain ⟨sl2, hD7⟩ := up D _ dl ((k1 D de).trans hoD) hdD
  refine H h7 _ ⟨hideAll h [L], C, ta, D, m, t, if d = 0 then [(e, oh)] else [], hK, ⟨X7.weaken stays, slots⟩, fresh1 F.keep m2, HC, rfl, rfl, rfl, ⟨_, 0, ht7, rfl, rfl⟩, fresh1 F.keep m5, ⟨_, hD7, hdD⟩, fresh1 F.keep m7, hsm, ?_, fun q => by omega, ?_⟩
  · intro hd1
    have hd00 : d = 0 := by omega
    rw [if_pos hd00]
    refine .inr ⟨e, oh, vh, rfl, rfl, hd, ?_⟩
    rw [hv2, hd0 hd00]
  · intro p hp
    split at hp
    · rw [List.mem_singleton.mp hp]
      exact ⟨toL _ _ el he, hge⟩
    · cases hp
end
end

section
theorem kpT {g g' h' : Heap} {outer : List Env} {e : Addr} {x : Ex} (kp : Kp outer g g') (T : Thrown g' outer e x h') : Kp outer g h' := kp.trans (Kp.of_thrown T)
section
variable {M : Model} {A : Around} {E : Value → Shared → Prop}
variable {nm q : Str} {C N : Addr} {bs bm : List Value} {hdct : Bool} {sn : List Str} {sub : List Value} {ab : Bool} {col : Option Bool} {dd : Option Addr} {k0 k1 k2 k3 k5 : Option Value} {newId : String}
variable {nm' q' : Str} {C' N' : Addr} {bs' bm' : List Value} {hdct' : Bool} {sn' : List Str} {sub' : List Value} {ab' : Bool} {col' : Option Bool} {dd' : Option Addr} {k0' k1' k2' k3' k5' : Option Value} {newId' : String}
theorem exc_matches {h : Heap} {g : Array GenState} {d : Drawn} {t : Nat} {os : OsState} {e : Addr} {oe : Obj} {b : Bool} {Q : Bool → Shared → Prop}
    (hC : h.get? C = some (excClassObj nm q C N bs bm hdct sn sub ab col dd k0 k1 k2 k3 k5 newId)) (hC' : h.get? C' = some (excClassObj nm' q' C' N' bs' bm' hdct' sn' sub' ab' col' dd' k0' k1' k2' k3' k5' newId')) (he : h.get? e = some oe) (hcls : oe.cls = .ref C) (hbase : bm'.contains (.type "BaseException") = true)
    (hb : (Value.ref C :: bm).contains (.ref C') = b)
    (hq : Q b ⟨h, g, d, t, os⟩) : wpAny M A (excMatches (.ref e) (.ref C')) Q E ⟨h, g, d, t, os⟩ := by
  have hcB : (Value.ref C' :: bm').contains (.type "BaseException") = true := by rw [List.contains_cons, hbase, Bool.or_true]
  have f := tc_notTuple
  unfold excMatches
  repeat (first | (with_reducible refine wpAny_loadPart_at he ?_; rw [hcls]) | with_reducible refine wpAny_loadPart_at hC' ?_ | (with_reducible refine wpAny_isSubtype_exc hC' ?_; rw [hcB]) | (with_reducible refine wpAny_isSubtype_exc hC ?_; rw [hb]) | wp_step)
  cases b <;> (wp_walk; exact hq)
end
section
variable {w : World} {A : Around} {E : Value → Shared → Prop} {gs : Array GenState} {dr : Drawn} {tk : Nat} {os : OsState} {hb g h h' : Heap} {outer : List Env} {L a e : Addr} {ρ : List (Str × Value)} {news : Ledger} {name : Str} {scope : Scope} {cd : Value} {x : Ex} {Q : Flow → Shared → Prop} {d n : Nat}
/-- the handler of both kinds of lists: the inner error is told anew -/
theorem des_handler {nm ix : Str} {p1 p2 p3 p4 p5 p6 p7 p8 p9 p10 p11 : Pos} {sV : Value} {i : Int} {ti : Tok} (B₀ : Base w hb) (K : Below A hb outer g) (F : Fr g L h (look ρ)) (N : News g L h news) (hk : scope.kind = .function) (hl : scope.names.lookup nm = some .local)
    (hdep : A.depth + 3 < recursionLimit) (hu : A.units + 40 < cLine) (T : DesT d n h (envOf name scope L a cd :: outer) h' e x) (hdd : d ≤ 1) (hn : n ≤ 9000)
    (hg1 : scope.names.lookup ("DeserializationError" : Str) = some .globalImplicit) (hg2 : scope.names.lookup ("ListDeserializationError" : Str) = some .globalImplicit)
    (hser : ρ.lookup ("serial" : Str) = some sV) (hls : scope.names.lookup ("serial" : Str) = some .local) (hix : ρ.lookup ix = some (.int i ti)) (hli : scope.names.lookup ix = some .local) (hi : i.natAbs < 2 ^ 70)
    (hnd : (nm == ("__debug__" : Str)) = false) (hid : (ix == ("__debug__" : Str)) = false) (hns : nm ≠ ("serial" : Str)) (hni : nm ≠ ix)
    (H : ∀ h'' e x tk', DesT (d + 1) (n + 10) g outer h'' e x → E (.ref e) ⟨h'', gs, dr, tk', os⟩) :
    wpAny (model pw w) (A.deeper (envOf name scope L a cd)) (noteFrame (.ref e) (envOf name scope L a cd)) (fun _ s₂ => wpAny (model pw w) (A.deeper (envOf name scope L a cd)) (setFlight (.ref e) none) (fun _ s₃ => wpAny (model pw w) (A.deeper (envOf name scope L a cd))
      (handleBy (.ref e) (envOf name scope L a cd) [.ExceptHandler (some (.Name "DeserializationError" p1)) (some nm) [.Raise (some (.Call (.Name "ListDeserializationError" p2) [] [⟨some "serial", .Name "serial" p3, p4⟩, ⟨some "element_exception", .Name nm p5, p6⟩, ⟨some "index", .Name ix p7, p8⟩] p9)) none p10] p11]) Q
        (notedBy (model pw w) (A.deeper (envOf name scope L a cd)) (envOf name scope L a cd) (fun e s' => cameBackBy (model pw w) (A.deeper (envOf name scope L a cd)) (envOf name scope L a cd) (fun e s' =>
      wpAny (model pw w) (A.deeper (envOf name scope L a cd)) (leaving (envOf name scope L a cd) e) (fun _ s'' => E e s'') (fun e' s'' => E e' s'') s') e s')) s₃)
        (notedBy (model pw w) (A.deeper (envOf name scope L a cd)) (envOf name scope L a cd) (fun e s' => cameBackBy (model pw w) (A.deeper (envOf name scope L a cd)) (envOf name scope L a cd) (fun e s' =>
      wpAny (model pw w) (A.deeper (envOf name scope L a cd)) (leaving (envOf name scope L a cd) e) (fun _ s'' => E e s'') (fun e' s'' => E e' s'') s') e s')) s₂)
        (notedBy (model pw w) (A.deeper (envOf name scope L a cd)) (envOf name scope L a cd) (fun e s' => cameBackBy (model pw w) (A.deeper (envOf name scope L a cd)) (envOf name scope L a cd) (fun e s' =>
      wpAny (model pw w) (A.deeper (envOf name scope L a cd)) (leaving (envOf name scope L a cd) e) (fun _ s'' => E e s'') (fun e' s'' => E e' s'') s') e s')) ⟨h', gs, dr, tk, os⟩ := by
  obtain ⟨g', C, ta, D, m, s, T', kp', T, hen', HC, hxc, hx0, hxd, hta, hfta, hD, hfD, hsm, hch, hd0, hT'⟩ := T
  have K' := K.push (name := name) (a := a) (cd := cd) F hk
  have hTf : ∀ p ∈ T', p.1 ∉ fs (envOf name scope L a cd :: outer) := fun p hp hm => by
    obtain ⟨_, o, ho, _⟩ := K'.frames.mem hm
    rw [(hT' p hp).2] at ho
    cases ho
  refine land (Around.frames_deeper K.stack) rfl T.1 fun h₅ X₅ u₅ => ?_
  obtain ⟨oe, vs, he, hec, hedi, hed, he0, he2, hen⟩ := fly_obj X₅
  obtain ⟨g5, kp5, hdom5, K5, F5, N5⟩ := reground K F N (kp'.trans ⟨X₅.1, T.2.trans u₅⟩) (New.one hen' he)
  have B5 := base_below B₀ K5
  refine clause_as (c := .ref 138) X₅ (fun hq => x_glob F5 B5 (by rfl) hk hg1 (by decide) hq)
      (fun hq => ?_) fun h₆ X₆ u₆ => ?_
  · rcases HC with rfl | rfl
    · exact exc_matches (c138 (B5.keeps F5.keep)) (c138 (B5.keeps F5.keep)) he (hec.trans hxc) (by rfl) (by rfl) hq
    · exact exc_matches (c160 (B5.keeps F5.keep)) (c138 (B5.keeps F5.keep)) he (hec.trans hxc) (by rfl) (by rfl) hq
  obtain ⟨oe, vs, he, hec, hedi, hed, he0, he2, hen⟩ := fly_obj X₆
  have u56 := u₅.trans u₆
  obtain ⟨ot, nt, hot, hotc, hotd⟩ := hta.of_slots u56
  obtain ⟨oD, hoD, hoDn⟩ := hD.upTo u56
  have NT : New h h₆ T' := fun p hp => ⟨X₆.1 _ _ (hideAll_get _ (hT' p hp).1 (hTf p hp)), (hT' p hp).2⟩
  obtain ⟨g6, kp6, hdom6, K6, F6, N6⟩ := reground K F N (kp'.trans ⟨X₆.1, (T.2.trans u₅).trans u₆⟩) ((((New.one hen' he).app (New.one hfD hoD)).app (New.one hfta hot)).app NT)
  have B6 := base_below B₀ K6
  refine x_store F6 N6 hk hl fun h₇ tk₇ F7 N7 => ?_
  refine wpAny_execs_cons ?_
  refine x_raiseD (.inr rfl) ?_
  refine wpAny_Call_ofName (x_glob F7 B6 (by rfl) hk hg2 (by decide) ?_)
  refine callWith_KW0 (h₀ := g6) B6.inK (by rfl) (by rfl) ?_
  refine kws_cons ?_
  refine x_name F7 (by rw [List.lookup_cons, beq_false_of_ne (Ne.symm hns)]; exact hser) hk hls (by decide) ?_
  refine kws_cons ?_
  refine x_name F7 (by rw [List.lookup_cons, beq_self_eq_true]) hk hl hnd ?_
  refine kws_cons ?_
  refine x_name F7 (by rw [List.lookup_cons, beq_false_of_ne (Ne.symm hni)]; exact hix) hk hli hid ?_
  refine kws_nil ?_
  refine ⟨(B6.keeps F7.keep).inK, ?_⟩
  have he7 := N7.get (a := e) (o := oe) (by simp)
  have hcls : oe.cls = .ref C := hec.trans hxc
  have hno : notCls oe = true := by unfold notCls; rw [hed]
  refine ldes_newE (ex := e) (i := i) (ti := ti) (mm := m) (tm := s) (n := n) (sV := sV) (B6.keeps F7.keep) (by show A.depth + 1 + 2 < _; omega) (fun S e => by rfl) (by decide) hi hsm hn
    (fun {A' E' Q'} h₈ tk₈ k₈ hu8 hq => str_des (C := C) (m := m) (t := s) (by have : A'.units ≤ A.units + 3 + 30 := hu8; omega) HC ((B6.keeps F7.keep).keeps k₈) (k₈ _ _ he7) hcls hno (od := some oD) ⟨k₈ _ _ he7, hcls, hno, by rw [hedi, hxd]; exact k₈ _ _ (N7.get (a := D) (by simp))⟩ hed (he0.trans (congrArg some hx0)) ⟨ot, nt, k₈ _ _ (N7.get (a := ta) (by simp)), hotc, hotd⟩ hq)
    fun h₈ e1 ta1 D1 tk₈ m1 t1 hs1 M => ?_
  have N7T : ∀ p ∈ T', h₇.get? p.1 = some p.2 := fun p hp => (N7 p (by simp [hp])).1
  refine as_leave (d := d) (n := n + 10) (T := T') (ctx := x.ctx) K6 F7 B6 hk hl (.inr rfl) hs1 M he7 hed he2 (hch hdd) (fun p hp => ⟨N7T p hp, fun z => ?_⟩) ((N7 (e, oe) (by simp)).2.2) hdd hd0 fun h'' x' X => H h'' e1 x' _ (X.ground kp6 fun b => (hdom6 b).mp)
  have h1 := (hT' p hp).1
  rw [z, hen] at h1
  cases h1
end
end

section
/-- kinds of what is read -/
inductive SK where
  | oct (lo hi : Nat) (e : Bool)
  | truth
  | many (m : Nat) (k : SK)
  | pair (a b : SK)
def SK.cls : SK → Addr | .oct .. => 1570 | .truth => 1601 | .many .. => 1696 | .pair .. => 1660
def SK.des : SK → Addr | .oct .. => 1567 | .truth => 1598 | .many .. => 1693 | .pair .. => 1657
def SK.ser : SK → Addr | .oct .. => 1560 | .truth => 1591 | .many .. => 1686 | .pair .. => 1650
def SK.dep : SK → Nat | .oct .. => 0 | .truth => 0 | .many _ k => k.dep + 1 | .pair a b => max a.dep b.dep + 1
/-- an instance: its class, its own dict -/
def Inst (T : Ledger) (x C : Addr) (es : List DictEntry) : Prop := ∃ dx n, (x, instObj C dx) ∈ T ∧ (dx, dictOf es n) ∈ T
def NoMeth (es : List DictEntry) : Prop := getL ("serialize" : Str) es = some none ∧ getL ("deserialize" : Str) es = some none ∧ getL ("is_valid_length" : Str) es = some none ∧ getL ("is_valid_type" : Str) es = some none
def maxV (m : Nat) (t : Tok) : Value := if m < 3 then .int m t else .none
/-- the object that reads a kind -/
def SRep (T : Ledger) : Addr → SK → Prop
  | x, .oct lo hi e => ∃ es t1 t2, Inst T x 1570 es ∧ NoMeth es ∧ getL ("min_length" : Str) es = some (some (.int lo t1)) ∧ getL ("max_length" : Str) es = some (some (.int hi t2)) ∧ getL ("allow_empty" : Str) es = some (some (.bool e))
  | x, .truth => ∃ es, Inst T x 1601 es ∧ NoMeth es
  | x, .many m k => ∃ es y t, Inst T x 1696 es ∧ NoMeth es ∧ getL ("element_sedes" : Str) es = some (some (.ref y)) ∧ getL ("max_length" : Str) es = some (some (maxV m t)) ∧ SRep T y k
  | x, .pair a b => ∃ es l n y z, Inst T x 1660 es ∧ NoMeth es ∧ getL ("parts" : Str) es = some (some (.ref l)) ∧ getL ("strict" : Str) es = some (some (.bool true)) ∧ (l, lob [.ref y, .ref z] n) ∈ T ∧ SRep T y a ∧ SRep T z b
theorem Inst.mono {T T' : Ledger} (k : ∀ p ∈ T, p ∈ T') {x C es} : Inst T x C es → Inst T' x C es := fun ⟨dx, n, a, b⟩ => ⟨dx, n, k _ a, k _ b⟩
theorem SRep.mono {T T' : Ledger} (k : ∀ p ∈ T, p ∈ T') : ∀ {x : Addr} {s : SK}, SRep T x s → SRep T' x s
  | _, .oct .., ⟨es, t1, t2, a, r⟩ => ⟨es, t1, t2, a.mono k, r⟩
  | _, .truth, ⟨es, a, r⟩ => ⟨es, a.mono k, r⟩
  | _, .many .., ⟨es, y, t, a, b, c, d, r⟩ => ⟨es, y, t, a.mono k, b, c, d, SRep.mono k r⟩
  | _, .pair .., ⟨es, l, n, y, z, a, b, c, d, e, r1, r2⟩ => ⟨es, l, n, y, z, a.mono k, b, c, d, k _ e, SRep.mono k r1, SRep.mono k r2⟩
def fitsB (lo hi : Nat) (e : Bool) (n : Nat) : Bool := (decide (lo ≤ n) && decide (n ≤ hi)) || (e && n == 0)
mutual
def accS : SK → Tr → Bool
  | .oct lo hi e, .b x => fitsB lo hi e x.length
  | .truth, .b x => x == [] || x == [1]
  | .many m k, .l ts => (decide (m < 3 → ts.length ≤ m)) && accAll k ts
  | .pair a b, .l [t, u] => accS a t && accS b u
  | _, _ => false
def accAll : SK → List Tr → Bool
  | _, [] => true
  | k, t :: ts => accS k t && accAll k ts
end
/-- the value that a kind makes of an item -/
inductive DRep (T : Ledger) : Value → SK → Tr → Prop
  | oct {lo hi e x t} : fitsB lo hi e x.length = true → DRep T (.bytes x.toArray t) (.oct lo hi e) (.b x)
  | ff : DRep T (.bool false) .truth (.b [])
  | tt : DRep T (.bool true) .truth (.b [1])
  | many {m : Nat} {k : SK} {u : Addr} {vs : Array Value} {n : Nat} {ts : List Tr} : (u, { cls := .type "tuple", data := .seq vs n }) ∈ T → (m < 3 → ts.length ≤ m) → vs.size = ts.length → (∀ (i : Nat) (v : Value) (t : Tr), vs[i]? = some v → ts[i]? = some t → DRep T v k t) → DRep T (.ref u) (.many m k) (.l ts)
  | pair {a b u v1 v2 n t1 t2} : (u, { cls := .type "tuple", data := .seq #[v1, v2] n }) ∈ T → DRep T v1 a t1 → DRep T v2 b t2 → DRep T (.ref u) (.pair a b) (.l [t1, t2])
theorem DRep.mono {T T' : Ledger} (k : ∀ p ∈ T, p ∈ T') {v : Value} {s : SK} {t : Tr} (R : DRep T v s t) : DRep T' v s t := by
  induction R with
  | oct h => exact .oct h
  | ff => exact .ff
  | tt => exact .tt
  | many h1 h2 h3 _ ih => exact .many (k _ h1) h2 h3 ih
  | pair h1 _ _ i1 i2 => exact .pair (k _ h1) i1 i2
section
variable {w : World} {A : Around} {E : Value → Shared → Prop} {gs : Array GenState} {dr : Drawn} {tk : Nat} {os : OsState} {h g : Heap} {L x dx C : Addr} {mm : Str → Option Value} {news T : Ledger} {es : List DictEntry} {n : Nat} {name : Str} {v : Value} {Q : Value → Shared → Prop}
theorem inst_at {T : Ledger} {es : List DictEntry} (I : Inst T x C es) (hT : ∀ p ∈ T, h.get? p.1 = some p.2) : ∃ dx n, InstAt h x (instObj C dx) C (some (dictOf es n)) := by
  obtain ⟨dx, n, a, b⟩ := I
  exact ⟨dx, n, ⟨hT _ a, rfl, rfl, hT _ b⟩⟩
theorem x_own {attr : Option Value} {expr : Bool} (F : Fr g L h mm) (B : Base w g) (I : Inst T x C es) (hT : ∀ p ∈ T, g.get? p.1 = some p.2) (hg : plainGet (objs w.params) C name = true) (hh : hasDictIn (objs w.params) C = true)
    (ha : findIn (objs w.params) (.ref C) name = some attr) (hn : noGet (objs w.params) attr = true) (hl : getL name es = some (some v)) (hv : handedIn v = true) (H : ∀ tk', Q v ⟨h, gs, dr, tk', os⟩) :
    wpAny (model pw w) A (getAttr (.ref x) name expr) Q E ⟨h, gs, dr, tk, os⟩ := by
  obtain ⟨dx, n, I⟩ := inst_at (h := h) I fun p hp => F.keep _ _ (hT p hp)
  exact get_own (s := ⟨h, gs, dr, tk, os⟩) F B.inK I hg hh ha hn hl hv (H _)
theorem x_meth {pl : Sem Bool} {f : Addr} {Q : Value × List Value → Shared → Prop} (F : Fr g L h mm) (B : Base w g) (I : Inst T x C es) (hT : ∀ p ∈ T, g.get? p.1 = some p.2) (hg : plainGet (objs w.params) C name = true)
    (hf : findIn (objs w.params) (.ref C) name = some (some (.ref f))) (ht : isFn (objs w.params) (.ref f) = true) (hl : getL name es = some none) (H : Q (.ref f, [.ref x]) ⟨h, gs, dr, tk, os⟩) :
    wpAny (model pw w) A (getMethod (.ref x) name pl) Q E ⟨h, gs, dr, tk, os⟩ := by
  obtain ⟨dx, n, I⟩ := inst_at (h := h) I fun p hp => F.keep _ _ (hT p hp)
  exact method_inst (s := ⟨h, gs, dr, tk, os⟩) F B.inK I hg hf ht hl H
/-- any, over a written tuple of truth values -/
theorem x_any2 {u : Addr} {a b : Bool} {n : Nat} (F : Fr g L h mm) (N : News g L h news) (hh : A.handled = none) (hu : h.get? u = some { cls := .type "tuple", data := .seq #[.bool a, .bool b] n })
    (H : ∀ h' tk', Ke h h' → Fr g L h' mm → News g L h' news → Q (.bool (a || b)) ⟨h', gs, dr, tk', os⟩) : wpAny (model pw w) A (call (.builtin "any") [.ref u]) Q E ⟨h, gs, dr, tk, os⟩ := by
  have hI : u ≠ h.objs.size := Nat.ne_of_lt (Heap.lt_size hu)
  refine call_any_walk (wpAny_pyIter_tuple (s := ⟨h, gs, dr, tk, os⟩) ⟨_, hu, rfl, n, rfl⟩ ?_)
  have k : Ke h (h.push { cls := .type "tuple_iterator", data := .fields #[.ref u, .int 0 0] }) := fun b o q => Heap.get?_push_of_some _ q
  refine ⟨_, _, _, _, _, _, fun i => #[a, b].getD i false, rfl, Walks.tuple (A := A.in1) (show A.in1.handled = none from hh) h.objs.size u hI #[.bool a, .bool b], ⟨⟨_, Heap.get?_push_size _ rfl, rfl, rfl⟩, ⟨_, k _ _ hu, rfl, n, rfl⟩⟩, ?_, ?_⟩
  · intro i v s Q E hP hQ
    rcases i with _ | _ | i
    · simp at hP; subst hP; cases a <;> exact wpAny_of_eq (by rfl) hQ
    · simp at hP; subst hP; cases b <;> exact wpAny_of_eq (by rfl) hQ
    · simp at hP
  · intro h' tk' k'
    have kk : Ke h h' := fun b o q => k' b o (fun z => Nat.ne_of_lt (Heap.lt_size q) (List.mem_singleton.mp z)) (k _ _ q)
    have := H h' tk' kk (F.keeps kk) (news_ke N kk)
    simpa [List.range_succ, List.any] using this
end
end

section
theorem k_and {M : Model} {A : Around} {E : Value → Shared → Prop} {s : Shared} {env : Env} {Q : Value → Shared → Prop} {e₁ e₂ rest pos} (H : wpAny M A (eval e₁ env) (fun v s₁ => wpAny M A (truthy v) (fun c s₂ => if c = true then wpAny M A (eval (.BoolOp .And (e₂ :: rest) pos) env) Q E s₂ else Q v s₂) E s₁) E s) :
    wpAny M A (eval (.BoolOp .And (e₁ :: e₂ :: rest) pos) env) Q E s := BoolOp_and H
theorem k_and1 {M : Model} {A : Around} {E : Value → Shared → Prop} {s : Shared} {env : Env} {Q : Value → Shared → Prop} {e pos} (H : wpAny M A (eval e env) Q E s) : wpAny M A (eval (.BoolOp .And [e] pos) env) Q E s := H
theorem natz (n : Nat) : (((n : Nat) : Int) == 0) = (n == 0) := by rw [Bool.eq_iff_iff]; simp
section
variable {w : World} {A : Around} {E : Value → Shared → Prop} {gs : Array GenState} {dr : Drawn} {tk : Nat} {os : OsState} {h g : Heap} {L x : Addr} {mm : Str → Option Value} {news T : Ledger} {Q : Value → Shared → Prop} {t : Tok}
theorem ivl_call {lo hi n : Nat} {e : Bool} (B : Base w h) (hd : A.depth + 1 < recursionLimit) (hh : A.handled = none) (S : SRep T x (.oct lo hi e)) (hT : ∀ p ∈ T, h.get? p.1 = some p.2) (hlo : lo < 1000) (hhi : hi < 1000) (hn : n < 100000)
    (H : ∀ h' tk', Ke h h' → Q (.bool (fitsB lo hi e n)) ⟨h', gs, dr, tk', os⟩) : wpAny (model pw w) A (call (.ref 1553) [.ref x, .int n t]) Q E ⟨h, gs, dr, tk, os⟩ := by
  refine x_enterM B (by omega) (by rfl) (by rfl) (by rfl) (by rfl) (by rfl) (binds := [(Str.ofString "self", _), (Str.ofString "length", _)]) (fun S => by rfl) (locs (by rfl)) (by rfl) (by rfl) (by rfl) (by decide) ?_
  intro h₁ L tk' _ F N
  have hh' : (A.deeper (envOf (Str.ofString "Binary.is_valid_length") (fdS (mAt 18 3)) L 1553 (Value.ref 1552))).handled = none := hh
  show wpAny _ _ (execs (fdB (mAt 18 3)) _) _ _ _
  obtain ⟨es, t1, t2, I, hM, g1, g2, g3⟩ := S
  refine wpAny_execs_cons ?_
  refine wpAny_Return_some ?_
  repeat' tb_start
  have own : ∀ {A : Around} {E : Value → Shared → Prop} {Q : Value → Shared → Prop} {expr : Bool} {tk : Nat} {h₂ : Heap} {mm : Str → Option Value}, Fr h L h₂ mm → (∀ tk', Q (.int lo t1) ⟨h₂, gs, dr, tk', os⟩) → wpAny (model pw w) A (getAttr (.ref x) (Str.ofString "min_length") expr) Q E ⟨h₂, gs, dr, tk, os⟩ := fun F k => x_own F B I hT (by rfl) (by rfl) (attr := none) (by rfl) (by rfl) g1 (by rfl) k
  have own2 : ∀ {A : Around} {E : Value → Shared → Prop} {Q : Value → Shared → Prop} {expr : Bool} {tk : Nat} {h₂ : Heap} {mm : Str → Option Value}, Fr h L h₂ mm → (∀ tk', Q (.int hi t2) ⟨h₂, gs, dr, tk', os⟩) → wpAny (model pw w) A (getAttr (.ref x) (Str.ofString "max_length") expr) Q E ⟨h₂, gs, dr, tk, os⟩ := fun F k => x_own F B I hT (by rfl) (by rfl) (attr := none) (by rfl) (by rfl) g2 (by rfl) k
  have own3 : ∀ {A : Around} {E : Value → Shared → Prop} {Q : Value → Shared → Prop} {expr : Bool} {tk : Nat} {h₂ : Heap} {mm : Str → Option Value}, Fr h L h₂ mm → (∀ tk', Q (.bool e) ⟨h₂, gs, dr, tk', os⟩) → wpAny (model pw w) A (getAttr (.ref x) (Str.ofString "allow_empty") expr) Q E ⟨h₂, gs, dr, tk, os⟩ := fun F k => x_own F B I hT (by rfl) (by rfl) (attr := none) (by rfl) (by rfl) g3 (by rfl) k
  refine k_and ?_
  repeat' tb_start
  refine own F fun tk₂ => ?_
  repeat' tb_start
  refine le_int ?_
  repeat' tb_start
  · refine k_and1 ?_
    refine x_or ?_
    repeat' tb_start
    refine own2 F fun tk₃ => ?_
    repeat' tb_start
    refine own2 F fun tk₄ => ?_
    repeat' tb_start
    refine le_int ?_
    repeat' tb_start
    refine k_and ?_
    repeat' tb_start
    refine own3 F fun tk₅ => ?_
    repeat' tb_start
    · refine k_and1 ?_
      repeat' tb_start
      refine x_any2 F N hh' (N.get (.head _)) fun h' tk' k F' N' => ?_
      refine Eq.mp (congrArg (fun b => Q (.bool b) _) ?_) (H h' tk' F'.keep)
      (clear own own2 own3 H; (try simp only [natz]); (try subst_vars); rw [Bool.eq_iff_iff]; simp_all [fitsB] <;> omega)
    · refine x_any2 F N hh' (N.get (.head _)) fun h' tk' k F' N' => ?_
      refine Eq.mp (congrArg (fun b => Q (.bool b) _) ?_) (H h' tk' F'.keep)
      (clear own own2 own3 H; (try simp only [natz]); (try subst_vars); rw [Bool.eq_iff_iff]; simp_all [fitsB] <;> omega)
  · repeat' tb_start
    refine k_and ?_
    repeat' tb_start
    refine own3 F fun tk₅ => ?_
    repeat' tb_start
    · refine k_and1 ?_
      repeat' tb_start
      refine x_any2 F N hh' (N.get (.head _)) fun h' tk' k F' N' => ?_
      refine Eq.mp (congrArg (fun b => Q (.bool b) _) ?_) (H h' tk' F'.keep)
      (clear own own2 own3 H; (try simp only [natz]); (try subst_vars); rw [Bool.eq_iff_iff]; simp_all [fitsB] <;> omega)
    · refine x_any2 F N hh' (N.get (.head _)) fun h' tk' k F' N' => ?_
      refine Eq.mp (congrArg (fun b => Q (.bool b) _) ?_) (H h' tk' F'.keep)
      (clear own own2 own3 H; (try simp only [natz]); (try subst_vars); rw [Bool.eq_iff_iff]; simp_all [fitsB] <;> omega)
end
end

set_option hygiene true
inductive TrS : Tr → Prop
  | b {x} : x.length ≤ 1000 → TrS (.b x)
  | l {ts} : ts.length ≤ 1000 → (∀ t ∈ ts, TrS t) → TrS (.l ts)
def SKS : SK → Prop
  | .oct lo hi _ => lo < 1000 ∧ hi < 1000
  | .truth => True
  | .many m k => m ≤ 3 ∧ SKS k ∧ k.dep ≤ 1
  | .pair a b => SKS a ∧ SKS b ∧ a.dep ≤ 1 ∧ b.dep ≤ 1
/-- what deserialize of a kind answers -/
def DesCall (k : SK) : Prop := ∀ {w : World} {A : Around} {E : Value → Shared → Prop} {gs : Array GenState} {dr : Drawn} {tk : Nat} {os : OsState} {hb h : Heap} {outer : List Env} {x : Addr} {v : Value} {t : Tr} {T : Ledger} {Q : Value → Shared → Prop},
  Base w hb → Below A hb outer h → A.depth + 10 * k.dep + 10 < recursionLimit → A.units + 10 * k.dep + 60 < cLine → A.handled = none → SKS k → TrS t → SRep T x k → Rep T v t → (∀ p ∈ T, h.get? p.1 = some p.2) →
  (accS k t = true → ∀ h' tk' v' T', Ke h h' → New h h' T' → DRep T' v' k t → Q v' ⟨h', gs, dr, tk', os⟩) →
  (accS k t = false → ∀ h' e x tk', DesT k.dep (10 * k.dep + 3) h outer h' e x → E (.ref e) ⟨h', gs, dr, tk', os⟩) →
  wpAny (model pw w) A (call (.ref k.des) [.ref x, v]) Q E ⟨h, gs, dr, tk, os⟩
section
variable {w : World} {A : Around} {E : Value → Shared → Prop} {gs : Array GenState} {dr : Drawn} {tk : Nat} {os : OsState} {h g : Heap} {L a : Addr} {mm : Str → Option Value} {news : Ledger} {name : Str} {scope : Scope} {cd : Value}
/-- the call of a class by its name, up to its arguments -/
theorem x_cls {cn : Str} {C : Addr} {np pos : Pos} {e : Expr} {rest : List Expr} {Q : Value → Shared → Prop} (F : Fr g L h mm) (B : Base w g) (hv : globs.lookup cn = some (.ref C)) (hkp : keepIn (objs w.params) (.ref C) = true) (hd : (cn == ("__debug__" : Str)) = false) (hk : scope.kind = .function) (hl : scope.names.lookup cn = some .globalImplicit)
    (he : starEach (e :: rest) (envOf name scope L a cd) = (false, eval e (envOf name scope L a cd)) :: starEach rest (envOf name scope L a cd)) (hp : (backTo pos (starEach (e :: rest) (envOf name scope L a cd))).any (·.1) = false)
    (H : wpAny (model pw w) A (spliced (backTo pos (starEach (e :: rest) (envOf name scope L a cd)))) (fun vs s₁ => Base w s₁.heap ∧ wpAny (model pw w) A (call (.ref C) vs) Q E s₁) E ⟨h, gs, dr, tk, os⟩) :
    wpAny (model pw w) A (eval (.Call (.Name cn np) (e :: rest) [] pos) (envOf name scope L a cd)) Q E ⟨h, gs, dr, tk, os⟩ := by
  refine wpAny_Call_ofName (x_glob F B hv hk hl hd ?_)
  refine callWith_of (P := fun h => Base w h) (by rw [hp]; rfl) (fun h B => keeps_K (K := objs w.params) hkp h B.inK) ?_
  rw [he] at H ⊢
  exact evalArgs_plain (wpAny_mono H (fun vs s₁ h₁ => ⟨h₁.1, h₁.2⟩) fun _ _ x => x)
theorem sm1 {m : Str} (h : m.length ≤ 1000) : Sm 1 m := sm_of h
end
theorem x_raise138 {w : World} {A : Around} {E : Value → Shared → Prop} {env : Env} {p1 p2 pos : Pos} {es : List Expr} {ks : List Keyword} {Q : Flow → Shared → Prop} {s : Shared}
    (H : wpAny (model pw w) A (eval (.Call (.Name (Str.ofString "DeserializationError") p1) es ks p2) env) (fun v s₁ => ∃ e D ta, v = .ref e ∧ Base w s₁.heap ∧ s₁.heap.get? e = some { cls := .ref 138, dict := some D, data := .fields #[.ref ta, .none, .none, .none, .bool false, .none] } ∧ wpAny (model pw w) A (raiseNew (.ref e) : Sem Flow) Q E s₁) E s) :
    wpAny (model pw w) A (exec (.Raise (some (.Call (.Name (Str.ofString "DeserializationError") p1) es ks p2)) none pos) env) Q E s := x_raiseD (.inl rfl) H
theorem x_raise160 {w : World} {A : Around} {E : Value → Shared → Prop} {env : Env} {p1 p2 pos : Pos} {es : List Expr} {ks : List Keyword} {Q : Flow → Shared → Prop} {s : Shared}
    (H : wpAny (model pw w) A (eval (.Call (.Name (Str.ofString "ListDeserializationError") p1) es ks p2) env) (fun v s₁ => ∃ e D ta, v = .ref e ∧ Base w s₁.heap ∧ s₁.heap.get? e = some { cls := .ref 160, dict := some D, data := .fields #[.ref ta, .none, .none, .none, .bool false, .none] } ∧ wpAny (model pw w) A (raiseNew (.ref e) : Sem Flow) Q E s₁) E s) :
    wpAny (model pw w) A (exec (.Raise (some (.Call (.Name (Str.ofString "ListDeserializationError") p1) es ks p2)) none pos) env) Q E s := x_raiseD (.inr rfl) H
theorem x_ite_nt {P R : Prop} (h : R) : if (!true) = true then P else R := h
theorem x_ite_nf {P R : Prop} (h : P) : if (!false) = true then P else R := h
local macro_rules | `(tactic| tb_start) => `(tactic| first
  | (with_reducible refine' x_ite_nt ?_)
  | (with_reducible refine' x_ite_nf ?_)
  | (with_reducible refine' x_raise138 ?_)
  | (with_reducible refine' x_raise160 ?_))
theorem des_oct {lo hi : Nat} {e : Bool} : DesCall (.oct lo hi e) := by
  intro w A E gs dr tk os hb h outer x v t T Q B₀ K hd hu hh hs ht S R hT Hok Herr
  have B := base_below B₀ K
  show wpAny (model pw w) A (call (.ref 1567) [.ref x, v]) Q E _
  obtain ⟨es, t1, t2, I, hM, g1, g2, g3⟩ := id S
  have hd : A.depth + 10 < recursionLimit := by have : (SK.oct lo hi e).dep = 0 := rfl; omega
  refine x_enterM B (by omega) (by rfl) (by rfl) (by rfl) (by rfl) (by rfl) (binds := [(Str.ofString "self", _), (Str.ofString "serial", _)]) (fun S => by rfl) (locs (by rfl)) (by rfl) (by rfl) (by rfl) (by decide) ?_
  intro h₁ L tk' _ F N
  have hh' : (A.deeper (envOf (Str.ofString "Binary.deserialize") (fdS (mAt 18 5)) L 1567 (Value.ref 1566))).handled = none := hh
  show wpAny _ _ (execs (fdB (mAt 18 5)) _) _ _ _
  refine wpAny_execs_cons ?_
  refine wpAny_If ?_
  cases R with
  | @b o s =>
    have ho : o.length ≤ 1000 := by cases ht; assumption
    repeat' tb_start
    refine x_isi_bytes (B.keeps F.keep) (N.get (.head _)) fun tk2 => ?_
    repeat' tb_start
    refine x_meth F B I hT (by rfl) (f := 1553) (by rfl) (by rfl) hM.2.2.1 ?_
    refine callWith_K (h₀ := h) B.inK (by rfl) ?_
    repeat' tb_start
    refine ⟨(B.keeps F.keep).inK, ivl_call (B.keeps F.keep) (by show A.depth + 1 + 1 < _; omega) hh' S (fun p hp => F.keep _ _ (hT p hp)) hs.1 hs.2 (by omega) fun h₂ tk₂ k => ?_⟩
    replace N := news_ke N k
    replace F := F.keeps k
    repeat' tb_start
    · rename_i hf
      exact Hok hf _ _ _ [] F.keep New.nil (.oct hf)
    · refine x_cls F B (C := 138) (by rfl) (by rfl) (by decide) (by rfl) (by rfl) (by rfl) (by rfl) ?_
      repeat' tb_start
      refine ⟨B.keeps F.keep, des_newL (B.keeps F.keep) (by show A.depth + 1 + 1 < _; omega) fun h₂ e₂ ta D tk₃ M => ?_⟩
      refine des_leave K F B (by rfl) hh (.inl rfl) (n := 3) ?_ M fun h₃ x₃ X => Herr (by show fitsB lo hi e o.length = false; assumption) h₃ _ x₃ _ X
      exact sm_mono (sm_of (by decide +kernel)) (by decide)
  | l h1 h2 =>
    repeat' tb_start
    refine x_isi_l1 (B.keeps F.keep) (N.get (.head _)) (F.keep _ _ (hT _ h1)) fun tk2 => ?_
    repeat' tb_start
    refine x_cls F B (C := 138) (by rfl) (by rfl) (by decide) (by rfl) (by rfl) (by rfl) (by rfl) ?_
    repeat' tb_start
    refine ⟨B.keeps F.keep, des_newL (B.keeps F.keep) (by show A.depth + 1 + 1 < _; omega) fun h₂ e₂ ta D tk₃ M => ?_⟩
    refine des_leave K F B (by rfl) hh (.inl rfl) (n := 3) ?_ M fun h₃ x₃ X => Herr (by rfl) h₃ _ x₃ _ X
    exact sm_mono (sm_of (by decide +kernel)) (by decide)

section
theorem slot_bytes_eq_refl' : Slot "bytes" (cmpInfo .Eq).2.2 "bytes.__eq__" := FB.slot_bytes_eq
section
variable {prog : Program} {w : World} {A : Around} {E : Value → Shared → Prop} {gs : Array GenState} {dr : Drawn} {tk : Nat} {os : OsState} {h : Heap} {Q : Value → Shared → Prop}
/-- a list is no octets -/
theorem eq_list_bytes {a : Addr} {vs : List Value} {n : Nat} {b : Array UInt8} {t : Tok} (hu : A.units < cLine) (ha : h.get? a = some (lob vs n)) (H : Q (.bool false) ⟨h, gs, dr, tk, os⟩) :
    wpAny (model prog w) A (compareOp .Eq (.ref a) (.bytes b t)) Q E ⟨h, gs, dr, tk, os⟩ := by
  show wpAny _ A (richCompare .Eq _ _) Q E _
  have hT : (⟨h, gs, dr, tk, os⟩ : Shared).TypeIs (.ref a) "list" := ⟨_, ha, rfl⟩
  have hB : (⟨h, gs, dr, tk, os⟩ : Shared).TypeIs (.bytes b t) "bytes" := typeIs_bytes _ _ _
  have h1 := F.slot_list_eq
  have h2 := slot_bytes_eq_refl'
  rcases hi : cmpInfo CmpOp.Eq with ⟨sym, f, r⟩
  rw [hi] at h1 h2
  simp only [richCompare, hi, hT.oneThing_none]
  try with_reducible refine wpAny_holding ?_
  refine wpAny_bind (wpAny_cRoomFor hu ?_)
  refine wpAny_bind (wpAny_typeOf hT (wpAny_bind (wpAny_typeOf hB ?_)))
  simp only [show (Value.type "list" != Value.type "bytes") = true by decide, if_true]
  refine wpAny_bind (wpAny_of_eq F.sub_bytes_list ?_)
  simp only [Bool.false_eq_true, if_false, Bool.not_false, if_true]
  refine wpAny_bind (m := tryCompare (.ref a) _ (.bytes b t)) (wpAny_tryCompare_declines hT h1 (wpAny_call_entry h1 hT F.entry_list_eq ?_ (F.args_list_eq_2 _ _)))
  wp_walk
  refine wpAny_of_eq F.sub_bytes_list ?_
  wp_walk
  refine ⟨_, rfl, rfl, ?_⟩
  refine wpAny_bind (m := tryCompare (.bytes b t) _ (.ref a)) (wpAny_tryCompare_declines (typeIs_bytes _ _ _) h2 (wpAny_call_entry h2 (typeIs_bytes _ _ _) FB.entry_bytes_eq ?_ (FB.args_bytes_eq_2 _ _)))
  unfold Builtin.«bytes.__eq__»
  refine wpAny_bind (m := slotArgs "__eq__" 1 _) (wpAny_pure ?_)
  dsimp only
  refine wpAny_bind (wpAny_isInstance (b := false) hT (by rw [isSubtype_type]; kernel_rfl) ?_)
  wp_walk
  refine ⟨_, rfl, rfl, ?_⟩
  exact wpAny_bind (wpAny_rule (wpAny_bind (wpAny_of_eq (a := false) (by rfl) (wpAny_pure H))))
end
theorem des_truth : DesCall .truth := by
  intro w A E gs dr tk os hb h outer x v t T Q B₀ K hd hu hh hs ht S R hT Hok Herr
  have B := base_below B₀ K
  show wpAny (model pw w) A (call (.ref 1598) [.ref x, v]) Q E _
  have hd : A.depth + 10 < recursionLimit := by have : SK.truth.dep = 0 := rfl; omega
  have hu0 : A.units + 60 < cLine := by have : SK.truth.dep = 0 := rfl; omega
  refine x_enterM B (by omega) (by rfl) (by rfl) (by rfl) (by rfl) (by rfl) (binds := [(Str.ofString "self", _), (Str.ofString "serial", _)]) (fun S => by rfl) (locs (by rfl)) (by rfl) (by rfl) (by rfl) (by decide) ?_
  intro h₁ L tk' _ F N
  have hh' : (A.deeper (envOf (Str.ofString "Boolean.deserialize") (fdS (mAt 21 1)) L 1598 (Value.ref 1597))).handled = none := hh
  have hu' : (A.deeper (envOf (Str.ofString "Boolean.deserialize") (fdS (mAt 21 1)) L 1598 (Value.ref 1597))).units < cLine := by show A.units + 3 < cLine; omega
  show wpAny _ _ (execs (fdB (mAt 21 1)) _) _ _ _
  refine wpAny_execs_cons ?_
  refine wpAny_If ?_
  cases R with
  | @b o s =>
    repeat' tb_start
    · rename_i hf
      have : o = [] := by simpa using hf
      subst this
      exact Hok (by rfl) _ _ _ [] F.keep New.nil .ff
    · rename_i hf
      have : o = [1] := by simpa using hf
      subst this
      exact Hok (by rfl) _ _ _ [] F.keep New.nil .tt
    · refine x_cls F B (C := 138) (by rfl) (by rfl) (by decide) (by rfl) (by rfl) (by rfl) (by rfl) ?_
      repeat' tb_start
      refine ⟨B.keeps F.keep, des_newL (B.keeps F.keep) (by show A.depth + 1 + 1 < _; omega) fun h₂ e₂ ta D tk₃ M => ?_⟩
      refine des_leave K F B (by rfl) hh (.inl rfl) (n := 3) ?_ M fun h₃ x₃ X => Herr (by simp_all [accS]) h₃ _ x₃ _ X
      exact sm_mono (sm_of (by decide +kernel)) (by decide)
  | l h1 h2 =>
    have ha : ∀ {h₂ : Heap} {mm : Str → Option Value}, Fr h L h₂ mm → h₂.get? _ = some _ := fun F => F.keep _ _ (hT _ h1)
    repeat' tb_start
    refine eq_list_bytes hu' (ha F) ?_
    repeat' tb_start
    refine eq_list_bytes hu' (ha F) ?_
    repeat' tb_start
    refine x_cls F B (C := 138) (by rfl) (by rfl) (by decide) (by rfl) (by rfl) (by rfl) (by rfl) ?_
    repeat' tb_start
    refine ⟨B.keeps F.keep, des_newL (B.keeps F.keep) (by show A.depth + 1 + 1 < _; omega) fun h₂ e₂ ta D tk₃ M => ?_⟩
    refine des_leave K F B (by rfl) hh (.inl rfl) (n := 3) ?_ M fun h₃ x₃ X => Herr (by rfl) h₃ _ x₃ _ X
    exact sm_mono (sm_of (by decide +kernel)) (by decide)
end

section
section
variable {w : World} {A : Around} {E : Value → Shared → Prop} {gs : Array GenState} {dr : Drawn} {tk : Nat} {os : OsState} {h g : Heap} {L a : Addr} {mm : Str → Option Value} {news : Ledger} {name : Str} {scope : Scope} {cd : Value} {elts : List Expr} {kk : Nat} {tp : Pos} {body : List Stmt} {R : Result → Shared → Prop}
/-- what a turn of a loop leaves behind -/
def TurnPost (g : Heap) (L : Addr) (wr : List Addr) (own : Ledger) (gs : Array GenState) (dr : Drawn) (os : OsState) (Jn : (Str → Option Value) → Ledger → Prop) (R : Result → Shared → Prop) (f : Flow) (s₃ : Shared) : Prop := match f with
  | .next | .cont => ∃ m' news' h' tk', s₃ = ⟨h', gs, dr, tk', os⟩ ∧ Jn m' news' ∧ Fr g L h' m' ∧ News g L h' (own ++ news') ∧ ∀ p ∈ news', p.1 ∉ wr
  | .brk => R (.ok .next) s₃
  | .ret v => R (.ok (.ret v)) s₃
theorem turn_loop {I : Addr} {fp wr : List Addr} {n : Nat} {P Md : Nat → Value → Heap → Prop} {St : Nat → Heap → Prop} {target : Expr} (W : KTurns pw w A target I fp wr n P Md St) (F : Fr g L h mm) (N : News g L h news)
    (hLf : L ∉ fp) (hwr : ∀ b ∈ wr, g.get? b = none) (hnw : ∀ p ∈ news, p.1 ∉ wr) (hst : St 0 h) (hlive : ∀ i h, St i h → ∀ b ∈ wr, ∃ o, h.get? b = some o)
    (J : Nat → (Str → Option Value) → Ledger → Prop) (h0 : J 0 mm news)
    (turn : ∀ i v m news h tk own, i < n → P i v h → J i m news → (∀ p ∈ news, p.1 ∉ wr) → (∀ b ∈ wr, ∃ o, (b, o) ∈ own) → (∀ p ∈ own, p.1 ∈ fp) → Fr g L h m → News g L h (own ++ news) →
      wpAny (model pw w) A (assign target (envOf name scope L a cd) v) (fun _ s₂ => wpAny (model pw w) A (execs body (envOf name scope L a cd)) (TurnPost g L wr own gs dr os (J (i + 1)) R) (notedBy (model pw w) A (envOf name scope L a cd) fun e s' => R (.error e) s') s₂) (notedBy (model pw w) A (envOf name scope L a cd) fun e s' => R (.error e) s') ⟨h, gs, dr, tk, os⟩)
    (done : ∀ m' news' h' tk', J n m' news' → Fr g L h' m' → News g L h' news' → R (.ok .next) ⟨h', gs, dr, tk', os⟩) :
    codeAny (model pw w) A (.forLoop target (.ref I) body [] (envOf name scope L a cd)) R ⟨h, gs, dr, tk, os⟩ := by
  refine ktu_loop (s := ⟨h, gs, dr, tk, os⟩) (h₀ := g) (env := envOf name scope L a cd) W hLf hwr hnw hst F N J h0 ?_ fun h' tk' m' news' F' N' _ hJ => done m' news' h' tk' hJ F' N'
  intro i v m₁ news₁ h₁ tk₁ own hi hP hJ hnw' hown hget hall hst' F₁ N₁
  refine wpAny_mono (turn i v m₁ news₁ h₁ tk₁ own hi hP hJ hnw' (fun b hb => ?_) hown F₁ N₁) (fun _ s₂ h₂ => wpAny_mono h₂ (fun f s₃ h₃ => ?_) fun _ _ z => z) fun _ _ z => z
  · obtain ⟨o, ho⟩ := hlive _ _ hst' b hb
    exact ⟨o, hall b (W.sub b hb) (hwr b hb) o ho⟩
  · cases f with
    | next => obtain ⟨m', news', h', tk', rfl, q1, q2, q3, q4⟩ := h₃; exact LoopStepU.intro (s₁ := ⟨h₁, gs, dr, tk₁, os⟩) q2 q3 q4 q1
    | cont => obtain ⟨m', news', h', tk', rfl, q1, q2, q3, q4⟩ := h₃; exact LoopStepU.intro (s₁ := ⟨h₁, gs, dr, tk₁, os⟩) q2 q3 q4 q1
    | brk => exact h₃
    | ret v => exact h₃
/-- for i, x in enumerate(a list) -/
theorem x_enum_list {l : Addr} {vs : List Value} {n : Nat} (hh : A.handled = none) (F : Fr g L h mm) (N : News g L h news) (hl : h.get? l = some (lob vs n)) (hlL : l ≠ L)
    (J : Nat → (Str → Option Value) → Ledger → Prop) (h0 : J 0 mm news)
    (turn : ∀ i x t T m news h tk own wr, vs[i]? = some x → IsTup h T [.int (i : Nat) t, x].toArray → J i m news → (∀ p ∈ news, p.1 ∉ wr) → (∀ b ∈ wr, ∃ o, (b, o) ∈ own) → (∀ p ∈ own, p.1 ∈ wr ∨ p.1 = l) → Fr g L h m → News g L h (own ++ news) →
      wpAny (model pw w) A (assign (.Tuple elts kk tp) (envOf name scope L a cd) (.ref T)) (fun _ s₂ => wpAny (model pw w) A (execs body (envOf name scope L a cd)) (TurnPost g L wr own gs dr os (J (i + 1)) R) (notedBy (model pw w) A (envOf name scope L a cd) fun e s' => R (.error e) s') s₂) (notedBy (model pw w) A (envOf name scope L a cd) fun e s' => R (.error e) s') ⟨h, gs, dr, tk, os⟩)
    (done : ∀ m' news' h' tk', J vs.length m' news' → Fr g L h' m' → News g L h' news' → R (.ok .next) ⟨h', gs, dr, tk', os⟩) :
    wpAny (model pw w) A (call (.type "enumerate") [.ref l]) (fun xv s₁ => wpAny (model pw w) A (pyIter xv) (fun it s₂ => codeAny (model pw w) A (.forLoop (.Tuple elts kk tp) it body [] (envOf name scope L a cd)) R s₂) E s₁) E ⟨h, gs, dr, tk, os⟩ := by
  have hll := Heap.lt_size hl
  have hLl := F.ns.lt
  refine call_enumerate_list (s := ⟨h, gs, dr, tk, os⟩) (isl_of hl) fun h' he hit hsz hk => ?_
  refine wpAny_pyIter_enum he ?_
  have W := KTurns.ofWalksU (elts := elts) (k := kk) (pos := tp) (WalksT.toU (WalksT.enumerate (prog := pw) (w := w) hh (h.objs.size + 1) h.objs.size l (Nat.succ_ne_self _) (Nat.ne_of_lt (Nat.lt_succ_of_lt hll)) (Nat.ne_of_lt hll) vs.toArray))
  have new : ∀ b, h.objs.size ≤ b → g.get? b = none := fun b hb => by
    cases q : g.get? b with
    | none => rfl
    | some o => exact absurd (Heap.lt_size (F.keep _ _ q)) (Nat.not_lt.mpr hb)
  refine turn_loop W (F.keeps hk) (news_ke N hk) ?_ ?_ ?_ ⟨⟨_, he⟩, hit, (isl_of hl).at fun o q => hk _ _ q⟩ ?_ J h0 ?_ ?_
  · intro hm
    simp at hm
    rcases hm with z | z | z
    · rw [z] at hLl; exact absurd hLl (Nat.not_lt.mpr (Nat.le_succ _))
    · rw [z] at hLl; exact absurd hLl (Nat.lt_irrefl _)
    · exact hlL z.symm
  · intro b hb
    simp at hb
    rcases hb with rfl | rfl
    · exact new _ (Nat.le_succ _)
    · exact new _ (Nat.le_refl _)
  · intro p hp hm
    have hlt := Heap.lt_size (N p hp).1
    simp at hm
    rcases hm with z | z
    · rw [z] at hlt; exact absurd hlt (Nat.not_lt.mpr (Nat.le_succ _))
    · rw [z] at hlt; exact absurd hlt (Nat.lt_irrefl _)
  · rintro i h'' ⟨⟨old, q1⟩, ⟨o, q2, _⟩, _⟩ b hb
    simp at hb
    rcases hb with rfl | rfl
    · exact ⟨_, q1⟩
    · exact ⟨_, q2⟩
  · rintro i v m news h tk own hi ⟨T, vals, rfl, ⟨t, x, hx, rfl⟩, hT⟩ hJ hnw hown hof F' N'
    refine turn i x t T m news h tk own _ (by simpa using hx) hT hJ hnw hown (fun p hp => ?_) F' N'
    have := hof p hp
    simp at this ⊢
    rcases this with z | z | z
    · exact .inl (.inl z)
    · exact .inl (.inr z)
    · exact .inr z
  · intro m' news' h' tk' hJ F' N'
    exact done m' news' h' tk' (by simpa using hJ) F' N'
end
end

section
section
variable {w : World} {A : Around} {E : Value → Shared → Prop} {gs : Array GenState} {dr : Drawn} {tk : Nat} {os : OsState} {h : Heap} {Q : Value → Shared → Prop}
theorem isseq_bytes {x : List UInt8} {t : Tok} (B : Base w h) (hd : A.depth + 1 < recursionLimit) (H : ∀ h' tk', Ke h h' → Q (.bool false) ⟨h', gs, dr, tk', os⟩) : wpAny (model pw w) A (call (.ref 1621) [.bytes x.toArray t]) Q E ⟨h, gs, dr, tk, os⟩ := by
  refine x_enter B (by omega) (by rfl) (by rfl) (by rfl) (by rfl) (by rfl) (binds := [(Str.ofString "obj", _)]) (by rfl) (locs (by rfl)) (by rfl) (by rfl) (by rfl) (by decide) ?_
  intro h₁ L tk' _ F N
  show wpAny _ _ (execs (fdB (sAt 25)) _) _ _ _
  refine wpAny_execs_cons ?_
  refine wpAny_Return_some ?_
  repeat' tb_start
  exact kia_tup (s := ⟨_, gs, dr, _, os⟩) (K := objs w.params) (its := [.type "list", .type "tuple"]) kitx_bytes (B.keeps F.keep).inK trivial (N.get (.head _)) (by rfl) (by simp) (fun tk' => H _ tk' F.keep)
theorem isseq_list {a : Addr} {vs : List Value} {n : Nat} (B : Base w h) (hd : A.depth + 1 < recursionLimit) (ha : h.get? a = some (lob vs n)) (H : ∀ h' tk', Ke h h' → Q (.bool true) ⟨h', gs, dr, tk', os⟩) : wpAny (model pw w) A (call (.ref 1621) [.ref a]) Q E ⟨h, gs, dr, tk, os⟩ := by
  refine x_enter B (by omega) (by rfl) (by rfl) (by rfl) (by rfl) (by rfl) (binds := [(Str.ofString "obj", _)]) (by rfl) (locs (by rfl)) (by rfl) (by rfl) (by rfl) (by decide) ?_
  intro h₁ L tk' _ F N
  show wpAny _ _ (execs (fdB (sAt 25)) _) _ _ _
  refine wpAny_execs_cons ?_
  refine wpAny_Return_some ?_
  repeat' tb_start
  exact kia_tup (s := ⟨_, gs, dr, _, os⟩) (K := objs w.params) (its := [.type "list", .type "tuple"]) kitx_list (B.keeps F.keep).inK ⟨_, F.keep _ _ ha, rfl⟩ (N.get (.head _)) (by rfl) (by simp) (fun tk' => H _ tk' F.keep)
theorem isseq_tup {a : Addr} {vs : Array Value} {n : Nat} (B : Base w h) (hd : A.depth + 1 < recursionLimit) (ha : h.get? a = some { cls := .type "tuple", data := .seq vs n }) (H : ∀ h' tk', Ke h h' → Q (.bool true) ⟨h', gs, dr, tk', os⟩) : wpAny (model pw w) A (call (.ref 1621) [.ref a]) Q E ⟨h, gs, dr, tk, os⟩ := by
  refine x_enter B (by omega) (by rfl) (by rfl) (by rfl) (by rfl) (by rfl) (binds := [(Str.ofString "obj", _)]) (by rfl) (locs (by rfl)) (by rfl) (by rfl) (by rfl) (by decide) ?_
  intro h₁ L tk' _ F N
  show wpAny _ _ (execs (fdB (sAt 25)) _) _ _ _
  refine wpAny_execs_cons ?_
  refine wpAny_Return_some ?_
  repeat' tb_start
  exact kia_tup (s := ⟨_, gs, dr, _, os⟩) (K := objs w.params) (its := [.type "list", .type "tuple"]) kitx_tuple (B.keeps F.keep).inK ⟨_, F.keep _ _ ha, rfl⟩ (N.get (.head _)) (by rfl) (by simp) (fun tk' => H _ tk' F.keep)
end
section
variable {w : World} {A : Around} {E : Value → Shared → Prop} {gs : Array GenState} {dr : Drawn} {tk : Nat} {os : OsState} {h g : Heap} {L y : Addr} {mm : Str → Option Value} {T : Ledger}
theorem meth_des {k : SK} {pl : Sem Bool} {Q : Value × List Value → Shared → Prop} (F : Fr g L h mm) (B : Base w g) (S : SRep T y k) (hT : ∀ p ∈ T, g.get? p.1 = some p.2) (H : Q (.ref k.des, [.ref y]) ⟨h, gs, dr, tk, os⟩) :
    wpAny (model pw w) A (getMethod (.ref y) (Str.ofString "deserialize") pl) Q E ⟨h, gs, dr, tk, os⟩ := by
  cases k with
  | oct lo hi e => obtain ⟨es, t1, t2, I, hM, _⟩ := S; exact x_meth F B I hT (by rfl) (f := 1567) (by rfl) (by rfl) hM.2.1 H
  | truth => obtain ⟨es, I, hM⟩ := S; exact x_meth F B I hT (by rfl) (f := 1598) (by rfl) (by rfl) hM.2.1 H
  | many m k => obtain ⟨es, y, t, I, hM, _⟩ := S; exact x_meth F B I hT (by rfl) (f := 1693) (by rfl) (by rfl) hM.2.1 H
  | pair a b => obtain ⟨es, l, n, y, z, I, hM, _⟩ := S; exact x_meth F B I hT (by rfl) (f := 1657) (by rfl) (by rfl) hM.2.1 H
theorem keep_des (k : SK) : keepIn (objs w.params) (.ref k.des) = true := by cases k <;> rfl
theorem meth_ser {k : SK} {pl : Sem Bool} {Q : Value × List Value → Shared → Prop} (F : Fr g L h mm) (B : Base w g) (S : SRep T y k) (hT : ∀ p ∈ T, g.get? p.1 = some p.2) (H : Q (.ref k.ser, [.ref y]) ⟨h, gs, dr, tk, os⟩) :
    wpAny (model pw w) A (getMethod (.ref y) (Str.ofString "serialize") pl) Q E ⟨h, gs, dr, tk, os⟩ := by
  cases k with
  | oct lo hi e => obtain ⟨es, t1, t2, I, hM, _⟩ := S; exact x_meth F B I hT (by rfl) (f := 1560) (by rfl) (by rfl) hM.1 H
  | truth => obtain ⟨es, I, hM⟩ := S; exact x_meth F B I hT (by rfl) (f := 1591) (by rfl) (by rfl) hM.1 H
  | many m k => obtain ⟨es, y, t, I, hM, _⟩ := S; exact x_meth F B I hT (by rfl) (f := 1686) (by rfl) (by rfl) hM.1 H
  | pair a b => obtain ⟨es, l, n, y, z, I, hM, _⟩ := S; exact x_meth F B I hT (by rfl) (f := 1650) (by rfl) (by rfl) hM.1 H
theorem keep_ser (k : SK) : keepIn (objs w.params) (.ref k.ser) = true := by cases k <;> rfl
end
theorem accAll_get {k : SK} : ∀ {ts : List Tr} {i : Nat} {t : Tr}, ts[i]? = some t → accS k t = false → accAll k ts = false
  | [], i, t, e, _ => by simp at e
  | u :: ts, 0, t, e, h => by simp at e; subst e; rw [accAll, h, Bool.false_and]
  | u :: ts, i + 1, t, e, h => by rw [accAll, accAll_get (by simpa using e) h, Bool.and_false]
theorem accAll_true {k : SK} : ∀ {ts : List Tr}, (∀ (i : Nat) (t : Tr), ts[i]? = some t → accS k t = true) → accAll k ts = true
  | [], _ => rfl
  | u :: ts, h => by rw [accAll, h 0 u rfl, accAll_true fun i t e => h (i + 1) t (by simpa using e)]; rfl
def manyLoop : List Stmt := match (fdB (mAt 27 2))[2]? with | some (Stmt.For _ _ b _ _) => b | _ => []
theorem des_many {m : Nat} {k : SK} (ih : DesCall k) : DesCall (.many m k) := by
  intro w A E gs dr tk os hb h outer x v t T Q B₀ K hd hu hh hs ht S R hT Hok Herr
  have B := base_below B₀ K
  show wpAny (model pw w) A (call (.ref 1693) [.ref x, v]) Q E _
  have hdep : (SK.many m k).dep = k.dep + 1 := rfl
  rw [hdep] at hd hu
  obtain ⟨es, y, tm, I, hM, g1, g2, S1⟩ := S
  refine x_enterM B (by omega) (by rfl) (by rfl) (by rfl) (by rfl) (by rfl) (binds := [(Str.ofString "self", _), (Str.ofString "serial", _)]) (fun S => by rfl) (locs (by rfl)) (by rfl) (by rfl) (by rfl) (by decide) ?_
  intro h₁ L tk' hL F N
  have hh' : (A.deeper (envOf (Str.ofString "CountableList.deserialize") (fdS (mAt 27 2)) L 1693 (Value.ref 1692))).handled = none := hh
  have hu' : (A.deeper (envOf (Str.ofString "CountableList.deserialize") (fdS (mAt 27 2)) L 1693 (Value.ref 1692))).units = A.units + 3 := rfl
  have hdd : (A.deeper (envOf (Str.ofString "CountableList.deserialize") (fdS (mAt 27 2)) L 1693 (Value.ref 1692))).depth = A.depth + 1 := rfl
  show wpAny _ _ (execs (fdB (mAt 27 2)) _) _ _ _
  refine wpAny_execs_cons ?_
  refine wpAny_If ?_
  cases R with
  | @b o s =>
    repeat' tb_start
    refine isseq_bytes (B.keeps F.keep) (by rw [hdd]; omega) fun h₂ tk₂ k₂ => ?_
    replace N := news_ke N k₂
    replace F := F.keeps k₂
    repeat' tb_start
    refine ldes_new (B.keeps F.keep) (by rw [hdd]; omega) (fun S e => by rfl) (by decide) (short_of (sm_of (by decide +kernel)) (by decide)) (by simp) fun h₃ e₃ ta D tk₃ M => ?_
    refine des_leave K F B (by rfl) hh (.inr rfl) (n := 10 * (k.dep + 1) + 3) ?_ M fun h₄ x₄ X => Herr (by rfl) h₄ _ x₄ _ X
    exact sm_mono (sm_of (by decide +kernel)) (by omega)
  | @l a vs n ts h1 h2 =>
    have hgl := hT _ h1
    repeat' tb_start
    refine isseq_list (B.keeps F.keep) (by rw [hdd]; omega) (F.keep _ _ hgl) fun h₂ tk₂ k₂ => ?_
    replace N := news_ke N k₂
    replace F := F.keeps k₂
    repeat' tb_start
    rename_i uD _ _ _
    refine wpAny_For ?_ (by intro x; rfl)
    repeat' tb_start
    refine x_enum_list hh' F N (F.keep _ _ hgl) ?_ (fun i mm nw => ∃ (ρ : List (Str × Value)) (ws : List Value) (nD : Nat) (T2 : Ledger), mm = look ([(Str.ofString "found", Value.ref uD), (Str.ofString "self", .ref x), (Str.ofString "serial", .ref a)] ++ ρ) ∧ nw = (uD, lob ws nD) :: T2 ∧ (∀ p ∈ T2, p.1 ≠ uD) ∧ ws.length = i ∧ i ≤ ts.length ∧ (m < 3 → i ≤ m) ∧ ∀ (j : Nat) (v : Value) (t : Tr), ws[j]? = some v → ts[j]? = some t → accS k t = true ∧ DRep T2 v k t)
      ?_ ?_ ?_
    · exact Nat.ne_of_lt (hL ▸ Heap.lt_size hgl)
    · exact ⟨_, [], 0, [], (look_front (Has.all (by tb_rel))).symm, rfl, off_nil, rfl, Nat.zero_le _, fun _ => Nat.zero_le _, by simp⟩
    · clear F N
      rintro i vi ti Tu m' nw h₅ tk₅ own wr hvi hTu ⟨ρ, ws, nD, T2, rfl, rfl, hoff, hwl, hil, him, hws⟩ hnw hlive hof F N
      refine x_assign_tup F N hh' hTu (by rfl) (by rfl) fun h₆ F₆ N₆ => ?_
      clear F N
      have F := F₆
      have N := N₆
      clear F₆ N₆
      refine assignInOrder_cons ?_
      repeat' tb_start
      refine assignInOrder_cons ?_
      repeat' tb_start
      refine assignInOrder_nil ?_
      have omax : ∀ {A : Around} {E : Value → Shared → Prop} {Q : Value → Shared → Prop} {expr : Bool} {tk : Nat} {h₂ : Heap} {mm : Str → Option Value}, Fr h L h₂ mm → (∀ tk', Q (maxV m tm) ⟨h₂, gs, dr, tk', os⟩) → wpAny (model pw w) A (getAttr (.ref x) (Str.ofString "max_length") expr) Q E ⟨h₂, gs, dr, tk, os⟩ := fun F k => x_own F B I hT (by rfl) (by rfl) (attr := none) (by rfl) (by rfl) g2 (by unfold maxV; split <;> rfl) k
      have tryP : ∀ {RQ : Flow → Shared → Prop} {h₇ : Heap} {tk₇ : Nat}, ¬ (m < 3 ∧ m ≤ i) → Fr h L h₇ (look ((Str.ofString "element", vi) :: (Str.ofString "index", Value.int i ti) :: ([(Str.ofString "found", Value.ref uD), (Str.ofString "self", .ref x), (Str.ofString "serial", .ref a)] ++ ρ))) → News h L h₇ (own ++ (uD, lob ws nD) :: T2) →
          wpAny (model pw w) (A.deeper (envOf (Str.ofString "CountableList.deserialize") (fdS (mAt 27 2)) L 1693 (Value.ref 1692))) (execs (manyLoop.drop 1) (envOf (Str.ofString "CountableList.deserialize") (fdS (mAt 27 2)) L 1693 (Value.ref 1692))) (TurnPost h L wr own gs dr os (fun mm nw => ∃ (ρ : List (Str × Value)) (ws : List Value) (nD : Nat) (T2 : Ledger), mm = look ([(Str.ofString "found", Value.ref uD), (Str.ofString "self", .ref x), (Str.ofString "serial", .ref a)] ++ ρ) ∧ nw = (uD, lob ws nD) :: T2 ∧ (∀ p ∈ T2, p.1 ≠ uD) ∧ ws.length = i + 1 ∧ i + 1 ≤ ts.length ∧ (m < 3 → i + 1 ≤ m) ∧ ∀ (j : Nat) (v : Value) (t : Tr), ws[j]? = some v → ts[j]? = some t → accS k t = true ∧ DRep T2 v k t) (fun r s' => match r with | .ok f => RQ f s' | .error e => cameBackBy (model pw w) (A.deeper (envOf (Str.ofString "CountableList.deserialize") (fdS (mAt 27 2)) L 1693 (Value.ref 1692))) (envOf (Str.ofString "CountableList.deserialize") (fdS (mAt 27 2)) L 1693 (Value.ref 1692)) (fun e s' => wpAny (model pw w) (A.deeper (envOf (Str.ofString "CountableList.deserialize") (fdS (mAt 27 2)) L 1693 (Value.ref 1692))) (leaving (envOf (Str.ofString "CountableList.deserialize") (fdS (mAt 27 2)) L 1693 (Value.ref 1692)) e) (fun _ s'' => E e s'') (fun e' s'' => E e' s'') s') e s'))
            (notedBy (model pw w) (A.deeper (envOf (Str.ofString "CountableList.deserialize") (fdS (mAt 27 2)) L 1693 (Value.ref 1692))) (envOf (Str.ofString "CountableList.deserialize") (fdS (mAt 27 2)) L 1693 (Value.ref 1692)) (fun e s' => cameBackBy (model pw w) (A.deeper (envOf (Str.ofString "CountableList.deserialize") (fdS (mAt 27 2)) L 1693 (Value.ref 1692))) (envOf (Str.ofString "CountableList.deserialize") (fdS (mAt 27 2)) L 1693 (Value.ref 1692)) (fun e s' =>
      wpAny (model pw w) (A.deeper (envOf (Str.ofString "CountableList.deserialize") (fdS (mAt 27 2)) L 1693 (Value.ref 1692))) (leaving (envOf (Str.ofString "CountableList.deserialize") (fdS (mAt 27 2)) L 1693 (Value.ref 1692)) e) (fun _ s'' => E e s'') (fun e' s'' => E e' s'') s') e s')) ⟨h₇, gs, dr, tk₇, os⟩ := by
        clear F N
        intro RQ h₇ tk₇ hcm F N
        refine wpAny_execs_cons ?_
        refine wpAny_Try_except ?_
        repeat' tb_start
        refine x_own F B I hT (by rfl) (by rfl) (attr := none) (by rfl) (by rfl) g1 (by rfl) fun tk₈ => ?_
        refine meth_des F B S1 hT ?_
        refine callWith_K (h₀ := h) B.inK (keep_des k) ?_
        repeat' tb_start
        refine ⟨(B.keeps F.keep).inK, ?_⟩
        obtain ⟨ti', hti, Ri⟩ := h2.get i vi hvi
        have hts : ts.length ≤ 1000 := by cases ht; assumption
        have htt : TrS ti' := by cases ht with | l _ q => exact q _ (List.mem_of_getElem? hti)
        have hilt : i < ts.length := (List.getElem?_eq_some_iff.mp hti).1
        refine ih B₀ (K.push F rfl) (by rw [hdd]; omega) (by rw [hu']; omega) hh' hs.2.1 htt S1 Ri (fun p hp => F.keep _ _ (hT p hp)) (fun hacc h₈ tk₈ v₈ T₈ k₈ X₈ D₈ => ?_) (fun hacc h₈ e₈ x₈ tk₈ X₈ => ?_)
        · have N₆ := news_adds F N k₈ X₈
          have F₆ := F.keeps k₈
          have gU := (N (uD, lob ws nD) (List.mem_append_right _ (.head _))).1
          have gW : ∀ b ∈ wr, ∃ o, h₇.get? b = some o := fun b hb => by
            obtain ⟨o, ho⟩ := hlive b hb
            exact ⟨o, (N _ (List.mem_append_left _ ho)).1⟩
          clear F N
          have F := F₆
          have N := N₆
          clear F₆ N₆
          replace N := news_sub (T := own ++ (uD, lob ws nD) :: (T₈ ++ T2)) N (fun p hp => by
            rcases List.mem_append.mp hp with hp | hp
            · tb_rel
            · rcases List.mem_cons.mp hp with rfl | hp
              · tb_rel
              · rcases List.mem_append.mp hp with hp | hp
                · tb_rel
                · tb_rel)
          have hoU : ∀ p ∈ own, p.1 ≠ uD := fun p hp e => by
            rcases hof p hp with q | q
            · exact hnw (uD, lob ws nD) (.head _) (by rw [← e]; exact q)
            · have hgu := hgl
              rw [← q, e] at hgu
              rw [(N (uD, lob ws nD) (List.mem_append_right _ (.head _))).2.2] at hgu
              cases hgu
          repeat' tb_start
          refine x_append F N (by tb_rel) (upd_app hoU (.head (off_app (X₈.off gU) hoff))) (by omega) fun h₇ F₇ N₇ => ?_
          clear F N
          have F := F₇
          have N := N₇
          clear F₇ N₇
          repeat' tb_start
          refine ⟨_, _, _, _, rfl, ⟨_, ws ++ [v₈], nD + 1, T₈ ++ T2, (look_front (Has.all (by tb_rel))).symm, rfl, off_app (X₈.off gU) hoff, by rw [List.length_append, hwl]; rfl, hilt, fun z => by omega, ?_⟩, F, N, ?_⟩
          · intro j v t hj htj
            rw [List.getElem?_append] at hj
            split at hj
            · obtain ⟨q1, q2⟩ := hws j v t hj htj
              exact ⟨q1, q2.mono fun p hp => List.mem_append_right _ hp⟩
            · rename_i hlt
              have : j = i := by
                have := (List.getElem?_eq_some_iff.mp hj).1
                simp at this
                omega
              subst this
              rw [hti] at htj
              cases htj
              rw [hwl, Nat.sub_self] at hj
              cases hj
              exact ⟨hacc, D₈.mono fun p hp => List.mem_append_left _ hp⟩
          · intro p hp
            rcases List.mem_cons.mp hp with rfl | hp
            · exact hnw (uD, lob ws nD) (.head _)
            · rcases List.mem_append.mp hp with hp | hp
              · intro hw
                obtain ⟨o, ho⟩ := gW _ hw
                rw [(X₈ p hp).2] at ho
                cases ho
              · exact hnw p (.tail _ hp)
        · have hk1 := hs.2.2
          have e10 : 10 * k.dep + 3 + 10 = 10 * (k.dep + 1) + 3 := by omega
          refine des_handler B₀ K F N (by rfl) (by rfl) (by omega) (by omega) X₈ hs.2.2 (by omega) (by rfl) (by rfl) (by rfl) (by rfl) (by rfl) (by rfl) (by omega) (by decide) (by decide) (by decide) (by decide) fun h₉ e₉ x₉ tk₉ X₉ => Herr ?_ h₉ e₉ x₉ tk₉ (e10 ▸ X₉)
          show (decide (m < 3 → ts.length ≤ m) && accAll k ts) = false
          rw [accAll_get hti hacc, Bool.and_false]
      refine wpAny_execs_cons ?_
      refine wpAny_If (wpAny_mono (Q := fun c s => (c = true ↔ (m < 3 ∧ m ≤ i)) ∧ ∃ h₉ tk, s = ⟨h₉, gs, dr, tk, os⟩ ∧ Fr h L h₉ (look ((Str.ofString "element", vi) :: (Str.ofString "index", Value.int i ti) :: ([(Str.ofString "found", Value.ref uD), (Str.ofString "self", .ref x), (Str.ofString "serial", .ref a)] ++ ρ))) ∧ News h L h₉ (own ++ (uD, lob ws nD) :: T2)) ?_ ?_ fun _ _ z => z)
      · repeat' tb_start
        refine omax F fun tk₆ => ?_
        by_cases hm : m < 3
        · rw [show maxV m tm = .int m tm from if_pos hm]
          repeat' tb_start
          refine isnot_none_gen ?_
          rw [show (!(Value.int (m : Nat) tm == Value.none)) = true from by rfl]
          repeat' tb_start
          refine omax F fun tk₆ => ?_
          rw [show maxV m tm = .int m tm from if_pos hm]
          repeat' tb_start
          · refine ⟨⟨fun _ => ⟨hm, ?_⟩, fun _ => rfl⟩, _, _, rfl, F, N⟩
            rename_i hge
            simp at hge
            omega
          · refine ⟨⟨(fun z => by cases z), fun z => ?_⟩, _, _, rfl, F, N⟩
            rename_i hge
            simp at hge
            omega
        · rw [show maxV m tm = .none from if_neg hm]
          repeat' tb_start
          refine isnot_none_gen ?_
          rw [show (!(Value.none == Value.none)) = false from by rfl]
          repeat' tb_start
          exact ⟨⟨(fun z => by cases z), fun z => absurd z.1 hm⟩, _, _, rfl, F, N⟩
      · clear F N
        rintro c _ ⟨hc, h₉, tk₆, rfl, F, N⟩
        by_cases hcm : m < 3 ∧ m ≤ i
        · obtain rfl : c = true := hc.mpr hcm
          refine x_ite_t ?_
          repeat' tb_start
          refine omax F fun tk₆ => ?_
          rw [show maxV m tm = .int m tm from if_pos hcm.1]
          repeat' tb_start
          have s0 : Sm 0 Str.empty := by unfold Sm; decide
          have s1 : Sm 1 (Str.ofString "Too many elements (more than ") := sm_of (by decide +kernel)
          have s3 : Sm 1 (Str.ofString ")") := sm_of (by decide +kernel)
          have s2 := sm_int (i := (m : Nat)) (by omega)
          have sm := sm_app (sm_app (sm_app s0 s1) s2) s3
          refine ldes_new (B.keeps F.keep) (by rw [hdd]; omega) (fun S e => by rfl) ?_ (short_of sm (by decide)) (by simp) fun h₃ e₃ ta D tk₃ M => ?_
          · rw [str_len_app]
            have : (Str.ofString ")").length = 1 := by decide +kernel
            omega
          refine des_loop K F B (by rfl) hh (.inr rfl) (n := 10 * (k.dep + 1) + 3) (sm_mono sm (by omega)) M fun h₄ x₄ X => Herr ?_ h₄ _ x₄ _ X
          have q1 := (List.getElem?_eq_some_iff.mp hvi).1
          rw [h2.length] at q1
          show (decide (m < 3 → ts.length ≤ m) && accAll k ts) = false
          rw [decide_eq_false (fun z => by have := z hcm.1; omega), Bool.false_and]
        · obtain rfl : c = false := by cases c with | false => rfl | true => exact absurd (hc.mp rfl) hcm
          refine x_ite_f ?_
          refine wpAny_execs_nil ?_
          exact tryP hcm F N
    · clear F N
      rintro m' nw h₅ tk₅ ⟨ρ, ws, nD, T2, rfl, rfl, hoff, hwl, hil, him, hws⟩ F N
      repeat' tb_start
      have hts : ts.length ≤ 1000 := by cases ht; assumption
      have hvl := h2.length
      refine kde_tupleOf (s := ⟨_, gs, dr, _, os⟩) (zs := ws) F N (isl_of (N.get (.head _))) (by simp; omega) (by simp) fun D h₆ F₆ N₆ _ => ?_
      refine Hok ?_ h₆ _ _ ((D, { cls := .type "tuple", data := .seq ws.toArray }) :: T2) F₆.keep (New.sub (New.of_news N₆) fun p hp => ?_) (.many (.head _) (fun z => by have := him z; omega) (by simp; omega) fun i v t hv' ht' => (hws i v t (by simpa using hv') ht').2.mono fun p hp => .tail _ hp)
      · show (decide (m < 3 → ts.length ≤ m) && accAll k ts) = true
        rw [decide_eq_true (fun z => by have := him z; omega), Bool.true_and]
        refine accAll_true fun i t ht' => ?_
        have hi := (List.getElem?_eq_some_iff.mp ht').1
        obtain ⟨v, hv'⟩ : ∃ v, ws[i]? = some v := ⟨_, List.getElem?_eq_getElem (by omega)⟩
        exact (hws i v t hv' ht').1
      · rcases List.mem_cons.mp hp with rfl | hp
        · exact .head _
        · exact .tail _ (.tail _ hp)
end

section
section
open Builtin Builtin.Str
def ModLens (n m : Int) (tn tm t : Tok) (b : Addr) : Prop := ∃ (X' T : PySem.Str), PySem.Str.ofString "Deserializing list length (%d) does not match sedes (%d)" = X' ∧ Sm 5 T ∧ T.length ≠ 0 ∧
    Meets («str.__mod__» ⟨[.str X' t, .ref b], []⟩) (fun _ R s => IsTup s.heap b #[.int n tn, .int m tm] ∧ ∀ t' k, R (.ok (.ret (.str T t'))) { s with toks := k })
theorem modLens_of {n m : Int} {tn tm t : Tok} {b : Addr} {X' T : PySem.Str} (h1 : PySem.Str.ofString "Deserializing list length (%d) does not match sedes (%d)" = X')
    (hm : Meets («str.__mod__» ⟨[.str X' t, .ref b], []⟩) (fun _ R s => IsTup s.heap b #[.int n tn, .int m tm] ∧ ∀ t' k, R (.ok (.ret (.str T t'))) { s with toks := k })) (hs : Sm 5 T) (hne : T.length ≠ 0) : ModLens n m tn tm t b := ⟨X', T, h1, hs, hne, hm⟩
theorem meets_lens {n m : Int} (hn0 : 0 ≤ n) (hn1 : n < 10 ^ 10) (hm0 : 0 ≤ m) (hm1 : m < 10 ^ 10) {tn tm t : Tok} {b : Addr} : ModLens n m tn tm t b := by
  refine' modLens_of ?kptF ?kptm ?sm ?ne
  case kptF => kpt_eq
  case kptm => kpt_run
  case sm => exact sm_app (sm_app (sm_app (sm_app (sm_of (by decide +kernel)) (sm_int (by omega))) (sm_of (by decide +kernel))) (sm_int (by omega))) (sm_of (by decide +kernel))
  case ne =>
    rw [str_len_app]
    have : (Str.ofString ")").length = 1 := by decide +kernel
    omega
end
section
variable {w : World} {A : Around} {E : Value → Shared → Prop} {gs : Array GenState} {dr : Drawn} {tk : Nat} {os : OsState} {h g : Heap} {L b : Addr} {news : Ledger} {Q : Value → Shared → Prop} {n m : Int} {tn tm t : Tok}
theorem x_modlens (N : News g L h news) (hb : (b, tob [.int n tn, .int m tm]) ∈ news) (hn0 : 0 ≤ n) (hn1 : n < 10 ^ 10) (hm0 : 0 ≤ m) (hm1 : m < 10 ^ 10) (H : ∀ T t' k, Sm 5 T → T.length ≠ 0 → Q (.str T t') ⟨h, gs, dr, k, os⟩) :
    wpAny (model pw w) A (binaryOp .Mod (.str (Str.ofString "Deserializing list length (%d) does not match sedes (%d)") t) (.ref b)) Q E ⟨h, gs, dr, tk, os⟩ := by
  obtain ⟨X', T, h1, h2, h3, h4⟩ := meets_lens (tn := tn) (tm := tm) (t := t) (b := b) hn0 hn1 hm0 hm1
  exact KPt.mod_tuple (s := ⟨h, gs, dr, tk, os⟩) (its := #[.int n tn, .int m tm]) (n := 0) N hb h1 h4 fun t' k => H T t' k h2 h3
/-- the length of a list's reader -/
theorem slen_call {x : Addr} {p q : SK} {T : Ledger} (B : Base w h) (hd : A.depth + 1 < recursionLimit) (S : SRep T x (.pair p q)) (hT : ∀ p ∈ T, h.get? p.1 = some p.2)
    (H : ∀ h' t' tk', Ke h h' → Q (.int 2 t') ⟨h', gs, dr, tk', os⟩) : wpAny (model pw w) A (call (.ref 1643) [.ref x]) Q E ⟨h, gs, dr, tk, os⟩ := by
  refine x_enterM B (by omega) (by rfl) (by rfl) (by rfl) (by rfl) (by rfl) (binds := [(Str.ofString "self", _)]) (fun S => by rfl) (locs (by rfl)) (by rfl) (by rfl) (by rfl) (by decide) ?_
  intro h₁ L tk' _ F N
  show wpAny _ _ (execs (fdB (mAt 26 1)) _) _ _ _
  obtain ⟨es, l, n, y, z, I, hM, g1, g2, gl, _⟩ := S
  refine wpAny_execs_cons ?_
  refine wpAny_Return_some ?_
  repeat' tb_start
  refine x_own F B I hT (by rfl) (by rfl) (attr := none) (by rfl) (by rfl) g1 (by rfl) fun tk₂ => ?_
  repeat' tb_start
  exact x_lenl (F.keep _ _ (hT _ gl)) (by simp) fun t' tk' => H _ t' tk' F.keep
/-- len(self) -/
theorem slen {x : Addr} {p q : SK} {T : Ledger} {mm : Str → Option Value} (F : Fr g L h mm) (B : Base w g) (hd : A.depth + 1 < recursionLimit) (S : SRep T x (.pair p q)) (hT : ∀ p ∈ T, g.get? p.1 = some p.2)
    (H : ∀ h' t' tk', Ke h h' → Q (.int 2 t') ⟨h', gs, dr, tk', os⟩) : wpAny (model pw w) A (call (.builtin "len") [.ref x]) Q E ⟨h, gs, dr, tk, os⟩ := by
  obtain ⟨es, l, n, y, z, I, hM, g1, g2, gl, r⟩ := id S
  obtain ⟨dx, n', I'⟩ := inst_at (h := h) I fun p hp => F.keep _ _ (hT p hp)
  refine len_K (s := ⟨h, gs, dr, tk, os⟩) (K := objs w.params) F B.inK I' (f := 1643) (by rfl) (by rfl) ?_
  refine slen_call (B.keeps F.keep) hd S (fun p hp => F.keep _ _ (hT p hp)) fun h' t' tk' k => ?_
  exact ⟨by decide, H h' _ _ k⟩
end
end

section
structure ZA (z TI TO i1 i2 : Addr) (fp1 fp2 : List Addr) : Prop where
  zT : TO ≠ z
  TIz : TI ≠ z
  TITO : TI ≠ TO
  TI1 : TI ≠ i1
  TI2 : TI ≠ i2
  z1 : z ∉ fp1
  z2 : z ∉ fp2
  t1 : TO ∉ fp1
  t2 : TO ∉ fp2
  x12 : i1 ∉ fp2
  x21 : i2 ∉ fp1
  m1 : i1 ∈ fp1
  m2 : i2 ∈ fp2
abbrev IsZ (h : Heap) (z TI TO : Addr) (f0 : Value) (f1 : Bool) : Prop :=
  h.get? z = some { cls := .type "zip", dict := none, data := .fields #[f0, .bool f1, .bool false, .ref TI, .ref TO], slots := #[] }
def FOk (f0 : Value) : Prop := f0 = .none ∨ ∃ T : Addr, f0 = rawInt T
/-- a zip of two that draw alike, at k -/
def ZSt (z TI TO i1 i2 : Addr) (St1 St2 : Nat → Heap → Prop) (k : Nat) (h : Heap) : Prop := (∃ f0 f1, FOk f0 ∧ IsZ h z TI TO f0 f1) ∧ IsPair h TI (.ref i1) (.ref i2) ∧ (∃ a b, IsPair h TO a b) ∧ St1 k h ∧ St2 k h
section
variable {prog : Program} {w : World} {A : Around} {E : Value → Shared → Prop} {gs : Array GenState} {dr : Drawn} {tk : Nat} {os : OsState} {h : Heap} {z TI TO i1 i2 : Addr} {fp1 fp2 : List Addr} {n k : Nat} {P1 P2 : Nat → Value → Prop} {St1 St2 : Nat → Heap → Prop}
theorem alive_or {a : Addr} {s : Shared} {Q : Option Obj → Shared → Prop} (h : Q (s.heap.get? a) s) : wpAny (model prog w) A (loadIfAlive a) Q E s := by
  exact fun _ _ _ => h
theorem own_free {f0 : Value} {f1 : Bool} (hf : FOk f0) (hz : IsZ h z TI TO f0 f1) {Q : Bool → Shared → Prop}
    (H : ∀ b h' f1', IsZ h' z TI TO f0 f1' → Heap.SameBut z h h' → Q b ⟨h', gs, dr, tk, os⟩) : wpAny (model prog w) A (Builtin.SmallTypes.ownedTupleIsFree (.ref z)) Q E ⟨h, gs, dr, tk, os⟩ := by
  have same : Heap.SameBut z h h := ⟨rfl, fun _ _ => rfl⟩
  unfold Builtin.SmallTypes.ownedTupleIsFree
  rcases hf with rfl | ⟨T, rfl⟩
  · exact wpAny_bind (wpAny_field hz rfl (x := .none) rfl (wpAny_pure (H _ _ _ hz same)))
  · refine wpAny_bind (wpAny_field hz rfl (x := rawInt T) rfl ?_)
    show wpAny _ _ (loadIfAlive ((T : Int).toNat) >>= _) _ _ _
    refine wpAny_bind (alive_or ?_)
    cases (⟨h, gs, dr, tk, os⟩ : Shared).heap.get? (T : Int).toNat with
    | none => exact wpAny_pure (H _ _ _ hz same)
    | some o =>
      simp only [Option.isNone_some, Bool.false_eq_true, if_false]
      refine wpAny_bind (wpAny_field hz rfl (x := .bool f1) rfl ?_)
      cases f1 with
      | true => exact wpAny_pure (H _ _ _ hz same)
      | false =>
        rw [if_pos (by decide)]
        refine wpAny_bind (wpAny_setField_rec hz (by simp) fun h₁ hz₁ hs₁ => ?_)
        exact wpAny_pure (H _ _ true hz₁ hs₁)
theorem zip_next (Z : ZA z TI TO i1 i2 fp1 fp2) (D1 : Draws prog w A i1 fp1 n P1 St1) (D2 : Draws prog w A i2 fp2 n P2 St2) (hS : ZSt z TI TO i1 i2 St1 St2 k h) (hk : k < n) {Q : Value → Shared → Prop}
    (hQ : ∀ h' tk' T x y, ZSt z TI TO i1 i2 St1 St2 (k + 1) h' → P1 k x → P2 k y → h.get? T = none → IsPair h' T x y → (∀ c o, c ≠ z → c ≠ TO → c ≠ i1 → c ≠ i2 → h.get? c = some o → h'.get? c = some o) → Q (.ref T) ⟨h', gs, dr, tk', os⟩) :
    wpAny (model prog w) A (Builtin.«zip.__next__» ⟨[.ref z], []⟩) (fun fin s' => ∃ v, fin = .done (.ret v) ∧ Q v s') E ⟨h, gs, dr, tk, os⟩ := by
  obtain ⟨⟨f0, f1, hf, hz⟩, hTI, ⟨a, b, hTO⟩, s1, s2⟩ := hS
  have n1z : i1 ≠ z := fun q => Z.z1 (q ▸ Z.m1)
  have n2z : i2 ≠ z := fun q => Z.z2 (q ▸ Z.m2)
  have n1T : i1 ≠ TO := fun q => Z.t1 (q ▸ Z.m1)
  have n2T : i2 ≠ TO := fun q => Z.t2 (q ▸ Z.m2)
  have n12 : i1 ≠ i2 := fun q => Z.x12 (q ▸ Z.m2)
  have fr1 : ∀ {j : Nat} {g g' : Heap} {c : Addr}, c ∉ fp1 → St1 j g → Heap.ExtBut c g g' → St1 j g' := fun hc st e => D1.frame _ _ _ st fun b hb o q => e b o (fun q => hc (q ▸ hb)) q
  have fr2 : ∀ {j : Nat} {g g' : Heap} {c : Addr}, c ∉ fp2 → St2 j g → Heap.ExtBut c g g' → St2 j g' := fun hc st e => D2.frame _ _ _ st fun b hb o q => e b o (fun q => hc (q ▸ hb)) q
  show wpAny _ _ (field (.ref z) 2 >>= _) _ _ _
  refine wpAny_bind (wpAny_field hz rfl (x := .bool false) rfl ?_)
  show wpAny _ _ (field (.ref z) 3 >>= _) _ _ _
  refine wpAny_bind (wpAny_field hz rfl (x := .ref TI) rfl ?_)
  refine wpAny_bind (wpAny_seqItems hTI rfl ?_)
  show wpAny _ _ (Builtin.SmallTypes.ownedTupleIsFree (.ref z) >>= _) _ _ _
  refine wpAny_bind (own_free hf hz fun fb h₀ f1' hz₀ hs₀ => ?_)
  have hTI₀ : IsPair h₀ TI (.ref i1) (.ref i2) := hs₀.extBut _ _ Z.TIz hTI
  have hTO₀ : IsPair h₀ TO a b := hs₀.extBut _ _ Z.zT hTO
  have s1₀ := fr1 Z.z1 s1 hs₀.extBut
  have s2₀ := fr2 Z.z2 s2 hs₀.extBut
  cases fb with
  | true =>
    simp only [if_true]
    refine wpAny_bind (wpAny_rule ?_)
    refine wpAny_bind (wpAny_field hz₀ rfl (x := .ref TO) rfl ?_)
    refine wpAny_bind (wpAny_setField_rec hz₀ (by simp) fun h₁ hz₁ hs₁ => ?_)
    replace hz₁ : IsZ h₁ z TI TO .ellipsis f1' := hz₁
    refine wpAny_bind ?_
    simp only [List.zipIdx_cons, List.zipIdx_nil, List.forIn_cons, List.forIn_nil]
    refine wpAny_bind (wpAny_bind (wpAny_onRaise ?_))
    show wpAny _ _ (Builtin.SmallTypes.nextOf (.ref i1) >>= _) _ _ _
    refine wpAny_bind (D1.item k ⟨h₁, gs, dr, tk, os⟩ _ _ hk (fr1 Z.z1 s1₀ hs₁.extBut) fun x h₂ tk₂ hx st1₂ hs₂ => wpAny_pure ?_)
    have hTO₂ : IsPair h₂ TO a b := hs₂.extBut _ _ n1T.symm (hs₁.extBut _ _ Z.zT hTO₀)
    refine wpAny_bind (wpAny_seqItems hTO₂ rfl ?_)
    refine wpAny_bind (wpAny_updateSeq_pair hTO₂ fun h₃ hTO₃ hs₃ => ?_)
    replace hTO₃ : IsPair h₃ TO x b := hTO₃
    refine wpAny_bind (wpAny_letGo (wpAny_pure ?_))
    refine wpAny_bind (wpAny_bind (wpAny_onRaise ?_))
    show wpAny _ _ (Builtin.SmallTypes.nextOf (.ref i2) >>= _) _ _ _
    refine wpAny_bind (D2.item k ⟨h₃, gs, dr, tk₂, os⟩ _ _ hk (fr2 Z.t2 (fr2 Z.x12 (fr2 Z.z2 s2₀ hs₁.extBut) hs₂.extBut) hs₃.extBut) fun y h₄ tk₄ hy st2₄ hs₄ => wpAny_pure ?_)
    have hTO₄ : IsPair h₄ TO x b := hs₄.extBut _ _ n2T.symm hTO₃
    refine wpAny_bind (wpAny_seqItems hTO₄ rfl ?_)
    refine wpAny_bind (wpAny_updateSeq_pair hTO₄ fun h₅ hTO₅ hs₅ => ?_)
    replace hTO₅ : IsPair h₅ TO x y := hTO₅
    refine wpAny_bind (wpAny_letGo (wpAny_pure (wpAny_pure ?_)))
    refine wpAny_bind (wpAny_seqItems hTO₅ rfl ?_)
    refine wpAny_bind (wpAny_newTuple ?_)
    have hz₅ : IsZ h₅ z TI TO .ellipsis f1' := hs₅.extBut _ _ Z.zT.symm (hs₄.extBut _ _ n2z.symm (hs₃.extBut _ _ Z.zT.symm (hs₂.extBut _ _ n1z.symm hz₁)))
    have hk₅ : ∀ c o, c ≠ z → c ≠ TO → c ≠ i1 → c ≠ i2 → h.get? c = some o → h₅.get? c = some o := fun c o c1 c2 c3 c4 e =>
      hs₅.extBut _ _ c2 (hs₄.extBut _ _ c4 (hs₃.extBut _ _ c2 (hs₂.extBut _ _ c3 (hs₁.extBut _ _ c1 (hs₀.extBut _ _ c1 e)))))
    have st1₅ := fr1 Z.t1 (fr1 Z.x21 (fr1 Z.t1 st1₂ hs₃.extBut) hs₄.extBut) hs₅.extBut
    have st2₅ := fr2 Z.t2 st2₄ hs₅.extBut
    have hsz : h₅.objs.size = h.objs.size := by rw [hs₅.1, hs₄.1, hs₃.1, hs₂.1, hs₁.1, hs₀.1]
    have hzlt : z < h₅.objs.size := Heap.lt_size hz₅
    show wpAny _ _ (Builtin.SmallTypes.ownedTupleHandOut (.ref z) (.ref h₅.objs.size) >>= _) _ _ _
    refine wpAny_bind ?_
    unfold Builtin.SmallTypes.ownedTupleHandOut
    have hz₆ : IsZ (h₅.push { cls := .type "tuple", data := .seq #[x, y] }) z TI TO .ellipsis f1' := Heap.get?_push_of_some _ hz₅
    refine wpAny_bind (wpAny_setField_rec hz₆ (by simp) fun h₇ hz₇ hs₇ => ?_)
    replace hz₇ : IsZ h₇ z TI TO (rawInt h₅.objs.size) f1' := hz₇
    refine wpAny_setField_rec hz₇ (by simp) fun h₈ hz₈ hs₈ => ?_
    replace hz₈ : IsZ h₈ z TI TO (rawInt h₅.objs.size) false := hz₈
    have up : Heap.ExtBut z h₅ h₈ := fun c o c1 e => hs₈.extBut _ _ c1 (hs₇.extBut _ _ c1 (Heap.get?_push_of_some _ e))
    have hT₈ : IsPair h₈ h₅.objs.size x y := hs₈.extBut _ _ (Nat.ne_of_gt hzlt) (hs₇.extBut _ _ (Nat.ne_of_gt hzlt) (Heap.get?_push_size _ rfl))
    refine wpAny_pure ⟨_, rfl, ?_⟩
    exact hQ h₈ _ _ x y ⟨⟨_, _, .inr ⟨_, rfl⟩, hz₈⟩, up _ _ Z.TIz (hs₅.extBut _ _ Z.TITO (hs₄.extBut _ _ Z.TI2 (hs₃.extBut _ _ Z.TITO (hs₂.extBut _ _ Z.TI1 (hs₁.extBut _ _ Z.TIz hTI₀))))), ⟨_, _, up _ _ Z.zT hTO₅⟩, fr1 Z.z1 st1₅ up, fr2 Z.z2 st2₅ up⟩
      hx hy (Heap.get?_none_of_le (Nat.le_of_eq hsz.symm)) hT₈ fun c o c1 c2 c3 c4 e => up c o c1 (hk₅ c o c1 c2 c3 c4 e)
  | false =>
    simp only [Bool.false_eq_true, if_false]
    refine wpAny_bind ?_
    rw [← Array.forIn_toList]
    simp only [List.forIn_cons, List.forIn_nil]
    refine wpAny_bind (wpAny_bind (wpAny_holding ?_))
    show wpAny _ _ (Builtin.SmallTypes.nextOf (.ref i1) >>= _) _ _ _
    refine wpAny_bind (D1.item k ⟨h₀, gs, dr, tk, os⟩ _ _ hk s1₀ fun x h₂ tk₂ hx st1₂ hs₂ => wpAny_pure (wpAny_pure ?_))
    dsimp only
    refine wpAny_bind (wpAny_bind (wpAny_holding ?_))
    show wpAny _ _ (Builtin.SmallTypes.nextOf (.ref i2) >>= _) _ _ _
    refine wpAny_bind (D2.item k ⟨h₂, gs, dr, tk₂, os⟩ _ _ hk (fr2 Z.x12 s2₀ hs₂.extBut) fun y h₄ tk₄ hy st2₄ hs₄ => wpAny_pure (wpAny_pure ?_))
    dsimp only
    refine wpAny_pure ?_
    dsimp only
    refine wpAny_bind (wpAny_newTuple ?_ (by show 2 ≤ sizeLine; decide))
    have up : ∀ c o, h₄.get? c = some o → (h₄.push { cls := .type "tuple", data := .seq #[x, y] }).get? c = some o := fun c o e => Heap.get?_push_of_some _ e
    have st1₄ := fr1 Z.x21 st1₂ hs₄.extBut
    have hsz : h₄.objs.size = h.objs.size := by rw [hs₄.1, hs₂.1, hs₀.1]
    refine wpAny_pure ⟨_, rfl, ?_⟩
    exact hQ _ _ _ x y ⟨⟨_, _, hf, up _ _ (hs₄.extBut _ _ n2z.symm (hs₂.extBut _ _ n1z.symm hz₀))⟩, up _ _ (hs₄.extBut _ _ Z.TI2 (hs₂.extBut _ _ Z.TI1 hTI₀)), ⟨_, _, up _ _ (hs₄.extBut _ _ n2T.symm (hs₂.extBut _ _ n1T.symm hTO₀))⟩, D1.frame _ _ _ st1₄ fun b _ o q => up b o q, D2.frame _ _ _ st2₄ fun b _ o q => up b o q⟩
      hx hy (Heap.get?_none_of_le (Nat.le_of_eq hsz.symm)) (Heap.get?_push_size _ rfl) fun c o c1 c2 c3 c4 e => up c o (hs₄.extBut _ _ c4 (hs₂.extBut _ _ c3 (hs₀.extBut _ _ c1 e)))
/-- the end: the first of the two has none left -/
theorem zip_stop (Z : ZA z TI TO i1 i2 fp1 fp2) (D1 : Draws prog w A i1 fp1 n P1 St1) (hS : ZSt z TI TO i1 i2 St1 St2 n h) {Q : Fin → Shared → Prop}
    (hE : ∀ h' e tk', (∀ c o, c ≠ z → c ≠ TO → c ≠ i1 → c ≠ i2 → h.get? c = some o → h'.get? c = some o) → (∃ o, h'.get? e = some o ∧ o.cls = .type "StopIteration") → E (.ref e) ⟨h', gs, dr, tk', os⟩) :
    wpAny (model prog w) A (Builtin.«zip.__next__» ⟨[.ref z], []⟩) Q E ⟨h, gs, dr, tk, os⟩ := by
  obtain ⟨⟨f0, f1, hf, hz⟩, hTI, ⟨a, b, hTO⟩, s1, s2⟩ := hS
  have n1z : i1 ≠ z := fun q => Z.z1 (q ▸ Z.m1)
  have n1T : i1 ≠ TO := fun q => Z.t1 (q ▸ Z.m1)
  have fr1 : ∀ {j : Nat} {g g' : Heap} {c : Addr}, c ∉ fp1 → St1 j g → Heap.ExtBut c g g' → St1 j g' := fun hc st e => D1.frame _ _ _ st fun b hb o q => e b o (fun q => hc (q ▸ hb)) q
  show wpAny _ _ (field (.ref z) 2 >>= _) _ _ _
  refine wpAny_bind (wpAny_field hz rfl (x := .bool false) rfl ?_)
  show wpAny _ _ (field (.ref z) 3 >>= _) _ _ _
  refine wpAny_bind (wpAny_field hz rfl (x := .ref TI) rfl ?_)
  refine wpAny_bind (wpAny_seqItems hTI rfl ?_)
  show wpAny _ _ (Builtin.SmallTypes.ownedTupleIsFree (.ref z) >>= _) _ _ _
  refine wpAny_bind (own_free hf hz fun fb h₀ f1' hz₀ hs₀ => ?_)
  have hTO₀ : IsPair h₀ TO a b := hs₀.extBut _ _ Z.zT hTO
  have s1₀ := fr1 Z.z1 s1 hs₀.extBut
  cases fb with
  | true =>
    simp only [if_true]
    refine wpAny_bind (wpAny_rule ?_)
    refine wpAny_bind (wpAny_field hz₀ rfl (x := .ref TO) rfl ?_)
    refine wpAny_bind (wpAny_setField_rec hz₀ (by simp) fun h₁ hz₁ hs₁ => ?_)
    replace hz₁ : IsZ h₁ z TI TO .ellipsis f1' := hz₁
    refine wpAny_bind ?_
    simp only [List.zipIdx_cons, List.zipIdx_nil, List.forIn_cons, List.forIn_nil]
    refine wpAny_bind (wpAny_bind (wpAny_onRaise ?_))
    show wpAny _ _ (Builtin.SmallTypes.nextOf (.ref i1) >>= _) _ _ _
    refine wpAny_bind (D1.done ⟨h₁, gs, dr, tk, os⟩ _ _ (fr1 Z.z1 s1₀ hs₁.extBut) fun h₂ e hs₂ he => ?_)
    obtain ⟨oe, hoe, hce⟩ := he
    have hz₂ : IsZ h₂ z TI TO .ellipsis f1' := hs₂ _ _ n1z.symm hz₁
    have hez : e ≠ z := fun x => by subst x; rw [hz₂] at hoe; cases hoe; simp at hce
    refine wpAny_setField_rec hz₂ (by simp) fun h₃ _ hs₃ => hE h₃ e _ (fun c o c1 _ c3 _ x => hs₃.extBut _ _ c1 (hs₂ _ _ c3 (hs₁.extBut _ _ c1 (hs₀.extBut _ _ c1 x)))) ⟨oe, hs₃.extBut _ _ hez hoe, hce⟩
  | false =>
    simp only [Bool.false_eq_true, if_false]
    refine wpAny_bind ?_
    rw [← Array.forIn_toList]
    simp only [List.forIn_cons, List.forIn_nil]
    refine wpAny_bind (wpAny_bind (wpAny_holding ?_))
    show wpAny _ _ (Builtin.SmallTypes.nextOf (.ref i1) >>= _) _ _ _
    exact wpAny_bind (D1.done ⟨h₀, gs, dr, tk, os⟩ _ _ s1₀ fun h₂ e hs₂ he => hE h₂ e _ (fun c o c1 _ c3 _ x => hs₂ _ _ c3 (hs₀.extBut _ _ c1 x)) he)
end
end

section
section
variable {prog : Program} {w : World} {A : Around} {E : Value → Shared → Prop} {gs : Array GenState} {dr : Drawn} {tk : Nat} {os : OsState} {h : Heap} {e it z TI TO i1 i2 : Addr} {fp1 fp2 : List Addr} {n k : Nat} {P1 P2 : Nat → Value → Prop} {St1 St2 : Nat → Heap → Prop}
theorem enum_next {i : Int} {old : Value} (he : IsEnum h e it i old) {Q : Value → Shared → Prop}
    (inner : wpAny (model prog w) A (Builtin.SmallTypes.nextOf (.ref it)) (fun x s₁ => ∃ h₁ tk₁, s₁ = ⟨h₁, gs, dr, tk₁, os⟩ ∧ IsEnum h₁ e it i old ∧ ∀ h' T, IsEnumOut h' e it (i + 1) x T → h₁.get? T = none → h'.get? T = some { cls := .type "tuple", data := .seq #[.int i tk₁, x] } → (∀ b o, b ≠ e → h₁.get? b = some o → h'.get? b = some o) → Q (.ref T) ⟨h', gs, dr, tk₁ + 1, os⟩) E ⟨h, gs, dr, tk, os⟩) :
    wpAny (model prog w) A (Builtin.«enumerate.__next__» ⟨[.ref e], []⟩) (fun fin s' => ∃ v, fin = .done (.ret v) ∧ Q v s') E ⟨h, gs, dr, tk, os⟩ := by
  show wpAny _ _ (field (.ref e) 2 >>= _) _ _ _
  refine wpAny_bind (wpAny_field he rfl (x := .ref it) rfl ?_)
  refine wpAny_bind (wpAny_mono inner (fun x s₁ hx => ?_) fun _ _ z => z)
  obtain ⟨h₁, tk₁, rfl, he₁, hQ⟩ := hx
  show wpAny _ _ (field (.ref e) 3 >>= _) _ _ ⟨h₁, gs, dr, tk₁, os⟩
  refine wpAny_bind (wpAny_field he₁ rfl (x := rawInt i) rfl ?_)
  show wpAny _ _ (field (.ref e) 4 >>= _) _ _ ⟨h₁, gs, dr, tk₁, os⟩
  refine wpAny_bind (wpAny_field he₁ rfl (x := .none) rfl ?_)
  show wpAny _ _ (mkInt i >>= _) _ _ ⟨h₁, gs, dr, tk₁, os⟩
  refine wpAny_bind (wpAny_mkInt ?_)
  show wpAny _ _ (setField (.ref e) 3 (rawInt (i + 1)) >>= _) _ _ ⟨h₁, gs, dr, tk₁ + 1, os⟩
  refine wpAny_bind (wpAny_setField_rec he₁ (by simp) fun h₂ he₂ hs₂ => ?_)
  replace hs₂ : Heap.SameBut e h₁ h₂ := hs₂
  replace he₂ : IsEnum h₂ e it (i + 1) old := he₂
  show wpAny _ _ (setField (.ref e) 4 .none >>= _) _ _ ⟨h₂, gs, dr, tk₁ + 1, os⟩
  refine wpAny_bind (wpAny_setField_rec he₂ (by simp) fun h₃ he₃ hs₃ => ?_)
  replace hs₃ : Heap.SameBut e h₂ h₃ := hs₃
  replace he₃ : IsEnum h₃ e it (i + 1) old := he₃
  show wpAny _ _ (newTuple [.int i tk₁, x] >>= _) _ _ ⟨h₃, gs, dr, tk₁ + 1, os⟩
  refine wpAny_bind (wpAny_newTuple ?_)
  have he₄ : IsEnum (h₃.push { cls := .type "tuple", data := .seq #[.int i tk₁, x] }) e it (i + 1) old := Heap.get?_push_of_some _ he₃
  have hT₄ : (h₃.push { cls := .type "tuple", data := .seq #[.int i tk₁, x] }).get? h₃.objs.size = some { cls := .type "tuple", data := .seq #[.int i tk₁, x] } := Heap.get?_push_size _ rfl
  have hk₄ : ∀ b o, b ≠ e → h₁.get? b = some o → (h₃.push { cls := .type "tuple", data := .seq #[.int i tk₁, x] }).get? b = some o := fun b o hb q => Heap.get?_push_of_some _ (hs₃.extBut b o hb (hs₂.extBut b o hb q))
  have hsz : h₁.objs.size ≤ h₃.objs.size := by rw [hs₃.1, hs₂.1]; exact Nat.le_refl _
  have hTe : h₃.objs.size ≠ e := Nat.ne_of_gt (Heap.lt_size he₃)
  have hfr : h₁.get? h₃.objs.size = none := Heap.get?_none_of_le hsz
  generalize h₃.objs.size = T at hT₄ hTe hfr ⊢
  generalize h₃.push { cls := .type "tuple", data := .seq #[.int i tk₁, x] } = h₄ at he₄ hT₄ hk₄ ⊢
  show wpAny _ _ (Builtin.SmallTypes.ownedTupleIsFree (.ref e) >>= _) _ _ ⟨h₄, gs, dr, tk₁ + 1, os⟩
  refine wpAny_bind ?_
  unfold Builtin.SmallTypes.ownedTupleIsFree
  refine wpAny_bind (wpAny_field he₄ rfl (x := .none) rfl (wpAny_pure ?_))
  simp only [if_true]
  refine wpAny_bind (wpAny_rule ?_)
  refine wpAny_bind (wpAny_field he₄ rfl (x := old) rfl ?_)
  refine wpAny_bind (wpAny_setField_rec he₄ (by simp) fun h₅ he₅ hs₅ => ?_)
  replace hs₅ : Heap.SameBut e h₄ h₅ := hs₅
  replace he₅ : IsEnum h₅ e it (i + 1) x := he₅
  show wpAny _ _ (Builtin.SmallTypes.ownedTupleHandOut (.ref e) (.ref T) >>= _) _ _ ⟨h₅, gs, dr, tk₁ + 1, os⟩
  refine wpAny_bind ?_
  unfold Builtin.SmallTypes.ownedTupleHandOut
  refine wpAny_bind (wpAny_setField_rec he₅ (by simp) fun h₆ he₆ hs₆ => ?_)
  replace hs₆ : Heap.SameBut e h₅ h₆ := hs₆
  replace he₆ : IsEnumOut h₆ e it (i + 1) x T := he₆
  refine wpAny_setField_rec he₆ (by simp) fun h₇ he₇ hs₇ => ?_
  replace hs₇ : Heap.SameBut e h₆ h₇ := hs₇
  replace he₇ : IsEnumOut h₇ e it (i + 1) x T := he₇
  have up : ∀ b o, b ≠ e → h₄.get? b = some o → h₇.get? b = some o := fun b o hb q => hs₇.extBut b o hb (hs₆.extBut b o hb (hs₅.extBut b o hb q))
  exact wpAny_bind (wpAny_letGo (wpAny_pure ⟨_, rfl, hQ h₇ T he₇ hfr (up _ _ hTe hT₄) fun b o hb q => up b o hb (hk₄ b o hb q)⟩))
theorem next_zip {s : Shared} (hz : s.TypeIs (.ref z) "zip") {Q : Value → Shared → Prop} (H : wpAny (model prog w) A.in1 (Builtin.«zip.__next__» ⟨[.ref z], []⟩) (fun fin s' => ∃ v, fin = .done (.ret v) ∧ Q v s') E s) : wpAny (model prog w) A (Builtin.SmallTypes.nextOf (.ref z)) Q E s := by
  unfold Builtin.SmallTypes.nextOf
  refine wpAny_bind (wpAny_callSpecial?_slot (name := Str.ofString "__next__") hz F.slot_zip_next (wpAny_call_entry F.slot_zip_next hz F.entry_zip_next (wpAny_mono H (fun fin s' x => ?_) fun _ _ x => x) (F.args_zip_next_1 _)))
  obtain ⟨v, rfl, q⟩ := x
  exact ⟨v, rfl, wpAny_pure q⟩
theorem ZSt.at (Z : ZA z TI TO i1 i2 fp1 fp2) (D1 : Draws prog w A i1 fp1 n P1 St1) (D2 : Draws prog w A i2 fp2 n P2 St2) {h h' : Heap} (x : ZSt z TI TO i1 i2 St1 St2 k h) (hk : ∀ b ∈ z :: TI :: TO :: (fp1 ++ fp2), ∀ o, h.get? b = some o → h'.get? b = some o) : ZSt z TI TO i1 i2 St1 St2 k h' := by
  obtain ⟨⟨f0, f1, hf, hz⟩, hTI, ⟨a, b, hTO⟩, s1, s2⟩ := x
  exact ⟨⟨f0, f1, hf, hk _ (by simp) _ hz⟩, hk _ (by simp) _ hTI, ⟨a, b, hk _ (by simp) _ hTO⟩, D1.frame _ _ _ s1 fun b hb o q => hk b (by simp [hb]) o q, D2.frame _ _ _ s2 fun b hb o q => hk b (by simp [hb]) o q⟩
theorem KTurns.enumZip {elts : List Expr} {kk : Nat} {pos : Pos} (hh : A.handled = none) (Z : ZA z TI TO i1 i2 fp1 fp2) (D1 : ∀ A' : Around, A'.handled = none → Draws prog w A' i1 fp1 n P1 St1) (D2 : ∀ A' : Around, A'.handled = none → Draws prog w A' i2 fp2 n P2 St2)
    (hez : e ∉ z :: TI :: TO :: (fp1 ++ fp2)) :
    KTurns prog w A (.Tuple elts kk pos) e (e :: z :: TI :: TO :: (fp1 ++ fp2)) [e, z, TO, i1, i2] n
      (fun i v h => ∃ T T' t x y, v = .ref T ∧ IsTup h T #[.int (i : Nat) t, .ref T'] ∧ IsTup h T' #[x, y] ∧ P1 i x ∧ P2 i y)
      (fun i v h => ∃ T T' t x y, v = .ref T ∧ h.get? T = some { cls := .type "tuple", data := .seq #[.int (i : Nat) t, .ref T'] } ∧ IsPair h T' x y ∧ P1 i x ∧ P2 i y ∧ IsEnumOut h e z ((i : Int) + 1) (.ref T') T ∧ ZSt z TI TO i1 i2 St1 St2 (i + 1) h ∧ T ≠ e ∧ T' ≠ e)
      (fun i h => (∃ old, IsEnum h e z i old) ∧ ZSt z TI TO i1 i2 St1 St2 i h) := by
  have nez : e ≠ z := fun q => hez (by simp [q])
  have neT : e ≠ TO := fun q => hez (by simp [q])
  have ne1 : e ≠ i1 := fun q => hez (by simp [q, Z.m1])
  have ne2 : e ≠ i2 := fun q => hez (by simp [q, Z.m2])
  refine ⟨?_, ?_, ?_, ?_, ?_⟩
  · intro b hb
    simp only [List.mem_cons, List.mem_nil_iff, or_false] at hb
    rcases hb with rfl | rfl | rfl | rfl | rfl <;> simp [Z.m1, Z.m2]
  · rintro i h h' ⟨⟨old, he⟩, hS⟩ hk
    exact ⟨⟨old, hk _ (.head _) _ he⟩, ZSt.at Z (D1 A hh) (D2 A hh) hS fun b hb o q => hk b (.tail _ hb) o q⟩
  · rintro i ⟨hp, g, d, tk, os⟩ Q E hi ⟨⟨old, he⟩, hS⟩ hQ
    have hT : (⟨hp, g, d, tk, os⟩ : Shared).TypeIs (.ref e) "enumerate" := ⟨_, he, rfl⟩
    unfold pyNext
    refine wpAny_bind (wpAny_attempt (wpAny_callSpecial?_slot (name := Str.ofString "__next__") hT F.slot_enumerate_next (wpAny_call_entry F.slot_enumerate_next hT F.entry_enumerate_next (enum_next he ?_) (F.args_enumerate_next_1 _))))
    obtain ⟨f0, f1, hf, hz⟩ := id hS.1
    refine next_zip ⟨_, hz, rfl⟩ (zip_next Z (D1 A.in1.in1 hh) (D2 A.in1.in1 hh) hS hi fun h₁ tk₁ T' x y hS₁ hx hy hfr hT' hk => ?_)
    refine ⟨h₁, tk₁, rfl, hk _ _ nez neT ne1 ne2 he, fun h' T q1 q2 q3 q4 => wpAny_pure ?_⟩
    have hTe : T ≠ e := fun z => by rw [z, hk _ _ nez neT ne1 ne2 he] at q2; cases q2
    have hT'e : T' ≠ e := fun z => by
      have he' : hp.get? e = some _ := he
      rw [z, he'] at hfr
      cases hfr
    exact hQ _ h' _ ⟨T, T', tk₁, x, y, rfl, q3, q4 _ _ hT'e hT', hx, hy, q1, ZSt.at Z (D1 A hh) (D2 A hh) hS₁ (fun b hb o q => q4 b o (fun z => hez (z ▸ hb)) q), hTe, hT'e⟩
      fun b o hb q => q4 b o (fun z => hb (by simp [z])) (hk b o (fun z => hb (by simp [z])) (fun z => hb (by simp [z])) (fun z => hb (by simp [z])) (fun z => hb (by simp [z])) q)
  · rintro i v ⟨hp, g, d, tk, os⟩ Q E ⟨T, T', t, x, y, rfl, hT, hT', hx, hy, ho, hS, hTe, hT'e⟩ hQ
    refine wpAny_letOwnedTupleGo_enum ho fun h' he' hs' => ?_
    refine hQ h' ⟨T, T', t, x, y, rfl, ⟨_, (hs'.2 T hTe).trans hT, rfl, 0, rfl⟩, ⟨_, (hs'.2 T' hT'e).trans hT', rfl, 0, rfl⟩, hx, hy⟩ ⟨⟨_, by simpa using he'⟩, ZSt.at Z (D1 A hh) (D2 A hh) hS fun b hb o q => (hs'.2 b fun z => hez (z ▸ hb)).trans q⟩ fun b o hb q => (hs'.2 b fun z => hb (by simp [z])).trans q
  · rintro ⟨hp, g, d, tk, os⟩ Q E ⟨⟨old, he⟩, hS⟩ hQ
    have hT : (⟨hp, g, d, tk, os⟩ : Shared).TypeIs (.ref e) "enumerate" := ⟨_, he, rfl⟩
    unfold pyNext
    refine wpAny_bind (wpAny_attempt (wpAny_callSpecial?_slot (name := Str.ofString "__next__") hT F.slot_enumerate_next (wpAny_call_entry F.slot_enumerate_next hT F.entry_enumerate_next ?_ (F.args_enumerate_next_1 _))))
    show wpAny _ _ (field (.ref e) 2 >>= _) _ _ _
    refine wpAny_bind (wpAny_field he rfl (x := .ref z) rfl ?_)
    obtain ⟨f0, f1, hf, hz⟩ := id hS.1
    refine wpAny_bind (next_zip ⟨_, hz, rfl⟩ (zip_stop Z (D1 A.in1.in1 hh) hS fun h' x tk' hk hx => ?_))
    obtain ⟨o, ho, hc⟩ := hx
    refine wpAny_bind (wpAny_isInstance (T := "StopIteration") (b := true) ⟨o, ho, hc⟩ isSubtype_stop ?_)
    exact wpAny_pure (hQ _ _ fun b o hb q => hk b o (fun z => hb (by simp [z])) (fun z => hb (by simp [z])) (fun z => hb (by simp [z])) (fun z => hb (by simp [z])) q)
end
end

section
section
variable {prog : Program} {w : World} {A : Around} {E : Value → Shared → Prop} {s : Shared} {it t : Addr} {i : Nat} {items : Array Value}
theorem nextOf_tuple_item {x : Value} {Q : Value → Shared → Prop} (hit : s.heap.IsTupleIter it t i)
    (ht : s.heap.IsTuple t items) (hx : items[i]? = some x)
    (hQ : ∀ h', h'.IsTupleIter it t (i + 1) → Heap.SameBut it s.heap h' → Q x { s with heap := h' }) :
    wpAny (model prog w) A (Builtin.SmallTypes.nextOf (.ref it)) Q E s := by
  obtain ⟨o, ho, hc, hd⟩ := id hit
  obtain ⟨ol, hol, _, nl, hdl⟩ := ht
  unfold Builtin.SmallTypes.nextOf
  refine wpAny_bind (wpAny_callSpecial?_slot (name := Str.ofString "__next__") hit.typeIs F.slot_tuple_iterator_next
    (wpAny_call_entry F.slot_tuple_iterator_next hit.typeIs F.entry_tuple_iterator_next ?_ (F.args_tuple_iterator_next_1 _)))
  show wpAny _ _ (field (.ref it) 0 >>= _) _ _ s
  refine wpAny_bind (wpAny_field ho hd (x := .ref t) rfl ?_)
  show wpAny _ _ (if (Value.ref t == Value.none) = true then _ else _) _ _ s
  rw [if_neg (show ¬ ((Value.ref t == Value.none) = true) from Bool.false_ne_true)]
  show wpAny _ _ (field (.ref it) 1 >>= _) _ _ s
  refine wpAny_bind (wpAny_field ho hd (x := .int i 0) rfl ?_)
  show wpAny _ _ (seqItems? (.ref t) >>= _) _ _ s
  refine wpAny_bind (wpAny_seqItems hol hdl ?_)
  simp only [Int.toNat_natCast, hx]
  refine wpAny_bind (wpAny_setField ho hd (by simp) (wpAny_pure ⟨x, rfl, wpAny_pure (hQ _ ?_ (Heap.SameBut.update ..))⟩))
  exact ⟨_, Heap.get?_update_self _ ho (Obj.isFreed_of_fields (Obj.data_mapFields hd _)), (Obj.cls_mapFields ..).trans hc, by
    rw [Obj.data_mapFields hd]; simp [rawInt]⟩
theorem nextOf_tuple_end {Q : Value → Shared → Prop} (hh : A.handled = none)
    (hit : s.heap.IsTupleIter it t i) (ht : s.heap.IsTuple t items) (hx : items[i]? = none)
    (hE : ∀ h' e, Heap.ExtBut it s.heap h' → (∃ o, h'.get? e = some o ∧ o.cls = .type "StopIteration") → E (.ref e) { s with heap := h' }) :
    wpAny (model prog w) A (Builtin.SmallTypes.nextOf (.ref it)) Q E s := by
  obtain ⟨o, ho, hc, hd⟩ := id hit
  obtain ⟨ol, hol, _, nl, hdl⟩ := ht
  unfold Builtin.SmallTypes.nextOf
  refine wpAny_bind (wpAny_callSpecial?_slot (name := Str.ofString "__next__") hit.typeIs F.slot_tuple_iterator_next
    (wpAny_call_entry F.slot_tuple_iterator_next hit.typeIs F.entry_tuple_iterator_next ?_ (F.args_tuple_iterator_next_1 _)))
  show wpAny _ _ (field (.ref it) 0 >>= _) _ _ s
  refine wpAny_bind (wpAny_field ho hd (x := .ref t) rfl ?_)
  show wpAny _ _ (if (Value.ref t == Value.none) = true then _ else _) _ _ s
  rw [if_neg (show ¬ ((Value.ref t == Value.none) = true) from Bool.false_ne_true)]
  show wpAny _ _ (field (.ref it) 1 >>= _) _ _ s
  refine wpAny_bind (wpAny_field ho hd (x := .int i 0) rfl ?_)
  show wpAny _ _ (seqItems? (.ref t) >>= _) _ _ s
  refine wpAny_bind (wpAny_seqItems hol hdl ?_)
  simp only [Int.toNat_natCast, hx]
  refine wpAny_bind (wpAny_rule (wpAny_bind (wpAny_setField ho hd (by simp) ?_)))
  show wpAny _ _ (newExc (.type "StopIteration") [] >>= _) _ _ _
  refine wpAny_bind ?_
  simp only [newExc, newTuple]
  refine wpAny_bind (wpAny_newObj_type ?_ (by size_fits))
  refine wpAny_bind (m := firstArgMember _ _) (wpAny_of_eq (a := Value.none) (by first | rfl | (simp only [firstArgMember]; rfl)) ?_)
  refine wpAny_newObj_type ?_ (by size_fits)
  simp only [raiseNew]
  refine wpAny_bind (wpAny_handled ?_)
  first | rw [show A.in1.handled = none from hh] | rw [hh]
  refine wpAny_bind (wpAny_pure (wpAny_throw ?_))
  exact hE _ _ (((Heap.SameBut.update ..).extBut.push _).push _) ⟨_, Heap.get?_push_size _ rfl, rfl⟩
theorem draws_tuple (hh : A.handled = none) (it l : Addr) (hne : l ≠ it) (items : Array Value) :
    Draws prog w A it [it, l] items.size (fun i v => items[i]? = some v) (fun i h => h.IsTupleIter it l i ∧ h.IsTuple l items) where
  live := fun _ _ st => let ⟨o, ho, _⟩ := st.1; ⟨o, ho⟩
  frame := fun _ _ _ st hk => ⟨st.1.at fun o e => hk it (by simp) o e, st.2.at fun o e => hk l (by simp) o e⟩
  item := fun i s Q E hi st hQ => by
    refine nextOf_tuple_item st.1 st.2 (x := items[i]) (by simp [hi]) fun h' hit' hs' => ?_
    exact hQ _ h' s.toks (by simp [hi]) ⟨hit', st.2.extBut hs'.extBut hne⟩ hs'
  done := fun s Q E st hE => nextOf_tuple_end hh st.1 st.2 (by simp) hE
end
theorem meets_enumerate_newZ (z TI TO : Addr) :
    Meets (Builtin.«enumerate.__new__» ⟨[.type "enumerate", .ref z], []⟩) (fun _ R s => IsZip s.heap z TI TO .none ∧
      R (.ok (.ret (.ref s.heap.objs.size))) { s with heap := s.heap.push { cls := .type "enumerate", data := .fields #[.none, .bool false, .ref z, rawInt 0, .none, .none] } }) :=
  .of_wp fun prog w A R s h => by
    obtain ⟨hp, g, d, tk, os⟩ := s; obtain ⟨hl, h⟩ := h
    have hsub := sub_enumerate
    have hL : IsZip (Shared.heap ⟨hp, g, d, tk, os⟩) z TI TO .none := hl
    wp_walk using PySem.AutoSeq1.wpAny_loadPart' hl
    refine wpAny_stack_any fun st => wpAny_pure ?_
    split
    · rename_i c _ _ _ _ _
      cases (c == Value.type "enumerate")
      · wp_walk using PySem.AutoSeq1.wpAny_loadPart' hl, wpAny_pyIter_zip hL
        exact ⟨_, rfl, h⟩
      · wp_walk using PySem.AutoSeq1.wpAny_loadPart' hl, wpAny_pyIter_zip hL
        exact ⟨_, rfl, h⟩
    · wp_walk using PySem.AutoSeq1.wpAny_loadPart' hl, wpAny_pyIter_zip hL
      exact ⟨_, rfl, h⟩
theorem meets_enumerate_newT (l : Addr) (items : Array Value) (n : Nat) :
    Meets (Builtin.«enumerate.__new__» ⟨[.type "enumerate", .ref l], []⟩) (fun _ R s => s.heap.get? l = some { cls := .type "tuple", data := .seq items n } ∧
      R (.ok (.ret (.ref (s.heap.push { cls := .type "tuple_iterator", data := .fields #[.ref l, .int 0 0] }).objs.size)))
        { s with heap := (s.heap.push { cls := .type "tuple_iterator", data := .fields #[.ref l, .int 0 0] }).push { cls := .type "enumerate", data := .fields #[.none, .bool false, .ref s.heap.objs.size, rawInt 0, .none, .none] } }) :=
  .of_wp fun prog w A R s h => by
    obtain ⟨hp, g, d, tk, os⟩ := s; obtain ⟨hl, h⟩ := h
    have hsub := sub_enumerate
    have hL : Heap.IsTuple (Shared.heap ⟨hp, g, d, tk, os⟩) l items := ⟨_, hl, rfl, n, rfl⟩
    wp_walk using PySem.AutoSeq1.wpAny_loadPart' hl
    refine wpAny_stack_any fun st => wpAny_pure ?_
    split
    · rename_i c _ _ _ _ _
      cases (c == Value.type "enumerate")
      · wp_walk using PySem.AutoSeq1.wpAny_loadPart' hl, wpAny_pyIter_tuple hL
        exact ⟨_, rfl, h⟩
      · wp_walk using PySem.AutoSeq1.wpAny_loadPart' hl, wpAny_pyIter_tuple hL
        exact ⟨_, rfl, h⟩
    · wp_walk using PySem.AutoSeq1.wpAny_loadPart' hl, wpAny_pyIter_tuple hL
      exact ⟨_, rfl, h⟩
theorem meets_zip_newT (l1 l2 : Addr) (xs ys : Array Value) :
    Meets (Builtin.«zip.__new__» ⟨[.type "zip", .ref l1, .ref l2], []⟩) (fun _ R s => s.heap.IsTuple l1 xs ∧ s.heap.IsList l2 ys ∧
      R (.ok (.ret (.ref (s.heap.objs.size + 4)))) { s with heap := ((((s.heap.push { cls := .type "tuple_iterator", data := .fields #[.ref l1, .int 0 0] }).push { cls := .type "list_iterator", data := .fields #[.ref l2, .int 0 0] }).push { cls := .type "tuple", data := .seq #[.ref s.heap.objs.size, .ref (s.heap.objs.size + 1)] }).push { cls := .type "tuple", data := .seq #[.none, .none] }).push { cls := .type "zip", data := .fields #[.none, .bool false, .bool false, .ref (s.heap.objs.size + 2), .ref (s.heap.objs.size + 3)] } }) :=
  .of_wp fun prog w A R s h => by
    obtain ⟨hp, g, d, tk, os⟩ := s; obtain ⟨hl1, hl2, h⟩ := h
    have hsub := sub_zip
    have hL1 : Heap.IsTuple (Shared.heap ⟨hp, g, d, tk, os⟩) l1 xs := hl1
    have hL2 : Heap.IsList (Shared.heap ⟨hp.push { cls := .type "tuple_iterator", data := .fields #[.ref l1, .int 0 0] }, g, d, tk, os⟩) l2 ys := Heap.IsList.push hl2 _
    wp_walk using wpAny_pyIter_tuple hL1, wpAny_pyIter_list hL2
    refine ⟨_, rfl, ?_⟩
    simp only [Heap.size_push]
    exact h
end

section
section
variable {prog : Program} {w : World} {A : Around} {E : Value → Shared → Prop} {gs : Array GenState} {dr : Drawn} {tk : Nat} {os : OsState} {h : Heap} {Q : Value → Shared → Prop}
theorem call_enum_zip {z TI TO : Addr} (hz : IsZip h z TI TO .none) (H : ∀ h', IsEnum h' h.objs.size z 0 .none → Ke h h' → Q (.ref h.objs.size) ⟨h', gs, dr, tk, os⟩) : wpAny (model prog w) A (call (.type "enumerate") [.ref z]) Q E ⟨h, gs, dr, tk, os⟩ := by
  refine callType_new F.called_enumerate (by decide) (F.typeCall_enumerate_1 _) (F.newCall_enumerate_1 _) (fun obj => F.args_object_init_2 obj _) F.entry_enumerate_new (meets_enumerate_newZ z TI TO) ⟨hz, ?_⟩
  have he : IsEnum (h.push { cls := .type "enumerate", data := .fields #[.none, .bool false, .ref z, rawInt 0, .none, .none] }) h.objs.size z 0 .none := Heap.get?_push_size _ rfl
  exact ⟨⟨_, he, rfl⟩, H _ he fun b o q => Heap.get?_push_of_some _ q⟩
theorem call_enum_tup {l : Addr} {items : Array Value} {n : Nat} (hl : h.get? l = some { cls := .type "tuple", data := .seq items n })
    (H : ∀ h', IsEnum h' (h.objs.size + 1) h.objs.size 0 .none → h'.IsTupleIter h.objs.size l 0 → Ke h h' → Q (.ref (h.objs.size + 1)) ⟨h', gs, dr, tk, os⟩) : wpAny (model prog w) A (call (.type "enumerate") [.ref l]) Q E ⟨h, gs, dr, tk, os⟩ := by
  refine callType_new F.called_enumerate (by decide) (F.typeCall_enumerate_1 _) (F.newCall_enumerate_1 _) (fun obj => F.args_object_init_2 obj _) F.entry_enumerate_new (meets_enumerate_newT l items n) ⟨hl, ?_⟩
  have hz : (h.push { cls := .type "tuple_iterator", data := .fields #[.ref l, .int 0 0] }).objs.size = h.objs.size + 1 := Heap.size_push ..
  show _ ∧ _
  have he : IsEnum ((h.push { cls := .type "tuple_iterator", data := .fields #[.ref l, .int 0 0] }).push
      { cls := .type "enumerate", data := .fields #[.none, .bool false, .ref h.objs.size, rawInt 0, .none, .none] }) (h.objs.size + 1) h.objs.size 0 .none := by
    have := Heap.get?_push_size (h.push { cls := .type "tuple_iterator", data := .fields #[.ref l, .int 0 0] })
      (o := { cls := .type "enumerate", data := .fields #[.none, .bool false, .ref h.objs.size, rawInt 0, .none, .none] }) rfl
    rw [hz] at this; exact this
  refine ⟨⟨_, by rw [hz]; exact he, rfl⟩, ?_⟩
  show Q (.ref (h.push { cls := .type "tuple_iterator", data := .fields #[.ref l, .int 0 0] }).objs.size) _
  rw [hz]
  exact H _ he ⟨_, Heap.get?_push_of_some _ (Heap.get?_push_size _ rfl), rfl, rfl⟩ fun b o x => Heap.get?_push_of_some _ (Heap.get?_push_of_some _ x)
theorem call_zip_TL {l1 l2 : Addr} {xs ys : Array Value} (hl1 : h.IsTuple l1 xs) (hl2 : h.IsList l2 ys)
    (H : ∀ h', IsZip h' (h.objs.size + 4) (h.objs.size + 2) (h.objs.size + 3) .none → IsPair h' (h.objs.size + 2) (.ref h.objs.size) (.ref (h.objs.size + 1)) →
      IsPair h' (h.objs.size + 3) .none .none → h'.IsTupleIter h.objs.size l1 0 → h'.IsListIter (h.objs.size + 1) l2 0 → Ke h h' → Q (.ref (h.objs.size + 4)) ⟨h', gs, dr, tk, os⟩) :
    wpAny (model prog w) A (call (.type "zip") [.ref l1, .ref l2]) Q E ⟨h, gs, dr, tk, os⟩ := by
  refine callType_new F.called_zip (by decide) (F.typeCall_zip_2 _ _) (F.newCall_zip_2 _ _) (fun obj => F.args_object_init_3 obj _ _) F.entry_zip_new
    (meets_zip_newT l1 l2 xs ys) ⟨hl1, hl2, ?_⟩
  generalize e1 : h.push { cls := .type "tuple_iterator", data := .fields #[.ref l1, .int 0 0] } = a1
  generalize e2 : a1.push { cls := .type "list_iterator", data := .fields #[.ref l2, .int 0 0] } = a2
  generalize e3 : a2.push { cls := .type "tuple", data := .seq #[.ref h.objs.size, .ref (h.objs.size + 1)] } = a3
  generalize e4 : a3.push { cls := .type "tuple", data := .seq #[.none, .none] } = a4
  generalize e5 : a4.push { cls := .type "zip", data := .fields #[.none, .bool false, .bool false, .ref (h.objs.size + 2), .ref (h.objs.size + 3)] } = a5
  have z1 : a1.objs.size = h.objs.size + 1 := by rw [← e1, Heap.size_push]
  have z2 : a2.objs.size = h.objs.size + 2 := by rw [← e2, Heap.size_push, z1]
  have z3 : a3.objs.size = h.objs.size + 3 := by rw [← e3, Heap.size_push, z2]
  have z4 : a4.objs.size = h.objs.size + 4 := by rw [← e4, Heap.size_push, z3]
  have k1 : Ke h a1 := fun b o q => by rw [← e1]; exact Heap.get?_push_of_some _ q
  have k2 : Ke a1 a2 := fun b o q => by rw [← e2]; exact Heap.get?_push_of_some _ q
  have k3 : Ke a2 a3 := fun b o q => by rw [← e3]; exact Heap.get?_push_of_some _ q
  have k4 : Ke a3 a4 := fun b o q => by rw [← e4]; exact Heap.get?_push_of_some _ q
  have k5 : Ke a4 a5 := fun b o q => by rw [← e5]; exact Heap.get?_push_of_some _ q
  have g1 : a1.get? h.objs.size = some { cls := .type "tuple_iterator", data := .fields #[.ref l1, .int 0 0] } := by rw [← e1]; exact Heap.get?_push_size _ rfl
  have g2 : a2.get? (h.objs.size + 1) = some { cls := .type "list_iterator", data := .fields #[.ref l2, .int 0 0] } := by rw [← e2, ← z1]; exact Heap.get?_push_size _ rfl
  have g3 : a3.get? (h.objs.size + 2) = some { cls := .type "tuple", data := .seq #[.ref h.objs.size, .ref (h.objs.size + 1)] } := by rw [← e3, ← z2]; exact Heap.get?_push_size _ rfl
  have g4 : a4.get? (h.objs.size + 3) = some { cls := .type "tuple", data := .seq #[.none, .none] } := by rw [← e4, ← z3]; exact Heap.get?_push_size _ rfl
  have g5 : a5.get? (h.objs.size + 4) = some { cls := .type "zip", data := .fields #[.none, .bool false, .bool false, .ref (h.objs.size + 2), .ref (h.objs.size + 3)] } := by rw [← e5, ← z4]; exact Heap.get?_push_size _ rfl
  exact ⟨⟨_, g5, rfl⟩, H a5 g5 (k5 _ _ (k4 _ _ g3)) (k5 _ _ g4) ⟨_, k5 _ _ (k4 _ _ (k3 _ _ (k2 _ _ g1))), rfl, rfl⟩ ⟨_, k5 _ _ (k4 _ _ (k3 _ _ g2)), rfl, rfl⟩ fun b o q => k5 _ _ (k4 _ _ (k3 _ _ (k2 _ _ (k1 _ _ q))))⟩
end
end

section
section
variable {w : World} {A : Around} {E : Value → Shared → Prop} {gs : Array GenState} {dr : Drawn} {tk : Nat} {os : OsState} {h g : Heap} {L a : Addr} {mm : Str → Option Value} {news : Ledger} {name : Str} {scope : Scope} {cd : Value} {elts : List Expr} {kk : Nat} {tp : Pos} {body : List Stmt} {R : Result → Shared → Prop}
def Apart (g : Heap) (L : Addr) (news : Ledger) (b : Addr) : Prop := g.get? b = none ∧ b ≠ L ∧ ∀ p ∈ news, p.1 ≠ b
theorem apart_of (F : Fr g L h mm) (N : News g L h news) {b : Addr} (hb : h.objs.size ≤ b) : Apart g L news b := by
  refine ⟨?_, fun z => ?_, fun p hp z => ?_⟩
  · cases q : g.get? b with
    | none => rfl
    | some o => exact absurd (Heap.lt_size (F.keep _ _ q)) (Nat.not_lt.mpr hb)
  · have := F.ns.lt
    rw [z] at hb
    exact absurd this (Nat.not_lt.mpr hb)
  · have := Heap.lt_size (N p hp).1
    rw [z] at this
    exact absurd this (Nat.not_lt.mpr hb)
theorem za_new {l1 l2 : Nat} (n : Nat) (h1 : l1 < n) (h2 : l2 < n) : ZA (n + 4) (n + 2) (n + 3) n (n + 1) [n, l1] [n + 1, l2] := by
  constructor
  all_goals first
    | exact .head _
    | (intro q; replace q : @Eq Nat _ _ := q; omega)
    | exact fun q => (List.mem_cons.mp q).elim (fun q => by (replace q : @Eq Nat _ _ := q; omega)) (fun q => by (replace q : @Eq Nat _ _ := List.mem_singleton.mp q; omega))
theorem new_le {n b : Nat} (hb : b ∈ [n + 4, n + 2, n + 3, n, n + 1]) : n ≤ b := by
  simp only [List.mem_cons, List.mem_nil_iff, or_false] at hb
  omega
/-- zip over two lists -/
theorem x_zip_ll {l1 l2 : Addr} {xs ys : List Value} {n1 n2 : Nat} {Q : Value → Shared → Prop} (F : Fr g L h mm) (N : News g L h news) (h1 : h.get? l1 = some (lob xs n1)) (h2 : h.get? l2 = some (lob ys n2))
    (H : ∀ h' z TI TO i1 i2, ZA z TI TO i1 i2 [i1, l1] [i2, l2] → (∀ b ∈ [z, TI, TO, i1, i2], Apart g L news b) → IsZip h' z TI TO .none → ZSt z TI TO i1 i2 (fun i h => h.IsListIter i1 l1 i ∧ h.IsList l1 xs.toArray) (fun i h => h.IsListIter i2 l2 i ∧ h.IsList l2 ys.toArray) 0 h' → Fr g L h' mm → News g L h' news → Q (.ref z) ⟨h', gs, dr, tk, os⟩) :
    wpAny (model pw w) A (call (.type "zip") [.ref l1, .ref l2]) Q E ⟨h, gs, dr, tk, os⟩ := by
  refine call_zip_2 (s := ⟨h, gs, dr, tk, os⟩) (isl_of h1) (isl_of h2) fun h' hz hTI hTO hi1 hi2 _ hk => ?_
  refine H h' _ _ _ _ _ (za_new h.objs.size (Heap.lt_size h1) (Heap.lt_size h2)) (fun b hb => apart_of F N ?_) hz ⟨⟨_, _, .inl rfl, hz⟩, hTI, ⟨_, _, hTO⟩, ⟨hi1, (isl_of h1).at fun o q => hk _ _ q⟩, ⟨hi2, (isl_of h2).at fun o q => hk _ _ q⟩⟩ (F.keeps hk) (news_ke N hk)
  exact new_le hb
/-- zip over a tuple and a list -/
theorem x_zip_tl {l1 l2 : Addr} {xs : Array Value} {ys : List Value} {n1 n2 : Nat} {Q : Value → Shared → Prop} (F : Fr g L h mm) (N : News g L h news) (h1 : h.get? l1 = some { cls := .type "tuple", data := .seq xs n1 }) (h2 : h.get? l2 = some (lob ys n2))
    (H : ∀ h' z TI TO i1 i2, ZA z TI TO i1 i2 [i1, l1] [i2, l2] → (∀ b ∈ [z, TI, TO, i1, i2], Apart g L news b) → IsZip h' z TI TO .none → ZSt z TI TO i1 i2 (fun i h => h.IsTupleIter i1 l1 i ∧ h.IsTuple l1 xs) (fun i h => h.IsListIter i2 l2 i ∧ h.IsList l2 ys.toArray) 0 h' → Fr g L h' mm → News g L h' news → Q (.ref z) ⟨h', gs, dr, tk, os⟩) :
    wpAny (model pw w) A (call (.type "zip") [.ref l1, .ref l2]) Q E ⟨h, gs, dr, tk, os⟩ := by
  have ht : h.IsTuple l1 xs := ⟨_, h1, rfl, n1, rfl⟩
  refine call_zip_TL ht (isl_of h2) fun h' hz hTI hTO hi1 hi2 hk => ?_
  refine H h' _ _ _ _ _ (za_new h.objs.size (Heap.lt_size h1) (Heap.lt_size h2)) (fun b hb => apart_of F N ?_) hz ⟨⟨_, _, .inl rfl, hz⟩, hTI, ⟨_, _, hTO⟩, ⟨hi1, ht.at fun o q => hk _ _ q⟩, ⟨hi2, (isl_of h2).at fun o q => hk _ _ q⟩⟩ (F.keeps hk) (news_ke N hk)
  exact new_le hb
/-- for i, (x, y) in enumerate(a zip) -/
theorem x_enum_zip {z TI TO i1 i2 l1 l2 : Addr} {n : Nat} {P1 P2 : Nat → Value → Prop} {St1 St2 : Nat → Heap → Prop} (hh : A.handled = none) (F : Fr g L h mm) (N : News g L h news) (Z : ZA z TI TO i1 i2 [i1, l1] [i2, l2]) (hap : ∀ b ∈ [z, TI, TO, i1, i2], Apart g L news b) (hl1 : l1 < h.objs.size ∧ l1 ≠ L) (hl2 : l2 < h.objs.size ∧ l2 ≠ L)
    (hz : IsZip h z TI TO .none) (hS : ZSt z TI TO i1 i2 St1 St2 0 h) (D1 : ∀ A' : Around, A'.handled = none → Draws pw w A' i1 [i1, l1] n P1 St1) (D2 : ∀ A' : Around, A'.handled = none → Draws pw w A' i2 [i2, l2] n P2 St2)
    (J : Nat → (Str → Option Value) → Ledger → Prop) (h0 : J 0 mm news)
    (turn : ∀ i x y t T T' m news h tk own wr, i < n → P1 i x → P2 i y → IsTup h T [.int (i : Nat) t, .ref T'].toArray → IsTup h T' [x, y].toArray → J i m news → (∀ p ∈ news, p.1 ∉ wr) → (∀ b ∈ wr, ∃ o, (b, o) ∈ own) → (∀ p ∈ own, p.1 ∈ wr ∨ p.1 = TI ∨ p.1 = l1 ∨ p.1 = l2) → Fr g L h m → News g L h (own ++ news) →
      wpAny (model pw w) A (assign (.Tuple elts kk tp) (envOf name scope L a cd) (.ref T)) (fun _ s₂ => wpAny (model pw w) A (execs body (envOf name scope L a cd)) (TurnPost g L wr own gs dr os (J (i + 1)) R) (notedBy (model pw w) A (envOf name scope L a cd) fun e s' => R (.error e) s') s₂) (notedBy (model pw w) A (envOf name scope L a cd) fun e s' => R (.error e) s') ⟨h, gs, dr, tk, os⟩)
    (done : ∀ m' news' h' tk', J n m' news' → Fr g L h' m' → News g L h' news' → R (.ok .next) ⟨h', gs, dr, tk', os⟩) :
    wpAny (model pw w) A (call (.type "enumerate") [.ref z]) (fun xv s₁ => wpAny (model pw w) A (pyIter xv) (fun it s₂ => codeAny (model pw w) A (.forLoop (.Tuple elts kk tp) it body [] (envOf name scope L a cd)) R s₂) E s₁) E ⟨h, gs, dr, tk, os⟩ := by
  refine call_enum_zip hz fun h' he hk => ?_
  refine wpAny_pyIter_enum he ?_
  obtain ⟨⟨f0, f1, _, hz0⟩, hTI0, ⟨ta, tb, hTO0⟩, q1, q2⟩ := id hS
  have hi1 : i1 < h.objs.size := by obtain ⟨o, ho⟩ := (D1 A hh).live _ _ q1; exact Heap.lt_size ho
  have hi2 : i2 < h.objs.size := by obtain ⟨o, ho⟩ := (D2 A hh).live _ _ q2; exact Heap.lt_size ho
  have hlt : ∀ b ∈ z :: TI :: TO :: ([i1, l1] ++ [i2, l2]), b < h.objs.size := by
    intro b hb
    simp at hb
    rcases hb with rfl | rfl | rfl | rfl | rfl | rfl | rfl
    · exact Heap.lt_size hz0
    · exact Heap.lt_size hTI0
    · exact Heap.lt_size hTO0
    · exact hi1
    · exact hl1.1
    · exact hi2
    · exact hl2.1
  have hez : h.objs.size ∉ z :: TI :: TO :: ([i1, l1] ++ [i2, l2]) := fun hm => absurd (hlt _ hm) (Nat.lt_irrefl _)
  have hea := apart_of F N (Nat.le_refl h.objs.size)
  refine turn_loop (Mine.KTurns.enumZip (elts := elts) (kk := kk) (pos := tp) hh Z D1 D2 hez) (F.keeps hk) (news_ke N hk) ?_ ?_ ?_ ⟨⟨_, he⟩, ZSt.at Z (D1 A hh) (D2 A hh) hS fun b _ o q => hk b o q⟩ ?_ J h0 ?_ ?_
  · intro hm
    simp at hm
    rcases hm with q | q | q | q | q | q | q | q
    · exact hea.2.1 q.symm
    · exact (hap z (by simp)).2.1 q.symm
    · exact (hap TI (by simp)).2.1 q.symm
    · exact (hap TO (by simp)).2.1 q.symm
    · exact (hap i1 (by simp)).2.1 q.symm
    · exact hl1.2 q.symm
    · exact (hap i2 (by simp)).2.1 q.symm
    · exact hl2.2 q.symm
  · intro b hb
    simp at hb
    rcases hb with rfl | rfl | rfl | rfl | rfl
    · exact hea.1
    · exact (hap _ (by simp)).1
    · exact (hap _ (by simp)).1
    · exact (hap _ (by simp)).1
    · exact (hap _ (by simp)).1
  · intro p hp hm
    simp at hm
    rcases hm with q | q | q | q | q
    · exact hea.2.2 p hp q
    · exact (hap z (by simp)).2.2 p hp q
    · exact (hap TO (by simp)).2.2 p hp q
    · exact (hap i1 (by simp)).2.2 p hp q
    · exact (hap i2 (by simp)).2.2 p hp q
  · rintro i h'' ⟨⟨old, q0⟩, ⟨f0, f1, _, hz'⟩, _, ⟨ta, tb, hTO'⟩, s1, s2⟩ b hb
    simp at hb
    rcases hb with rfl | rfl | rfl | rfl | rfl
    · exact ⟨_, q0⟩
    · exact ⟨_, hz'⟩
    · exact ⟨_, hTO'⟩
    · exact (D1 A hh).live _ _ s1
    · exact (D2 A hh).live _ _ s2
  · rintro i v m news h tk own hi ⟨T, T', t, x, y, rfl, hT, hT', hx, hy⟩ hJ hnw hown hof F' N'
    refine turn i x y t T T' m news h tk own _ hi hx hy hT hT' hJ hnw hown (fun p hp => ?_) F' N'
    have := hof p hp
    simp at this ⊢
    rcases this with q | q | q | q | q | q | q | q <;> simp [q]
  · intro m' news' h' tk' hJ F' N'
    exact done m' news' h' tk' hJ F' N'
/-- for i, x in enumerate(a tuple) -/
theorem x_enum_tup {l : Addr} {vs : Array Value} {n : Nat} (hh : A.handled = none) (F : Fr g L h mm) (N : News g L h news) (hl : h.get? l = some { cls := .type "tuple", data := .seq vs n }) (hlL : l ≠ L)
    (J : Nat → (Str → Option Value) → Ledger → Prop) (h0 : J 0 mm news)
    (turn : ∀ i x t T m news h tk own wr, vs[i]? = some x → IsTup h T [.int (i : Nat) t, x].toArray → J i m news → (∀ p ∈ news, p.1 ∉ wr) → (∀ b ∈ wr, ∃ o, (b, o) ∈ own) → (∀ p ∈ own, p.1 ∈ wr ∨ p.1 = l) → Fr g L h m → News g L h (own ++ news) →
      wpAny (model pw w) A (assign (.Tuple elts kk tp) (envOf name scope L a cd) (.ref T)) (fun _ s₂ => wpAny (model pw w) A (execs body (envOf name scope L a cd)) (TurnPost g L wr own gs dr os (J (i + 1)) R) (notedBy (model pw w) A (envOf name scope L a cd) fun e s' => R (.error e) s') s₂) (notedBy (model pw w) A (envOf name scope L a cd) fun e s' => R (.error e) s') ⟨h, gs, dr, tk, os⟩)
    (done : ∀ m' news' h' tk', J vs.size m' news' → Fr g L h' m' → News g L h' news' → R (.ok .next) ⟨h', gs, dr, tk', os⟩) :
    wpAny (model pw w) A (call (.type "enumerate") [.ref l]) (fun xv s₁ => wpAny (model pw w) A (pyIter xv) (fun it s₂ => codeAny (model pw w) A (.forLoop (.Tuple elts kk tp) it body [] (envOf name scope L a cd)) R s₂) E s₁) E ⟨h, gs, dr, tk, os⟩ := by
  have hll := Heap.lt_size hl
  have ht : h.IsTuple l vs := ⟨_, hl, rfl, n, rfl⟩
  have a1 := apart_of F N (Nat.le_succ h.objs.size)
  have a2 := apart_of F N (Nat.le_refl h.objs.size)
  refine call_enum_tup hl fun h' he hit hk => ?_
  refine wpAny_pyIter_enum he ?_
  have hi1 : h.objs.size + 1 ≠ h.objs.size := Nat.succ_ne_self _
  have hi2 : l ≠ h.objs.size + 1 := Nat.ne_of_lt (Nat.lt_succ_of_lt hll)
  have W := KTurns.ofWalksU (elts := elts) (k := kk) (pos := tp) (WalksT.toU (WalksT.enumerateD (draws_tuple (prog := pw) (w := w) (A := A.in1) (show A.in1.handled = none from hh) h.objs.size l (Nat.ne_of_lt hll) vs) (h.objs.size + 1) hi1 (by simp [hi2.symm]) (by simp)))
  refine turn_loop W (F.keeps hk) (news_ke N hk) ?_ ?_ ?_ ⟨⟨_, he⟩, hit, ht.at fun o q => hk _ _ q⟩ ?_ J h0 ?_ ?_
  · intro hm
    simp at hm
    rcases hm with z | z | z
    · exact a1.2.1 z.symm
    · exact a2.2.1 z.symm
    · exact hlL z.symm
  · intro b hb
    simp at hb
    rcases hb with rfl | rfl
    · exact a1.1
    · exact a2.1
  · intro p hp hm
    simp at hm
    rcases hm with z | z
    · exact a1.2.2 p hp z
    · exact a2.2.2 p hp z
  · rintro i h'' ⟨⟨old, q1⟩, ⟨o, q2, _⟩, _⟩ b hb
    simp at hb
    rcases hb with rfl | rfl
    · exact ⟨_, q1⟩
    · exact ⟨_, q2⟩
  · rintro i v m news h tk own hi ⟨T, vals, rfl, ⟨t, x, hx, rfl⟩, hT⟩ hJ hnw hown hof F' N'
    refine turn i x t T m news h tk own _ (by simpa using hx) hT hJ hnw hown (fun p hp => ?_) F' N'
    have := hof p hp
    simp at this ⊢
    rcases this with z | z | z <;> simp [z]
  · intro m' news' h' tk' hJ F' N'
    exact done m' news' h' tk' hJ F' N'
end
end

section
theorem accS_pair_len {a b : SK} {ts : List Tr} (h : ts.length ≠ 2) : accS (.pair a b) (.l ts) = false := by
  match ts, h with
  | [], _ => rfl
  | [_], _ => rfl
  | [_, _], h => exact absurd rfl h
  | _ :: _ :: _ :: _, _ => rfl
theorem DesT.mono {d d' n n' : Nat} {g h' : Heap} {outer : List Env} {e : Addr} {x : Ex} (X : DesT d n g outer h' e x) (hd : d ≤ d') (hn : n ≤ n') : DesT d' n' g outer h' e x := by
  obtain ⟨g', C, ta, D, m, s, T', kp', T, hne, HC, hxc, hx0, hxd, hta, hfta, hD, hfD, hsm, hch, hd0, hT'⟩ := X
  exact ⟨g', C, ta, D, m, s, T', kp', T, hne, HC, hxc, hx0, hxd, hta, hfta, hD, hfD, sm_mono hsm hn, fun z => hch (by omega), fun z => hd0 (by omega), hT'⟩
theorem pin {g h : Heap} {L T : Addr} {m : Str → Option Value} {NN : Ledger} {items : List Value} (F : Fr g L h m) (N : News g L h NN) (hT : IsTup h T items.toArray) :
    ∃ X : Ledger, News g L h (X ++ NN) ∧ ∀ {h' : Heap} {mm' : Str → Option Value}, Fr g L h' mm' → News g L h' (X ++ NN) → IsTup h' T items.toArray := by
  obtain ⟨o, ho, hc, hd⟩ := id hT
  cases q : g.get? T with
  | some o' =>
    have := F.keep _ _ q
    rw [ho] at this
    cases this
    exact ⟨[], N, fun F' _ => ⟨o, F'.keep _ _ q, hc, hd⟩⟩
  | none =>
    refine ⟨[(T, o)], fun p hp => ?_, fun _ N' => ⟨o, (N' (T, o) (.head _)).1, hc, hd⟩⟩
    rcases List.mem_cons.mp hp with rfl | hp
    · refine ⟨ho, fun z => ?_, q⟩
      obtain ⟨oL, es, ep, l1, l2, _⟩ := F.ns
      obtain ⟨k, hk⟩ := hd
      have hz : T = L := z
      rw [hz, l1] at ho
      cases ho
      rw [l2] at hk
      cases hk
    · exact N p hp
def pairLoop : List Stmt := match (fdB (mAt 26 3))[3]? with | some (Stmt.For _ _ b _ _) => b | _ => []
theorem des_pair {ka kb : SK} (iha : DesCall ka) (ihb : DesCall kb) : DesCall (.pair ka kb) := by
  intro w A E gs dr tk os hb h outer x v t T Q B₀ K hd hu hh hs ht S R hT Hok Herr
  have B := base_below B₀ K
  show wpAny (model pw w) A (call (.ref 1657) [.ref x, v]) Q E _
  have hdep : (SK.pair ka kb).dep = max ka.dep kb.dep + 1 := rfl
  rw [hdep] at hd hu
  obtain ⟨hsa, hsb, hda, hdb⟩ := hs
  obtain ⟨es, lp, np, ya, yb, I, hM, g1, g2, gl, Sa, Sb⟩ := id S
  refine x_enterM B (by omega) (by rfl) (by rfl) (by rfl) (by rfl) (by rfl) (binds := [(Str.ofString "self", _), (Str.ofString "serial", _)]) (fun S => by rfl) (locs (by rfl)) (by rfl) (by rfl) (by rfl) (by decide) ?_
  intro h₁ L tk' hL F N
  have hh' : (A.deeper (envOf (Str.ofString "List.deserialize") (fdS (mAt 26 3)) L 1657 (Value.ref 1656))).handled = none := hh
  have hu' : (A.deeper (envOf (Str.ofString "List.deserialize") (fdS (mAt 26 3)) L 1657 (Value.ref 1656))).units = A.units + 3 := rfl
  have hdd : (A.deeper (envOf (Str.ofString "List.deserialize") (fdS (mAt 26 3)) L 1657 (Value.ref 1656))).depth = A.depth + 1 := rfl
  show wpAny _ _ (execs (fdB (mAt 26 3)) _) _ _ _
  refine wpAny_execs_cons ?_
  refine wpAny_If ?_
  cases R with
  | @b o s =>
    repeat' tb_start
    refine isseq_bytes (B.keeps F.keep) (by rw [hdd]; omega) fun h₂ tk₂ k₂ => ?_
    replace N := news_ke N k₂
    replace F := F.keeps k₂
    repeat' tb_start
    refine x_cls F B (C := 160) (by rfl) (by rfl) (by decide) (by rfl) (by rfl) (by rfl) (by rfl) ?_
    repeat' tb_start
    refine ⟨B.keeps F.keep, ldes_new (B.keeps F.keep) (by rw [hdd]; omega) (fun S e => by rfl) (by decide) (short_of (sm_of (by decide +kernel)) (by decide)) (by simp) fun h₃ e₃ ta D tk₃ M => ?_⟩
    refine des_leave K F B (by rfl) hh (.inr rfl) (n := 10 * (max ka.dep kb.dep + 1) + 3) ?_ M fun h₄ x₄ X => Herr (by rfl) h₄ _ x₄ _ X
    exact sm_mono (sm_of (by decide +kernel)) (by omega)
  | @l a vs n ts h1 h2 =>
    have hgl := hT _ h1
    have hts : ts.length ≤ 1000 := by cases ht; assumption
    have hvl := h2.length
    repeat' tb_start
    refine isseq_list (B.keeps F.keep) (by rw [hdd]; omega) (F.keep _ _ hgl) fun h₂ tk₂ k₂ => ?_
    replace N := news_ke N k₂
    replace F := F.keeps k₂
    repeat' tb_start
    refine x_own F B I hT (by rfl) (by rfl) (attr := none) (by rfl) (by rfl) g2 (by rfl) fun tk₃ => ?_
    repeat' tb_start
    refine slen F B (by rw [hdd]; omega) S hT fun h₅ t₅ tk₅ k₅ => ?_
    replace N := news_ke N k₅
    replace F := F.keeps k₅
    repeat' tb_start
    · refine x_cls F B (C := 160) (by rfl) (by rfl) (by decide) (by rfl) (by rfl) (by rfl) (by rfl) ?_
      repeat' tb_start
      refine slen F B (by rw [hdd]; omega) S hT fun h₆ t₆ tk₆ k₆ => ?_
      replace N := news_ke N k₆
      replace F := F.keeps k₆
      repeat' tb_start
      refine x_modlens N (.head _) (by omega) (by omega) (by omega) (by omega) fun Tm t₇ tk₇ hsm hne => ?_
      repeat' tb_start
      refine ⟨B.keeps F.keep, ldes_new (B.keeps F.keep) (by rw [hdd]; omega) (fun S e => by rfl) hne (short_of hsm (by decide)) (by simp) fun h₃ e₃ ta D tk₃ M => ?_⟩
      refine des_leave K F B (by rfl) hh (.inr rfl) (n := 10 * (max ka.dep kb.dep + 1) + 3) (sm_mono hsm (by omega)) M fun h₄ x₄ X => Herr (accS_pair_len (by omega)) h₄ _ x₄ _ X
    · have hv2 : vs.length = 2 := by omega
      rename_i uD _ _ _
      refine wpAny_For ?_ (by intro x; rfl)
      repeat' tb_start
      refine x_own F B I hT (by rfl) (by rfl) (attr := none) (by rfl) (by rfl) g1 (by rfl) fun tk₆ => ?_
      repeat' tb_start
      refine x_zip_ll F N (F.keep _ _ (hT _ gl)) (F.keep _ _ hgl) fun h₆ z TI TO i1 i2 Z hap hz hS F₆ N₆ => ?_
      clear F N
      have F := F₆
      have N := N₆
      clear F₆ N₆
      repeat' tb_start
      have hlL : ∀ {b : Addr} {o : Obj}, h.get? b = some o → b < h₆.objs.size ∧ b ≠ L := fun q => ⟨Heap.lt_size (F.keep _ _ q), Nat.ne_of_lt (hL ▸ Heap.lt_size q)⟩
      have hne1 : ∀ {b : Addr} {o : Obj}, (b, o) ∈ T → b ≠ i1 := fun hb q => by
        have h1 := (hap i1 (by simp)).1
        rw [← q, hT _ hb] at h1
        cases h1
      have hne2 : a ≠ i2 := fun q => by
        have h1 := (hap i2 (by simp)).1
        rw [← q, hgl] at h1
        cases h1
      have hD2 : ∀ A' : Around, A'.handled = none → Draws pw w A' i2 [i2, a] 2 (fun i v => vs.toArray[i]? = some v) (fun i h => h.IsListIter i2 a i ∧ h.IsList a vs.toArray) := fun A' hA => by
        have D := Draws.list (prog := pw) (w := w) hA i2 a hne2 vs.toArray
        rw [show vs.toArray.size = 2 from by simp [hv2]] at D
        exact D
      refine x_enum_zip (n := 2) (P1 := fun i v => [Value.ref ya, .ref yb].toArray[i]? = some v) (P2 := fun i v => vs.toArray[i]? = some v) hh' F N Z hap (hlL (hT _ gl)) (hlL hgl) hz hS (fun A' hA => Draws.list hA i1 lp (hne1 gl) #[Value.ref ya, .ref yb]) (fun A' hA => hD2 A' hA) (fun i mm nw => ∃ (ρ : List (Str × Value)) (ws : List Value) (nD : Nat) (T2 : Ledger), mm = look ([(Str.ofString "found", Value.ref uD), (Str.ofString "self", .ref x), (Str.ofString "serial", .ref a)] ++ ρ) ∧ nw = (uD, lob ws nD) :: T2 ∧ (∀ p ∈ T2, p.1 ≠ uD) ∧ ws.length = i ∧ ∀ (j : Nat) (v : Value) (t : Tr), ws[j]? = some v → ts[j]? = some t → accS (if j = 0 then ka else kb) t = true ∧ DRep T2 v (if j = 0 then ka else kb) t)
        ?_ ?_ ?_
      · exact ⟨_, [], 0, [], (look_front (Has.all (by tb_rel))).symm, rfl, off_nil, rfl, by simp⟩
      · clear F N
        rintro i xv vi ti Tu Tp m' nw h₅ tk₅ own wr hi hxv hvi hTu hTp ⟨ρ, ws, nD, T2, rfl, rfl, hoff, hwl, hws⟩ hnw hlive hof F N
        obtain ⟨k, y, tr, rfl, hti, hk, Sy, ihk, hsk, hdk, hdm, Ri, htt⟩ : ∃ k y tr, xv = .ref y ∧ ts[i]? = some tr ∧ (if i = 0 then ka else kb) = k ∧ SRep T y k ∧ DesCall k ∧ SKS k ∧ k.dep ≤ 1 ∧ k.dep ≤ max ka.dep kb.dep ∧ Rep T vi tr ∧ TrS tr := by
          obtain ⟨tr, hti, Ri⟩ := h2.get i vi (by simpa using hvi)
          have htt : TrS tr := by cases ht with | l _ q => exact q _ (List.mem_of_getElem? hti)
          rcases i with _ | _ | i
          · simp at hxv
            exact ⟨ka, ya, tr, hxv.symm, hti, rfl, Sa, iha, hsa, hda, Nat.le_max_left _ _, Ri, htt⟩
          · simp at hxv
            exact ⟨kb, yb, tr, hxv.symm, hti, rfl, Sb, ihb, hsb, hdb, Nat.le_max_right _ _, Ri, htt⟩
          · omega
        refine assign_Tuple_tuple (s := ⟨h₅, gs, dr, tk₅, os⟩) hh' hTu (by rfl) (by rfl) fun h₆ x₆ => ?_
        have k₆ := extBut_ke x₆
        obtain ⟨X, N₆, pinned⟩ := pin (items := [.ref y, vi]) (F.keeps k₆) (news_ke N k₆) (by obtain ⟨o, ho, r⟩ := hTp; exact ⟨o, k₆ _ _ ho, r⟩)
        have F₆ := F.keeps k₆
        clear F N
        have F := F₆
        have N := N₆
        clear F₆ N₆
        refine assignInOrder_cons ?_
        repeat' tb_start
        refine assignInOrder_cons ?_
        dsimp only [assignEach, List.map_cons, List.map_nil]
        refine x_assign_tup F N hh' (pinned F N) (by rfl) (by rfl) fun h₇ F₇ N₇ => ?_
        clear F N
        have F := F₇
        have N := N₇
        clear F₇ N₇
        refine assignInOrder_cons ?_
        repeat' tb_start
        refine assignInOrder_cons ?_
        repeat' tb_start
        refine assignInOrder_nil ?_
        refine assignInOrder_nil ?_
        refine wpAny_execs_cons ?_
        refine wpAny_Try_except ?_
        repeat' tb_start
        refine meth_des F B Sy hT ?_
        refine callWith_K (h₀ := h) B.inK (keep_des k) ?_
        repeat' tb_start
        refine ⟨(B.keeps F.keep).inK, ?_⟩
        have Nold := N
        have hilt : i < ts.length := (List.getElem?_eq_some_iff.mp hti).1
        refine ihk B₀ (K.push F rfl) (by rw [hdd]; omega) (by rw [hu']; omega) hh' hsk htt Sy Ri (fun p hp => F.keep _ _ (hT p hp)) (fun hacc h₈ tk₈ v₈ T₈ k₈ X₈ D₈ => ?_) (fun hacc h₈ e₈ x₈ tk₈ X₈ => ?_)
        · have N₆ := news_adds F N k₈ X₈
          have F₆ := F.keeps k₈
          have gU := (N (uD, lob ws nD) (List.mem_append_right _ (List.mem_append_right _ (.head _)))).1
          clear F N
          have F := F₆
          have N := N₆
          clear F₆ N₆
          replace N := news_sub (T := own ++ (uD, lob ws nD) :: (T₈ ++ T2)) N (fun p hp => by
            simp only [List.mem_append, List.mem_cons] at hp ⊢
            rcases hp with hp | hp | hp | hp <;> simp [hp])
          have hoU : ∀ p ∈ own, p.1 ≠ uD := fun p hp e => by
            have gu0 := (N (uD, lob ws nD) (List.mem_append_right _ (.head _))).2.2
            rcases hof p hp with q | q | q | q
            · exact hnw (uD, lob ws nD) (.head _) (by rw [← e]; exact q)
            · exact (hap TI (by simp)).2.2 (uD, lob [] 0) (.head _) (by rw [← e, q])
            · have hgu := hT _ gl
              rw [← q, e] at hgu
              rw [gu0] at hgu
              cases hgu
            · have hgu := hgl
              rw [← q, e] at hgu
              rw [gu0] at hgu
              cases hgu
          repeat' tb_start
          refine x_append F N (by tb_rel) (upd_app hoU (.head (off_app (X₈.off gU) hoff))) (by omega) fun h₇ F₇ N₇ => ?_
          clear F N
          have F := F₇
          have N := N₇
          clear F₇ N₇
          repeat' tb_start
          refine ⟨_, _, _, _, rfl, ⟨_, ws ++ [v₈], nD + 1, T₈ ++ T2, (look_front (Has.all (by tb_rel))).symm, rfl, off_app (X₈.off gU) hoff, by rw [List.length_append, hwl]; rfl, ?_⟩, F, N, ?_⟩
          · intro j v t hj htj
            rw [List.getElem?_append] at hj
            split at hj
            · obtain ⟨q1, q2⟩ := hws j v t hj htj
              exact ⟨q1, q2.mono fun p hp => List.mem_append_right _ hp⟩
            · rename_i hlt
              have : j = i := by
                have := (List.getElem?_eq_some_iff.mp hj).1
                simp at this
                omega
              subst this
              rw [hti] at htj
              cases htj
              rw [hwl, Nat.sub_self] at hj
              cases hj
              rw [hk]
              exact ⟨hacc, D₈.mono fun p hp => List.mem_append_left _ hp⟩
          · intro p hp
            rcases List.mem_cons.mp hp with rfl | hp
            · exact hnw (uD, lob ws nD) (.head _)
            · rcases List.mem_append.mp hp with hp | hp
              · intro hw
                obtain ⟨o, ho⟩ := hlive _ hw
                have h1 := (Nold (p.1, o) (List.mem_append_right _ (List.mem_append_left _ ho))).1
                rw [(X₈ p hp).2] at h1
                cases h1
              · exact hnw p (.tail _ hp)
        · refine des_handler B₀ K F N (by rfl) (by rfl) (by omega) (by omega) X₈ hdk (by omega) (by rfl) (by rfl) (by rfl) (by rfl) (by rfl) (by rfl) (by omega) (by decide) (by decide) (by decide) (by decide) fun h₉ e₉ x₉ tk₉ X₉ => Herr ?_ h₉ e₉ x₉ tk₉ (X₉.mono (by omega) (by omega))
          have hl2 : ts.length = 2 := by omega
          match ts, hl2, hti with
          | [t0, t1], _, hti =>
            show (accS ka t0 && accS kb t1) = false
            rcases i with _ | _ | i
            · simp at hti hk
              subst hti hk
              rw [hacc, Bool.false_and]
            · simp at hti hk
              subst hti hk
              rw [hacc, Bool.and_false]
            · omega
      · clear F N
        rintro m' nw h₅ tk₅ ⟨ρ, ws, nD, T2, rfl, rfl, hoff, hwl, hws⟩ F N
        repeat' tb_start
        refine kde_tupleOf (s := ⟨_, gs, dr, _, os⟩) (zs := ws) F N (isl_of (N.get (.head _))) (by simp; omega) (by simp) fun D h₆ F₆ N₆ _ => ?_
        have hl2 : ts.length = 2 := by omega
        match ts, ws, hl2, hwl, hws, Hok, N₆ with
        | [t0, t1], [w0, w1], _, _, hws, Hok, N₆ =>
          obtain ⟨q0, d0⟩ := hws 0 w0 t0 rfl rfl
          obtain ⟨q1, d1⟩ := hws 1 w1 t1 rfl rfl
          refine Hok ?_ h₆ _ _ ((D, { cls := .type "tuple", data := .seq #[w0, w1] }) :: T2) F₆.keep (New.sub (New.of_news N₆) fun p hp => ?_) (.pair (.head _) (d0.mono fun p hp => .tail _ hp) (d1.mono fun p hp => .tail _ hp))
          · show (accS ka t0 && accS kb t1) = true
            rw [show accS ka t0 = true from q0, show accS kb t1 = true from q1]
            rfl
          · rcases List.mem_cons.mp hp with rfl | hp
            · exact .head _
            · exact .tail _ (.tail _ hp)
theorem des_call : ∀ k : SK, DesCall k
  | .oct .. => des_oct
  | .truth => des_truth
  | .many _ k => des_many (des_call k)
  | .pair a b => des_pair (des_call a) (des_call b)
end

section
/-- what serialize of a kind answers for a value that deserialize made -/
def SerCall (k : SK) : Prop := ∀ {w : World} {A : Around} {E : Value → Shared → Prop} {gs : Array GenState} {dr : Drawn} {tk : Nat} {os : OsState} {h : Heap} {x : Addr} {v : Value} {t : Tr} {T : Ledger} {Q : Value → Shared → Prop},
  Base w h → A.depth + 10 * k.dep + 10 < recursionLimit → A.units + 10 * k.dep + 60 < cLine → A.handled = none → SKS k → TrS t → SRep T x k → DRep T v k t → (∀ p ∈ T, h.get? p.1 = some p.2) →
  (∀ h' tk' v' T', Ke h h' → New h h' T' → Rep T' v' t → Q v' ⟨h', gs, dr, tk', os⟩) →
  wpAny (model pw w) A (call (.ref k.ser) [.ref x, v]) Q E ⟨h, gs, dr, tk, os⟩
section
variable {w : World} {A : Around} {E : Value → Shared → Prop} {gs : Array GenState} {dr : Drawn} {tk : Nat} {os : OsState} {h : Heap} {Q : Value → Shared → Prop}
/-- the same, where the code is at hand -/
theorem x_codeM {name qual : Str} {scope : Scope} {params : Arguments} {body : List Stmt} {dV kwdV : Value} {ann : Option Addr} {pm doc : Value} {f c : Addr} {o oc : Obj} {vs : Array Value} {tq : Tok} {vals : List Value} {kw : List (Str × Value)} {binds : List (Str × Value)}
    (B : Base w h) (hdep : A.depth < recursionLimit) (ho : (objs w.params).lookup f = some o) (hdat : o.data = .func (defFd name qual params body scope mainGlobals dV kwdV ann pm (.ref c) doc))
    (hc : (objs w.params).lookup c = some oc) (hcd : oc.data = .fields vs) (hq : vs[1]? = some (.str qual tq))
    (hbind : ∀ S, peek (objs w.params) S (bindArgs (defFd name qual params body scope mainGlobals dV kwdV ann pm (.ref c) doc) ⟨vals, kw⟩) = some binds)
    (hloc : ∀ x ∈ binds, scope.names.lookup x.1 = some .local) (hco : scope.isCoroutine = false) (hgen : scope.isGenerator = false) (hk : scope.kind = .function) (hcell : ∀ x ∈ scope.names, x.2 ≠ .cell)
    (H : ∀ h₁ L tk', L = h.objs.size → Fr h L h₁ (look binds.reverse) → News h L h₁ [] →
      wpAny (model pw w) (A.deeper (envOf qual scope L f (.ref c))) (execs body (envOf qual scope L f (.ref c))) (fun fl s' => Q (match fl with | .ret v => v | _ => .none) s')
        (fun e s' => wpAny (model pw w) (A.deeper (envOf qual scope L f (.ref c))) (leaving (envOf qual scope L f (.ref c)) e) (fun _ s'' => E e s'') (fun e' s'' => E e' s'') s') ⟨h₁, gs, dr, tk', os⟩) :
    codeAny (model pw w) A (.call (.ref f) ⟨vals, kw⟩) (fun r s' => match r with | .ok (.ret v) => Q v s' | .ok _ => False | .error e => E e s') ⟨h, gs, dr, tk, os⟩ :=
  (codeAny_call_def (s := ⟨h, gs, dr, tk, os⟩) hdep (B.get ho) hdat B.nolimit ⟨c, oc, vs, tq, rfl, B.get hc, hcd, hq⟩ rfl (kp_binds B.inK hbind) hcell hloc (fun h₁ hns hkeep => wpAny_mono (H h₁ _ _ rfl ⟨hns, hkeep, Nat.le_refl _⟩ News.nil) (fun fl s' x => by cases fl <;> exact x) fun _ _ x => x) hco hgen hk)
end
section
variable {w : World} {A : Around} {E : Value → Shared → Prop} {gs : Array GenState} {dr : Drawn} {tk : Nat} {os : OsState} {h g : Heap} {L x : Addr} {mm : Str → Option Value} {news T : Ledger} {Q : Value → Shared → Prop} {t : Tok}
theorem ivt_code {b : List UInt8} {c : Value} (B : Base w h) (hd : A.depth + 1 < recursionLimit) (H : ∀ h' tk', Ke h h' → Q (.bool true) ⟨h', gs, dr, tk', os⟩) : codeAny (model pw w) A (.call (.ref 1543) ⟨[c, .bytes b.toArray t], []⟩) (fun r s' => match r with | .ok (.ret v) => Q v s' | .ok _ => False | .error e => E e s') ⟨h, gs, dr, tk, os⟩ := by
  refine x_codeM B (by omega) (by rfl) (by rfl) (by rfl) (by rfl) (by rfl) (binds := [(Str.ofString "cls", _), (Str.ofString "obj", _)]) (fun S => by rfl) (locs (by rfl)) (by rfl) (by rfl) (by rfl) (by decide) ?_
  intro h₁ L tk' _ F N
  show wpAny _ _ (execs (fdB (mAt 18 2)) _) _ _ _
  refine wpAny_execs_cons ?_
  refine wpAny_Return_some ?_
  repeat' tb_start
  exact x_isi_bytes (B.keeps F.keep) (N.get (.head _)) fun tk2 => H _ _ F.keep
end
theorem ser_oct {lo hi : Nat} {e : Bool} : SerCall (.oct lo hi e) := by
  intro w A E gs dr tk os h x v t T Q B hd hu hh hs ht S R hT H
  show wpAny (model pw w) A (call (.ref 1560) [.ref x, v]) Q E _
  obtain ⟨es, t1, t2, I, hM, g1, g2, g3⟩ := id S
  have hd : A.depth + 10 < recursionLimit := by have : (SK.oct lo hi e).dep = 0 := rfl; omega
  refine x_enterM B (by omega) (by rfl) (by rfl) (by rfl) (by rfl) (by rfl) (binds := [(Str.ofString "self", _), (Str.ofString "obj", _)]) (fun S => by rfl) (locs (by rfl)) (by rfl) (by rfl) (by rfl) (by decide) ?_
  intro h₁ L tk' _ F N
  have hh' : (A.deeper (envOf (Str.ofString "Binary.serialize") (fdS (mAt 18 4)) L 1560 (Value.ref 1559))).handled = none := hh
  show wpAny _ _ (execs (fdB (mAt 18 4)) _) _ _ _
  refine wpAny_execs_cons ?_
  refine wpAny_If ?_
  cases R with
  | @oct _ _ _ o s hf =>
    have ho : o.length ≤ 1000 := by cases ht; assumption
    repeat' tb_start
    refine method_of_cls (s := ⟨_, gs, dr, _, os⟩) F B.inK (by rfl) ?_
    refine cls_cm (s := ⟨_, gs, dr, _, os⟩) F B.inK N (mc := .type "type") (by rfl) (by rfl) (p := 1545) (by rfl) (f := .ref 1543) (by rfl) fun q h₂ F₂ N₂ hq => ?_
    clear F N
    have F := F₂
    have N := N₂
    clear F₂ N₂
    refine callWith_M (h₀ := h) B.inK N (.head _) (by rfl) ?_
    repeat' tb_start
    refine ⟨⟨N.get (.head _), (B.keeps F.keep).inK⟩, ?_⟩
    refine wpAny_call (ks_codeAny_call_bound (N.get (.head _)) ?_)
    refine ivt_code (B.keeps F.keep) (by show A.depth + 1 + 1 < _; omega) fun h₃ tk₃ k₃ => ?_
    replace N := news_ke N k₃
    replace F := F.keeps k₃
    repeat' tb_start
    refine x_meth F B I hT (by rfl) (f := 1553) (by rfl) (by rfl) hM.2.2.1 ?_
    refine callWith_K (h₀ := h) B.inK (by rfl) ?_
    repeat' tb_start
    refine ⟨(B.keeps F.keep).inK, ivl_call (B.keeps F.keep) (by show A.depth + 1 + 1 < _; omega) hh' S (fun p hp => F.keep _ _ (hT p hp)) hs.1 hs.2 (by omega) fun h₂ tk₂ k => ?_⟩
    rw [hf]
    replace N := news_ke N k
    replace F := F.keeps k
    repeat' tb_start
    exact H _ _ _ [] F.keep New.nil .b
end

section
theorem is_bools {M : Model} {A : Around} {E : Value → Shared → Prop} {s : Shared} {a b : Bool} {Q : Value → Shared → Prop} (H : Q (.bool (a == b)) s) : wpAny M A (compareOp .Is (.bool a) (.bool b)) Q E s := by
  cases a <;> cases b <;> exact wpAny_pure H
theorem ser_truth : SerCall .truth := by
  intro w A E gs dr tk os h x v t T Q B hd hu hh hs ht S R hT H
  show wpAny (model pw w) A (call (.ref 1591) [.ref x, v]) Q E _
  have hd : A.depth + 10 < recursionLimit := by have : SK.truth.dep = 0 := rfl; omega
  refine x_enterM B (by omega) (by rfl) (by rfl) (by rfl) (by rfl) (by rfl) (binds := [(Str.ofString "self", _), (Str.ofString "obj", _)]) (fun S => by rfl) (locs (by rfl)) (by rfl) (by rfl) (by rfl) (by decide) ?_
  intro h₁ L tk' _ F N
  have hh' : (A.deeper (envOf (Str.ofString "Boolean.serialize") (fdS (mAt 21 0)) L 1591 (Value.ref 1590))).handled = none := hh
  show wpAny _ _ (execs (fdB (mAt 21 0)) _) _ _ _
  refine wpAny_execs_cons ?_
  refine wpAny_If ?_
  cases R with
  | ff =>
    repeat' tb_start
    refine kia_one (s := ⟨_, gs, dr, _, os⟩) (K := objs w.params) kitx_bool (B.keeps F.keep).inK trivial (b := true) (by rfl) (by intro q; cases q) fun tk₂ => ?_
    repeat' tb_start
    refine is_bools ?_
    rw [show (false == false) = true from rfl]
    repeat' tb_start
    exact H _ _ _ [] F.keep New.nil .b
  | tt =>
    repeat' tb_start
    refine kia_one (s := ⟨_, gs, dr, _, os⟩) (K := objs w.params) kitx_bool (B.keeps F.keep).inK trivial (b := true) (by rfl) (by intro q; cases q) fun tk₂ => ?_
    repeat' tb_start
    refine is_bools ?_
    rw [show (true == false) = false from rfl]
    repeat' tb_start
    refine is_bools ?_
    rw [show (true == true) = true from rfl]
    repeat' tb_start
    exact H _ _ _ [] F.keep New.nil .b
end

section
theorem reps_of {T : Ledger} : ∀ {ws : List Value} {ts : List Tr}, ws.length = ts.length → (∀ (j : Nat) (v : Value) (t : Tr), ws[j]? = some v → ts[j]? = some t → Rep T v t) → Reps T ws ts
  | [], [], _, _ => .nil
  | w :: ws, t :: ts, hl, h => .cons (h 0 w t rfl rfl) (reps_of (by simpa using hl) fun j v t hv ht => h (j + 1) v t (by simpa using hv) (by simpa using ht))
theorem x_lentup {prog : Program} {w : World} {A : Around} {E : Value → Shared → Prop} {gs : Array GenState} {dr : Drawn} {tk : Nat} {os : OsState} {h : Heap} {Q : Value → Shared → Prop} {a : Addr} {vs : Array Value} {n : Nat} (ha : h.get? a = some { cls := .type "tuple", data := .seq vs n }) (hz : vs.size ≤ 1000000) (H : ∀ t' tk', Q (.int (vs.size : Nat) t') ⟨h, gs, dr, tk', os⟩) :
    wpAny (model prog w) A (call (.builtin "len") [.ref a]) Q E ⟨h, gs, dr, tk, os⟩ := len_tuple (s := ⟨h, gs, dr, tk, os⟩) ⟨_, ha, rfl, n, rfl⟩ (by omega) (H _ _)
theorem ser_many {m : Nat} {k : SK} (ih : SerCall k) : SerCall (.many m k) := by
  intro w A E gs dr tk os h x v t T Q B hd hu hh hs ht S R hT H
  show wpAny (model pw w) A (call (.ref 1686) [.ref x, v]) Q E _
  have hdep : (SK.many m k).dep = k.dep + 1 := rfl
  rw [hdep] at hd hu
  obtain ⟨es, y, tm, I, hM, g1, g2, S1⟩ := S
  refine x_enterM B (by omega) (by rfl) (by rfl) (by rfl) (by rfl) (by rfl) (binds := [(Str.ofString "self", _), (Str.ofString "obj", _)]) (fun S => by rfl) (locs (by rfl)) (by rfl) (by rfl) (by rfl) (by decide) ?_
  intro h₁ L tk' hL F N
  have hh' : (A.deeper (envOf (Str.ofString "CountableList.serialize") (fdS (mAt 27 1)) L 1686 (Value.ref 1685))).handled = none := hh
  have hu' : (A.deeper (envOf (Str.ofString "CountableList.serialize") (fdS (mAt 27 1)) L 1686 (Value.ref 1685))).units = A.units + 3 := rfl
  have hdd : (A.deeper (envOf (Str.ofString "CountableList.serialize") (fdS (mAt 27 1)) L 1686 (Value.ref 1685))).depth = A.depth + 1 := rfl
  show wpAny _ _ (execs (fdB (mAt 27 1)) _) _ _ _
  have omax : ∀ {A : Around} {E : Value → Shared → Prop} {Q : Value → Shared → Prop} {expr : Bool} {tk : Nat} {h₂ : Heap} {mm : Str → Option Value}, Fr h L h₂ mm → (∀ tk', Q (maxV m tm) ⟨h₂, gs, dr, tk', os⟩) → wpAny (model pw w) A (getAttr (.ref x) (Str.ofString "max_length") expr) Q E ⟨h₂, gs, dr, tk, os⟩ := fun F k => x_own F B I hT (by rfl) (by rfl) (attr := none) (by rfl) (by rfl) g2 (by unfold maxV; split <;> rfl) k
  cases R with
  | @many _ _ a vs n ts hmem hmax hlen hel =>
    have hgl := hT _ hmem
    have hts : ts.length ≤ 1000 := by cases ht; assumption
    refine wpAny_execs_cons ?_
    refine wpAny_If ?_
    repeat' tb_start
    refine isseq_tup (B.keeps F.keep) (by rw [hdd]; omega) (F.keep _ _ hgl) fun h₂ tk₂ k₂ => ?_
    replace N := news_ke N k₂
    replace F := F.keeps k₂
    refine x_truthy ?_
    refine x_ite_nt ?_
    refine wpAny_execs_nil ?_
    refine wpAny_execs_cons ?_
    refine wpAny_If (wpAny_mono (Q := fun c s => c = false ∧ ∃ h₉ tk, s = ⟨h₉, gs, dr, tk, os⟩ ∧ Fr h L h₉ (look [(Str.ofString "obj", Value.ref a), (Str.ofString "self", .ref x)]) ∧ News h L h₉ []) ?_ ?_ fun _ _ z => z)
    · repeat' tb_start
      refine omax F fun tk₆ => ?_
      by_cases hm : m < 3
      · rw [show maxV m tm = .int m tm from if_pos hm]
        repeat' tb_start
        refine isnot_none_gen ?_
        rw [show (!(Value.int (m : Nat) tm == Value.none)) = true from by rfl]
        repeat' tb_start
        refine x_lentup (F.keep _ _ hgl) (by omega) fun t₇ tk₇ => ?_
        repeat' tb_start
        refine omax F fun tk₈ => ?_
        rw [show maxV m tm = .int m tm from if_pos hm]
        repeat' tb_start
        · have := hmax hm
          exact absurd this (by omega)
        · exact ⟨rfl, _, _, rfl, F, N⟩
      · rw [show maxV m tm = .none from if_neg hm]
        repeat' tb_start
        refine isnot_none_gen ?_
        rw [show (!(Value.none == Value.none)) = false from by rfl]
        repeat' tb_start
        exact ⟨rfl, _, _, rfl, F, N⟩
    · clear F N
      rintro c _ ⟨rfl, h₉, tk₆, rfl, F, N⟩
      repeat' tb_start
      rename_i uD _ _ _
      refine wpAny_For ?_ (by intro x; rfl)
      repeat' tb_start
      refine x_enum_tup hh' F N (F.keep _ _ hgl) (Nat.ne_of_lt (hL ▸ Heap.lt_size hgl)) (fun i mm nw => ∃ (ρ : List (Str × Value)) (ws : List Value) (nD : Nat) (T2 : Ledger), mm = look ([(Str.ofString "found", Value.ref uD), (Str.ofString "self", .ref x)] ++ ρ) ∧ nw = (uD, lob ws nD) :: T2 ∧ (∀ p ∈ T2, p.1 ≠ uD) ∧ ws.length = i ∧ ∀ (j : Nat) (v : Value) (t : Tr), ws[j]? = some v → ts[j]? = some t → Rep T2 v t)
        ?_ ?_ ?_
      · exact ⟨_, [], 0, [], (look_front (Has.all (by tb_rel))).symm, rfl, off_nil, rfl, by simp⟩
      · clear F N
        rintro i vi ti Tu m' nw h₅ tk₅ own wr hvi hTu ⟨ρ, ws, nD, T2, rfl, rfl, hoff, hwl, hws⟩ hnw hlive hof F N
        obtain ⟨tr, hti⟩ : ∃ tr, ts[i]? = some tr := ⟨_, List.getElem?_eq_getElem (by have := (Array.getElem?_eq_some_iff.mp hvi).1; omega)⟩
        have Di := hel i vi tr hvi hti
        have htt : TrS tr := by cases ht with | l _ q => exact q _ (List.mem_of_getElem? hti)
        have hilt : i < ts.length := (List.getElem?_eq_some_iff.mp hti).1
        refine x_assign_tup F N hh' hTu (by rfl) (by rfl) fun h₆ F₆ N₆ => ?_
        clear F N
        have F := F₆
        have N := N₆
        clear F₆ N₆
        refine assignInOrder_cons ?_
        repeat' tb_start
        refine assignInOrder_cons ?_
        repeat' tb_start
        refine assignInOrder_nil ?_
        refine wpAny_execs_cons ?_
        refine wpAny_Try_except ?_
        repeat' tb_start
        refine x_own F B I hT (by rfl) (by rfl) (attr := none) (by rfl) (by rfl) g1 (by rfl) fun tk₈ => ?_
        refine meth_ser F B S1 hT ?_
        refine callWith_K (h₀ := h) B.inK (keep_ser k) ?_
        repeat' tb_start
        refine ⟨(B.keeps F.keep).inK, ?_⟩
        have Nold := N
        refine ih (B.keeps F.keep) (by rw [hdd]; omega) (by rw [hu']; omega) hh' hs.2.1 htt S1 Di (fun p hp => F.keep _ _ (hT p hp)) fun h₈ tk₈ v₈ T₈ k₈ X₈ D₈ => ?_
        have N₆ := news_adds F N k₈ X₈
        have F₆ := F.keeps k₈
        have gU := (N (uD, lob ws nD) (List.mem_append_right _ (.head _))).1
        clear F N
        have F := F₆
        have N := N₆
        clear F₆ N₆
        replace N := news_sub (T := own ++ (uD, lob ws nD) :: (T₈ ++ T2)) N (fun p hp => by
          simp only [List.mem_append, List.mem_cons] at hp ⊢
          rcases hp with hp | hp | hp | hp <;> simp [hp])
        have hoU : ∀ p ∈ own, p.1 ≠ uD := fun p hp e => by
          rcases hof p hp with q | q
          · exact hnw (uD, lob ws nD) (.head _) (by rw [← e]; exact q)
          · have hgu := hgl
            rw [← q, e] at hgu
            rw [(N (uD, lob ws nD) (List.mem_append_right _ (.head _))).2.2] at hgu
            cases hgu
        repeat' tb_start
        refine x_append F N (by tb_rel) (upd_app hoU (.head (off_app (X₈.off gU) hoff))) (by omega) fun h₇ F₇ N₇ => ?_
        clear F N
        have F := F₇
        have N := N₇
        clear F₇ N₇
        repeat' tb_start
        refine ⟨_, _, _, _, rfl, ⟨_, ws ++ [v₈], nD + 1, T₈ ++ T2, (look_front (Has.all (by tb_rel))).symm, rfl, off_app (X₈.off gU) hoff, by rw [List.length_append, hwl]; rfl, ?_⟩, F, N, ?_⟩
        · intro j v t hj htj
          rw [List.getElem?_append] at hj
          split at hj
          · exact (hws j v t hj htj).mono fun p hp => List.mem_append_right _ hp
          · rename_i hlt
            have : j = i := by
              have := (List.getElem?_eq_some_iff.mp hj).1
              simp at this
              omega
            subst this
            rw [hti] at htj
            cases htj
            rw [hwl, Nat.sub_self] at hj
            cases hj
            exact D₈.mono fun p hp => List.mem_append_left _ hp
        · intro p hp
          rcases List.mem_cons.mp hp with rfl | hp
          · exact hnw (uD, lob ws nD) (.head _)
          · rcases List.mem_append.mp hp with hp | hp
            · intro hw
              obtain ⟨o, ho⟩ := hlive _ hw
              have h1 := (Nold (p.1, o) (List.mem_append_left _ ho)).1
              rw [(X₈ p hp).2] at h1
              cases h1
            · exact hnw p (.tail _ hp)
      · clear F N
        rintro m' nw h₅ tk₅ ⟨ρ, ws, nD, T2, rfl, rfl, hoff, hwl, hws⟩ F N
        repeat' tb_start
        exact H _ _ _ _ F.keep (New.of_news N) (.l (.head _) ((reps_of (by omega) hws).mono fun p hp => .tail _ hp))
end

section
theorem ser_pair {ka kb : SK} (iha : SerCall ka) (ihb : SerCall kb) : SerCall (.pair ka kb) := by
  intro w A E gs dr tk os h x v t T Q B hd hu hh hs ht S R hT H
  show wpAny (model pw w) A (call (.ref 1650) [.ref x, v]) Q E _
  have hdep : (SK.pair ka kb).dep = max ka.dep kb.dep + 1 := rfl
  rw [hdep] at hd hu
  obtain ⟨hsa, hsb, hda, hdb⟩ := hs
  obtain ⟨es, lp, np, ya, yb, I, hM, g1, g2, gl, Sa, Sb⟩ := id S
  refine x_enterM B (by omega) (by rfl) (by rfl) (by rfl) (by rfl) (by rfl) (binds := [(Str.ofString "self", _), (Str.ofString "obj", _)]) (fun S => by rfl) (locs (by rfl)) (by rfl) (by rfl) (by rfl) (by decide) ?_
  intro h₁ L tk' hL F N
  have hh' : (A.deeper (envOf (Str.ofString "List.serialize") (fdS (mAt 26 2)) L 1650 (Value.ref 1649))).handled = none := hh
  have hu' : (A.deeper (envOf (Str.ofString "List.serialize") (fdS (mAt 26 2)) L 1650 (Value.ref 1649))).units = A.units + 3 := rfl
  have hdd : (A.deeper (envOf (Str.ofString "List.serialize") (fdS (mAt 26 2)) L 1650 (Value.ref 1649))).depth = A.depth + 1 := rfl
  show wpAny _ _ (execs (fdB (mAt 26 2)) _) _ _ _
  cases R with
  | @pair _ _ a v1 v2 n t1 t2 hmem d1 d2 =>
    have hgl := hT _ hmem
    refine wpAny_execs_cons ?_
    refine wpAny_If ?_
    repeat' tb_start
    refine isseq_tup (B.keeps F.keep) (by rw [hdd]; omega) (F.keep _ _ hgl) fun h₂ tk₂ k₂ => ?_
    replace N := news_ke N k₂
    replace F := F.keeps k₂
    refine x_truthy ?_
    refine x_ite_nt ?_
    refine wpAny_execs_nil ?_
    refine wpAny_execs_cons ?_
    refine wpAny_If (wpAny_mono (Q := fun c s => c = false ∧ ∃ h₉ tk, s = ⟨h₉, gs, dr, tk, os⟩ ∧ Fr h L h₉ (look [(Str.ofString "obj", Value.ref a), (Str.ofString "self", .ref x)]) ∧ News h L h₉ []) ?_ ?_ fun _ _ z => z)
    · repeat' tb_start
      refine x_own F B I hT (by rfl) (by rfl) (attr := none) (by rfl) (by rfl) g2 (by rfl) fun tk₃ => ?_
      repeat' tb_start
      refine slen F B (by rw [hdd]; omega) S hT fun h₅ t₅ tk₅ k₅ => ?_
      replace N := news_ke N k₅
      replace F := F.keeps k₅
      repeat' tb_start
      refine x_lentup (F.keep _ _ hgl) (by simp) fun t₇ tk₇ => ?_
      repeat' tb_start
      · rename_i hq
        exact absurd rfl hq
      · exact ⟨rfl, _, _, rfl, F, N⟩
    · clear F N
      rintro c _ ⟨rfl, h₉, tk₆, rfl, F, N⟩
      repeat' tb_start
      rename_i uD _ _ _
      refine wpAny_For ?_ (by intro x; rfl)
      repeat' tb_start
      refine x_own F B I hT (by rfl) (by rfl) (attr := none) (by rfl) (by rfl) g1 (by rfl) fun tk₆ => ?_
      repeat' tb_start
      refine x_zip_tl F N (F.keep _ _ hgl) (F.keep _ _ (hT _ gl)) fun h₆ z TI TO i1 i2 Z hap hz hS F₆ N₆ => ?_
      clear F N
      have F := F₆
      have N := N₆
      clear F₆ N₆
      repeat' tb_start
      have hlL : ∀ {b : Addr} {o : Obj}, h.get? b = some o → b < h₆.objs.size ∧ b ≠ L := fun q => ⟨Heap.lt_size (F.keep _ _ q), Nat.ne_of_lt (hL ▸ Heap.lt_size q)⟩
      have hne1 : a ≠ i1 := fun q => by
        have h1 := (hap i1 (by simp)).1
        rw [← q, hgl] at h1
        cases h1
      have hne2 : lp ≠ i2 := fun q => by
        have h1 := (hap i2 (by simp)).1
        rw [← q, hT _ gl] at h1
        cases h1
      refine x_enum_zip (n := 2) (P1 := fun i v => #[v1, v2][i]? = some v) (P2 := fun i v => #[Value.ref ya, .ref yb][i]? = some v) hh' F N Z hap (hlL hgl) (hlL (hT _ gl)) hz hS (fun A' hA => draws_tuple hA i1 a hne1 #[v1, v2]) (fun A' hA => Draws.list hA i2 lp hne2 #[Value.ref ya, .ref yb]) (fun i mm nw => ∃ (ρ : List (Str × Value)) (ws : List Value) (nD : Nat) (T2 : Ledger), mm = look ([(Str.ofString "found", Value.ref uD), (Str.ofString "self", .ref x)] ++ ρ) ∧ nw = (uD, lob ws nD) :: T2 ∧ (∀ p ∈ T2, p.1 ≠ uD) ∧ ws.length = i ∧ ∀ (j : Nat) (v : Value) (t : Tr), ws[j]? = some v → [t1, t2][j]? = some t → Rep T2 v t)
        ?_ ?_ ?_
      · exact ⟨_, [], 0, [], (look_front (Has.all (by tb_rel))).symm, rfl, off_nil, rfl, by simp⟩
      · clear F N
        rintro i vi yv ti Tu Tp m' nw h₅ tk₅ own wr hi hvi hyv hTu hTp ⟨ρ, ws, nD, T2, rfl, rfl, hoff, hwl, hws⟩ hnw hlive hof F N
        obtain ⟨k, y, tr, rfl, hti, Sy, ihk, hsk, hdk, hdm, Di, htt⟩ : ∃ k y tr, yv = .ref y ∧ [t1, t2][i]? = some tr ∧ SRep T y k ∧ SerCall k ∧ SKS k ∧ k.dep ≤ 1 ∧ k.dep ≤ max ka.dep kb.dep ∧ DRep T vi k tr ∧ TrS tr := by
          rcases i with _ | _ | i
          · simp at hyv hvi
            subst hvi
            exact ⟨ka, ya, t1, hyv.symm, rfl, Sa, iha, hsa, hda, Nat.le_max_left _ _, d1, by cases ht with | l _ q => exact q _ (.head _)⟩
          · simp at hyv hvi
            subst hvi
            exact ⟨kb, yb, t2, hyv.symm, rfl, Sb, ihb, hsb, hdb, Nat.le_max_right _ _, d2, by cases ht with | l _ q => exact q _ (.tail _ (.head _))⟩
          · omega
        refine assign_Tuple_tuple (s := ⟨h₅, gs, dr, tk₅, os⟩) hh' hTu (by rfl) (by rfl) fun h₆ x₆ => ?_
        have k₆ := extBut_ke x₆
        obtain ⟨X, N₆, pinned⟩ := pin (items := [vi, .ref y]) (F.keeps k₆) (news_ke N k₆) (by obtain ⟨o, ho, r⟩ := hTp; exact ⟨o, k₆ _ _ ho, r⟩)
        have F₆ := F.keeps k₆
        clear F N
        have F := F₆
        have N := N₆
        clear F₆ N₆
        refine assignInOrder_cons ?_
        repeat' tb_start
        refine assignInOrder_cons ?_
        dsimp only [assignEach, List.map_cons, List.map_nil]
        refine x_assign_tup F N hh' (pinned F N) (by rfl) (by rfl) fun h₇ F₇ N₇ => ?_
        clear F N
        have F := F₇
        have N := N₇
        clear F₇ N₇
        refine assignInOrder_cons ?_
        repeat' tb_start
        refine assignInOrder_cons ?_
        repeat' tb_start
        refine assignInOrder_nil ?_
        refine assignInOrder_nil ?_
        refine wpAny_execs_cons ?_
        refine wpAny_Try_except ?_
        repeat' tb_start
        refine meth_ser F B Sy hT ?_
        refine callWith_K (h₀ := h) B.inK (keep_ser k) ?_
        repeat' tb_start
        refine ⟨(B.keeps F.keep).inK, ?_⟩
        have Nold := N
        refine ihk (B.keeps F.keep) (by rw [hdd]; omega) (by rw [hu']; omega) hh' hsk htt Sy Di (fun p hp => F.keep _ _ (hT p hp)) fun h₈ tk₈ v₈ T₈ k₈ X₈ D₈ => ?_
        have N₆ := news_adds F N k₈ X₈
        have F₆ := F.keeps k₈
        have gU := (N (uD, lob ws nD) (List.mem_append_right _ (List.mem_append_right _ (.head _)))).1
        clear F N
        have F := F₆
        have N := N₆
        clear F₆ N₆
        replace N := news_sub (T := own ++ (uD, lob ws nD) :: (T₈ ++ T2)) N (fun p hp => by
          simp only [List.mem_append, List.mem_cons] at hp ⊢
          rcases hp with hp | hp | hp | hp <;> simp [hp])
        have hoU : ∀ p ∈ own, p.1 ≠ uD := fun p hp e => by
          have gu0 := (N (uD, lob ws nD) (List.mem_append_right _ (.head _))).2.2
          rcases hof p hp with q | q | q | q
          · exact hnw (uD, lob ws nD) (.head _) (by rw [← e]; exact q)
          · exact (hap TI (by simp)).2.2 (uD, lob [] 0) (.head _) (by rw [← e, q])
          · have hgu := hgl
            rw [← q, e] at hgu
            rw [gu0] at hgu
            cases hgu
          · have hgu := hT _ gl
            rw [← q, e] at hgu
            rw [gu0] at hgu
            cases hgu
        repeat' tb_start
        refine x_append F N (by tb_rel) (upd_app hoU (.head (off_app (X₈.off gU) hoff))) (by omega) fun h₇ F₇ N₇ => ?_
        clear F N
        have F := F₇
        have N := N₇
        clear F₇ N₇
        repeat' tb_start
        refine ⟨_, _, _, _, rfl, ⟨_, ws ++ [v₈], nD + 1, T₈ ++ T2, (look_front (Has.all (by tb_rel))).symm, rfl, off_app (X₈.off gU) hoff, by rw [List.length_append, hwl]; rfl, ?_⟩, F, N, ?_⟩
        · intro j v t hj htj
          rw [List.getElem?_append] at hj
          split at hj
          · exact (hws j v t hj htj).mono fun p hp => List.mem_append_right _ hp
          · rename_i hlt
            have : j = i := by
              have := (List.getElem?_eq_some_iff.mp hj).1
              simp at this
              omega
            subst this
            rw [hti] at htj
            cases htj
            rw [hwl, Nat.sub_self] at hj
            cases hj
            exact D₈.mono fun p hp => List.mem_append_left _ hp
        · intro p hp
          rcases List.mem_cons.mp hp with rfl | hp
          · exact hnw (uD, lob ws nD) (.head _)
          · rcases List.mem_append.mp hp with hp | hp
            · intro hw
              obtain ⟨o, ho⟩ := hlive _ hw
              have h1 := (Nold (p.1, o) (List.mem_append_right _ (List.mem_append_left _ ho))).1
              rw [(X₈ p hp).2] at h1
              cases h1
            · exact hnw p (.tail _ hp)
      · clear F N
        rintro m' nw h₅ tk₅ ⟨ρ, ws, nD, T2, rfl, rfl, hoff, hwl, hws⟩ F N
        repeat' tb_start
        exact H _ _ _ _ F.keep (New.of_news N) (.l (.head _) ((reps_of (by omega) hws).mono fun p hp => .tail _ hp))
theorem ser_call : ∀ k : SK, SerCall k
  | .oct .. => ser_oct
  | .truth => ser_truth
  | .many _ k => ser_many (ser_call k)
  | .pair a b => ser_pair (ser_call a) (ser_call b)
end

section
section
variable {w : World} {A : Around} {E : Value → Shared → Prop} {gs : Array GenState} {dr : Drawn} {tk : Nat} {os : OsState} {h g : Heap} {L x : Addr} {mm : Str → Option Value} {T : Ledger} {Q : Bool → Shared → Prop}
theorem truth0 {C : Addr} {es : List DictEntry} (F : Fr g L h mm) (B : Base w g) (I : Inst T x C es) (hT : ∀ p ∈ T, g.get? p.1 = some p.2) (h1 : findIn (objs w.params) (.ref C) "__bool__" = some none) (h2 : findIn (objs w.params) (.ref C) "__len__" = some none) (H : Q true ⟨h, gs, dr, tk, os⟩) :
    wpAny (model pw w) A (truthy (.ref x)) Q E ⟨h, gs, dr, tk, os⟩ := by
  obtain ⟨dx, n, I⟩ := inst_at (h := h) I fun p hp => F.keep _ _ (hT p hp)
  exact truthy_K0 (s := ⟨h, gs, dr, tk, os⟩) F B.inK I h1 h2 H
/-- an object that reads is true -/
theorem truth_sedes {k : SK} (F : Fr g L h mm) (B : Base w g) (hd : A.depth + 5 < recursionLimit) (S : SRep T x k) (hT : ∀ p ∈ T, g.get? p.1 = some p.2) (H : ∀ h' tk', Ke h h' → Q true ⟨h', gs, dr, tk', os⟩) : wpAny (model pw w) A (truthy (.ref x)) Q E ⟨h, gs, dr, tk, os⟩ := by
  have ke : Ke h h := fun _ _ q => q
  cases k with
  | oct lo hi e => obtain ⟨es, t1, t2, I, _⟩ := S; exact truth0 F B I hT (by rfl) (by rfl) (H _ _ ke)
  | truth => obtain ⟨es, I, _⟩ := S; exact truth0 F B I hT (by rfl) (by rfl) (H _ _ ke)
  | many m k => obtain ⟨es, y, t, I, _⟩ := S; exact truth0 F B I hT (by rfl) (by rfl) (H _ _ ke)
  | pair p q =>
    obtain ⟨es, l, n, y, z, I0, hM, g1, g2, gl, r⟩ := id S
    obtain ⟨dx, n', I⟩ := inst_at (h := h) I0 fun p hp => F.keep _ _ (hT p hp)
    have X : Frag.In (objs w.params) h := (B.keeps F.keep).inK
    unfold truthy
    refine wpAny_bind (m := callSpecial? (.ref x) (Str.ofString "__bool__")) (wpAny_bind (wpAny_bind (I.type.here ((looks_findIn (K := objs w.params) (name := Str.ofString "__bool__") (r := none) X (by rfl)).here (wpAny_pure ?_)))))
    refine wpAny_bind (wpAny_bind (I.type.here ((looks_findIn (K := objs w.params) (name := Str.ofString "__len__") (r := some (.ref 1643)) X (by rfl)).here ?_)))
    dsimp only [Option.isNone_some]
    rw [if_neg (by decide)]
    refine wpAny_bind (wpAny_runValue (codeAny_builtin (b := Builtin.«len») (id := "len") (entryFor_of_tree (by kernel_rfl)) ?_))
    unfold Builtin.«len»
    refine wpAny_bind (m := oneArg "len" _) (wpAny_pure ?_)
    refine wpAny_bind (m := callSpecial? (.ref x) (Str.ofString "__len__")) (special_fn (s := ⟨h, gs, dr, tk, os⟩) (K := objs w.params) X I (f := 1643) (by rfl) (by rfl) (slen_call (B.keeps F.keep) (by show A.depth + 1 < _; omega) S (fun p hp => F.keep _ _ (hT p hp)) fun h' t' tk' k => ?_))
    dsimp only
    refine wpAny_bind (wpAny_holding (wpAny_pure ?_))
    refine wpAny_bind (wpAny_letGo ?_)
    show wpAny _ _ (if (2 : Int) < 0 then _ else _) _ _ _
    rw [if_neg (by decide)]
    show wpAny _ _ (if (2 : Int) ≥ 2 ^ 63 then _ else _) _ _ _
    rw [if_neg (by decide)]
    refine wpAny_bind (wpAny_mkInt (wpAny_pure ?_))
    exact wpAny_pure (H h' _ k)
end
end

section
section
variable {w : World} {A : Around} {E : Value → Shared → Prop} {gs : Array GenState} {dr : Drawn} {tk : Nat} {os : OsState} {h hb : Heap} {outer : List Env} {Q : Value → Shared → Prop}
theorem decodeS_call {N₁ f : Nat} (hN₁ : N₁ ≤ 1500) {o : List UInt8} {strict cb : Bool} {t1 : Tok} {vals : List Value} {kw : List (Str × Value)} {k : SK} {x : Addr} {T : Ledger} (B₀ : Base w hb) (K : Below A hb outer h) (hd : A.depth + f + 60 < recursionLimit) (hu : A.units + 100 < cLine) (hh : A.handled = none)
    (hbind : ∀ pm S, peek (objs w.params) S (bindArgs (decFd pm) ⟨vals, kw⟩) = some (decB (.bytes o.toArray t1) (.ref x) strict cb))
    (hs : SKS k) (hkd : k.dep ≤ 2) (S : SRep T x k) (hT : ∀ p ∈ T, h.get? p.1 = some p.2)
    (ho : o.length ≤ 10000) (R : IR) (hR : itemF o N₁ (f + 1) 0 = R) (hnd : R ≠ .deep) (hts : ∀ t, rawF R o.length strict = .ok t → TrS t)
    (Hok : ∀ t, rawF R o.length strict = .ok t → accS k t = true → ∀ h' v T' tk', Ke h h' → New h h' T' → DRep T' v k t → Q v ⟨h', gs, dr, tk', os⟩)
    (Hno : ∀ t, rawF R o.length strict = .ok t → accS k t = false → ∀ h' e x C tk', DesC C → x.cls = .ref C → Thrown h outer e x h' → E (.ref e) ⟨h', gs, dr, tk', os⟩)
    (Hdec : ∀ m, rawF R o.length strict = .dec m → ∀ h' e x t1 t2 tk', IsDec h h' e x (.str m t1) (.bytes o.toArray t2) → Thrown h outer e x h' → E (.ref e) ⟨h', gs, dr, tk', os⟩) :
    wpAny (model pw w) A (call (.ref 1758) vals kw) Q E ⟨h, gs, dr, tk, os⟩ := by
  have B := base_below B₀ K
  refine x_enterD B (by omega) (by rfl) (by rfl) (by rfl) (by rfl) (by rfl) (binds := decB (.bytes o.toArray t1) (.ref x) strict cb) (hbind _) (locs (by rfl)) (by rfl) (by rfl) (by rfl) (by decide) ?_
  intro h₁ L tk' _ F N
  have hh' : (A.deeper (envOf (Str.ofString "decode") (fdS (sAt 38)) L 1758 (Value.ref 1757))).handled = none := hh
  have hdd : (A.deeper (envOf (Str.ofString "decode") (fdS (sAt 38)) L 1758 (Value.ref 1757))).depth = A.depth + 1 := rfl
  have hu' : (A.deeper (envOf (Str.ofString "decode") (fdS (sAt 38)) L 1758 (Value.ref 1757))).units = A.units + 3 := rfl
  show wpAny _ _ (execs (fdB (sAt 38)) _) _ _ _
  refine wpAny_execs_cons ?_
  repeat' tb_start
  refine is_bytes_call (B.keeps F.keep) (by omega) fun h₂ tk₂ k₂ => ?_
  replace N := news_ke N k₂
  replace F := F.keeps k₂
  repeat' tb_start
  refine raw_call hN₁ B₀ (K.push F rfl) (by omega) hh' ho R hR hnd (fun t hr h₃ u3 tk₃ X => ?_) (fun m hr h₃ e x s1 s2 tk₃ hX T => ?_)
  · obtain ⟨v3, r3, T3, k₃, X3, R3⟩ := X
    replace N := news_adds F N k₃ X3
    replace F := F.keeps k₃
    repeat' tb_start
    refine truth_sedes F B (by rw [hdd]; omega) S hT fun h₄ tk₄ k₄ => ?_
    replace N := news_ke N k₄
    replace F := F.keeps k₄
    repeat' tb_start
    refine meth_des F B S hT ?_
    refine callWith_K (h₀ := h) B.inK (keep_des k) ?_
    repeat' tb_start
    refine ⟨(B.keeps F.keep).inK, ?_⟩
    refine des_call k (T := T3 ++ T) B₀ (K.push F rfl) (by rw [hdd]; omega) (by rw [hu']; omega) hh' hs (hts t hr) (S.mono fun p hp => List.mem_append_right _ hp) (R3.mono fun p hp => List.mem_append_left _ hp) (fun p hp => ?_) (fun hacc h₅ tk₅ v₅ T₅ k₅ X₅ D₅ => ?_) (fun hacc h₅ e₅ x₅ tk₅ X₅ => ?_)
    · rcases List.mem_append.mp hp with hp | hp
      · exact (N p (by simp [hp])).1
      · exact F.keep _ _ (hT p hp)
    · have N₆ := news_adds F N k₅ X₅
      replace F := F.keeps k₅
      repeat' tb_start
      exact Hok t hr hacc _ _ T₅ _ F.keep (New.sub (New.of_news N₆) fun p hp => List.mem_append_left _ hp) D₅
    · obtain ⟨g', C, ta, D, m, s, T', kp', Tt, hne, HC, hxc, _⟩ := X₅
      exact leave_thrown K F (thrown_ground kp' Tt) fun h'' T'' u => Hno t hr hacc _ _ _ C _ HC hxc T''
  · exact leave_thrown K F T fun h'' T' u => Hdec m hr _ _ _ _ _ _ ((hX.upTo u).down F.keep) T'
end
end

section
section
variable {w : World} {A : Around} {E : Value → Shared → Prop} {gs : Array GenState} {dr : Drawn} {tk : Nat} {os : OsState} {h : Heap} {Q : Value → Shared → Prop}
theorem encodeS_call {kd : Nat} {t : Tr} {v : Value} {T : Ledger} {o : Obj} {ps : Array Value} {vals : List Value} {kw : List (Str × Value)} {inf ca : Bool} {k : SK} {x : Addr} (D : Deep kd t) (B : Base w h) (hd : A.depth + 2 * kd + 60 < recursionLimit) (hu : A.units + 100 < cLine) (hh : A.handled = none) (hz : (encT t).length ≤ 60000)
    (ho : h.get? 1702 = some o) (ht : TabO o ps) (hs : SKS k) (hkd : k.dep ≤ 2) (hts : TrS t) (hT : Stands h T) (S : SRep T x k) (R : DRep T v k t)
    (hbind : ∀ pm S, peek (objs w.params) S (bindArgs (encFd pm) ⟨vals, kw⟩) = some (encB v (.ref x) inf ca))
    (H : ∀ h' t' tk' gs' o', (∀ b ob, b ≠ 1702 → h.get? b = some ob → h'.get? b = some ob) → h'.get? 1702 = some o' → (∃ ps', TabO o' ps') → GExt gs gs' → Q (.bytes (encT t).toArray t') ⟨h', gs', dr, tk', os⟩) :
    wpAny (model pw w) A (call (.ref 1722) vals kw) Q E ⟨h, gs, dr, tk, os⟩ := by
  refine x_enterD B (by omega) (by rfl) (by rfl) (by rfl) (by rfl) (by rfl) (binds := encB v (.ref x) inf ca) (hbind _) (locs (by rfl)) (by rfl) (by rfl) (by rfl) (by decide) ?_
  intro h₁ L tk' _ F₀ N₀
  have hh' : (A.deeper (envOf (Str.ofString "encode") (fdS (sAt 31)) L 1722 (Value.ref 1721))).handled = none := hh
  have hdd : (A.deeper (envOf (Str.ofString "encode") (fdS (sAt 31)) L 1722 (Value.ref 1721))).depth = A.depth + 1 := rfl
  have hu' : (A.deeper (envOf (Str.ofString "encode") (fdS (sAt 31)) L 1722 (Value.ref 1721))).units = A.units + 3 := rfl
  have B' : Base w (hideAll h [1702]) := base_tab B
  have F := fr_hide (S := 1702) F₀
  have h1L : (1702 : Addr) ≠ L := Nat.ne_of_lt (Nat.lt_of_lt_of_le (Heap.lt_size ho) F₀.above)
  have N : News (hideAll h [1702]) L h₁ [(1702, o)] := by
    intro p hp
    rw [List.mem_singleton] at hp
    subst hp
    exact ⟨F₀.keep _ _ ho, h1L, hideAll_none _ (.head _)⟩
  clear N₀
  replace B := B'
  have hT' : ∀ p ∈ T, (hideAll h [1702]).get? p.1 = some p.2 := fun p hp => hideAll_get _ (hT p hp).2 (by simpa using (hT p hp).1)
  show wpAny _ _ (execs (fdB (sAt 31)) _) _ _ _
  refine wpAny_execs_cons ?_
  refine wpAny_If ?_
  repeat' tb_start
  refine truth_sedes F B (by rw [hdd]; omega) S hT' fun h₂ tk₂ k₂ => ?_
  replace N := news_ke N k₂
  replace F := F.keeps k₂
  repeat' tb_start
  refine meth_ser F B S hT' ?_
  refine callWith_K (h₀ := hideAll h [1702]) B.inK (keep_ser k) ?_
  repeat' tb_start
  refine ⟨(B.keeps F.keep).inK, ?_⟩
  refine ser_call k (B.keeps F.keep) (by rw [hdd]; omega) (by rw [hu']; omega) hh' hs hts S R (fun p hp => F.keep _ _ (hT' p hp)) fun h₃ tk₃ v₃ T₃ k₃ X₃ R₃ => ?_
  have g17 := N.get (a := 1702) (o := o) (.head _)
  have off := X₃.off g17
  replace N := news_adds F N k₃ X₃
  replace F := F.keeps k₃
  repeat' tb_start
  refine enc_call kd t D (T := T₃) (B.keeps F.keep) (by rw [hdd]; omega) hh' hz (N.get (List.mem_append_right _ (.head _))) ht (fun p hp => ⟨off p hp, (N p (List.mem_append_left _ hp)).1⟩) R₃ fun h' t' tk' gs' o' kp h17 ht' _ ge => ?_
  have F' : Fr (hideAll h [1702]) L h' _ := ⟨F.ns.at' fun ob e => kp L ob h1L.symm e, fun b ob e => kp b ob (hide1 b ob e).2 (F.keep b ob e), F.above⟩
  have N' : News (hideAll h [1702]) L h' [(1702, o')] := by
    intro p hp
    rw [List.mem_singleton] at hp
    subst hp
    exact ⟨h17, h1L, hideAll_none _ (.head _)⟩
  clear F N
  have F := F'
  have N := N'
  clear F' N'
  repeat' tb_start
  exact H _ _ _ _ o' (fun b ob hb q => F.keep _ _ (hideAll_get _ q (by simpa using hb))) (N.get (.head _)) ht' ge
end
end

section
section
variable {w : World} {A : Around} {E : Value → Shared → Prop} {gs : Array GenState} {dr : Drawn} {tk : Nat} {os : OsState} {h hb : Heap} {outer : List Env} {Q : Value → Shared → Prop}
/-- is the word read by the kind, and by the decoder -/
theorem readsS_call {N₁ f kd : Nat} (hN₁ : N₁ ≤ 1500) {o : List UInt8} {t1 : Tok} {k : SK} {x : Addr} {T : Ledger} {o17 : Obj} {ps : Array Value} (B₀ : Base w hb) (K : Below A hb outer h) (hd : A.depth + f + 2 * kd + 90 < recursionLimit) (hu : A.units + 150 < cLine) (hh : A.handled = none)
    (hs : SKS k) (hkd : k.dep ≤ 2) (S : SRep T x k) (hT : Stands h T) (h17 : h.get? 1702 = some o17) (ht17 : TabO o17 ps)
    (ho : o.length ≤ 1000) (R : IR) (hR : itemF o N₁ (f + 1) 0 = R) (hnd : R ≠ .deep) (hback : ∀ t, rawF R o.length true = .ok t → TrS t ∧ encT t = o ∧ Deep kd t)
    (Hyes : ∀ t, rawF R o.length true = .ok t → accS k t = true → ∀ h' gs' o' t' tk', (∀ b ob, b ≠ 1702 → h.get? b = some ob → h'.get? b = some ob) → h'.get? 1702 = some o' → (∃ ps', TabO o' ps') → GExt gs gs' → Q (.int 1 t') ⟨h', gs', dr, tk', os⟩)
    (Hno : (∀ t, rawF R o.length true = .ok t → accS k t = false) → ∀ h' t' tk', Kp outer h h' → Q (.int 0 t') ⟨h', gs, dr, tk', os⟩) :
    wpAny (model pw w) A (call (.ref 1811) [.bytes o.toArray t1, .ref x]) Q E ⟨h, gs, dr, tk, os⟩ := by
  have B := base_below B₀ K
  refine x_enter B (by omega) (by rfl) (by rfl) (by rfl) (by rfl) (by rfl) (binds := [(Str.ofString "octets", _), (Str.ofString "sedes", _)]) (by rfl) (locs (by rfl)) (by rfl) (by rfl) (by rfl) (by decide) ?_
  intro h₁ L tk' _ F N
  have hh' : (A.deeper (envOf (Str.ofString "_law_reads") (fdS (sAt 48)) L 1811 (Value.ref 1810))).handled = none := hh
  have hdd : (A.deeper (envOf (Str.ofString "_law_reads") (fdS (sAt 48)) L 1811 (Value.ref 1810))).depth = A.depth + 1 := rfl
  have hu' : (A.deeper (envOf (Str.ofString "_law_reads") (fdS (sAt 48)) L 1811 (Value.ref 1810))).units = A.units + 3 := rfl
  show wpAny _ _ (execs (fdB (sAt 48)) _) _ _ _
  refine wpAny_execs_cons ?_
  refine wpAny_Try_except ?_
  repeat' tb_start
  refine decodeS_call (strict := true) (cb := false) (o := o) (t1 := t1) (k := k) (x := x) (T := T) hN₁ B₀ (K.push F rfl) (by rw [hdd]; omega) (by rw [hu']; omega) hh' (fun pm S => by rfl) hs hkd S (fun p hp => F.keep _ _ (hT p hp).2) (by omega) R hR hnd (fun t q => (hback t q).1) (fun t hr hacc h₂ v T₂ tk₂ k₂ X₂ D₂ => ?_) (fun t hr hacc h₄ e x₄ C tk₄ HC hxc T₄ => ?_) (fun m hr h₄ e x₄ s1 s2 tk₄ hX T₄ => ?_)
  · replace N := news_adds F N k₂ X₂
    replace F := F.keeps k₂
    repeat' tb_start
    obtain ⟨q1, q2, q3⟩ := hback t hr
    have h1L : (1702 : Addr) ≠ L := Nat.ne_of_lt (Nat.lt_of_lt_of_le (Heap.lt_size h17) F.above)
    refine encodeS_call (T := T₂ ++ T) (k := k) (x := x) (ca := true) (inf := true) q3 (B.keeps F.keep) (by rw [hdd]; omega) (by rw [hu']; omega) hh' (by rw [q2]; omega) (F.keep _ _ h17) ht17 hs hkd q1 (fun p hp => ?_) (S.mono fun p hp => List.mem_append_right _ hp) (D₂.mono fun p hp => List.mem_append_left _ hp) (fun pm S => by rfl) fun h₃ t₃ tk₃ gs₃ o₃ kp h17' ht' ge => ?_
    · rcases List.mem_append.mp hp with hp | hp
      · have n1 := N p (List.mem_append_left _ hp)
        refine ⟨fun z => ?_, n1.1⟩
        have n2 := n1.2.2
        rw [z, h17] at n2
        cases n2
      · exact ⟨(hT p hp).1, F.keep _ _ (hT p hp).2⟩
    rw [q2]
    have B' : Base w (hideAll h [1702]) := base_tab B
    have F0 := fr_hide (S := 1702) F
    have F' : Fr (hideAll h [1702]) L h₃ _ := ⟨F0.ns.at' fun ob e => kp L ob h1L.symm e, fun b ob e => kp b ob (hide1 b ob e).2 (F0.keep b ob e), F0.above⟩
    have N' : News (hideAll h [1702]) L h₃ [(1702, o₃)] := by
      intro p hp
      rw [List.mem_singleton] at hp
      subst hp
      exact ⟨h17', h1L, hideAll_none _ (.head _)⟩
    clear F N B F0
    have F := F'
    have N := N'
    have B := B'
    clear F' N' B'
    repeat' tb_start
    exact Hyes t hr hacc _ _ o₃ _ _ (fun b ob hb q => F.keep _ _ (hideAll_get _ q (by simpa using hb))) (N.get (.head _)) ht' ge
  · refine land (Around.frames_deeper K.stack) rfl T₄.1 fun h₅ X₅ u₅ => ?_
    obtain ⟨oe, vs, he, hec, hedi, hed, he0, he2, hen⟩ := fly_obj X₅
    obtain ⟨g5, kp5, hdom5, K5, F5, N5⟩ := reground K F N ⟨X₅.1, T₄.2.trans u₅⟩ (New.one hen he)
    have B5 := base_below B₀ K5
    refine clause_no (c := .ref 74) (fun hq => x_glob F5 B5 (by rfl) (by rfl) (by rfl) (by decide) hq) (fun hq => ?_) ?_
    · rcases HC with rfl | rfl
      · exact exc_matches (c138 (B5.keeps F5.keep)) (c74 (B5.keeps F5.keep)) he (hec.trans hxc) (by rfl) (by rfl) hq
      · exact exc_matches (c160 (B5.keeps F5.keep)) (c74 (B5.keeps F5.keep)) he (hec.trans hxc) (by rfl) (by rfl) hq
    refine clause_yes (c := .ref 138) X₅ (fun hq => x_glob F5 B5 (by rfl) (by rfl) (by rfl) (by decide) hq) (fun hq => ?_) fun h₆ X₆ u₆ => ?_
    · rcases HC with rfl | rfl
      · exact exc_matches (c138 (B5.keeps F5.keep)) (c138 (B5.keeps F5.keep)) he (hec.trans hxc) (by rfl) (by rfl) hq
      · exact exc_matches (c160 (B5.keeps F5.keep)) (c138 (B5.keeps F5.keep)) he (hec.trans hxc) (by rfl) (by rfl) hq
    obtain ⟨oe, vs, he, hec, hedi, hed, he0, he2, hen⟩ := fly_obj X₆
    obtain ⟨g6, kp6, hdom6, K6, F6, N6⟩ := reground K F N ⟨X₆.1, (T₄.2.trans u₅).trans u₆⟩ (New.one hen he)
    have B6 := base_below B₀ K6
    clear F N
    have F := F6
    have N := N6
    repeat' tb_start
    exact Hno (fun t' q => by rw [hr] at q; cases q; exact hacc) _ _ _ (kp6.trans (Kp.of_ke F.keep))
  · refine land (Around.frames_deeper K.stack) rfl T₄.1 fun h₅ X₅ u₅ => ?_
    obtain ⟨oe, vs, he, hec, hedi, hed, he0, he2, hen⟩ := fly_obj X₅
    obtain ⟨g5, kp5, hdom5, K5, F5, N5⟩ := reground K F N ⟨X₅.1, T₄.2.trans u₅⟩ (New.one hen he)
    have B5 := base_below B₀ K5
    refine clause_yes (c := .ref 74) X₅ (fun hq => x_glob F5 B5 (by rfl) (by rfl) (by rfl) (by decide) hq)
      (fun hq => wpAny_excMatches_sub_self (c74 (B5.keeps F5.keep)) he (hec.trans hX.1) (by rfl) hq) fun h₆ X₆ u₆ => ?_
    obtain ⟨oe, vs, he, hec, hedi, hed, he0, he2, hen⟩ := fly_obj X₆
    obtain ⟨g6, kp6, hdom6, K6, F6, N6⟩ := reground K F N ⟨X₆.1, (T₄.2.trans u₅).trans u₆⟩ (New.one hen he)
    have B6 := base_below B₀ K6
    clear F N
    have F := F6
    have N := N6
    repeat' tb_start
    exact Hno (fun t' q => by rw [hr] at q; cases q) _ _ _ (kp6.trans (Kp.of_ke F.keep))
end
end

section
section
variable {w : World} {A : Around} {E : Value → Shared → Prop} {gs : Array GenState} {dr : Drawn} {tk : Nat} {os : OsState} {h hb : Heap} {outer : List Env} {Q : Value → Shared → Prop}
/-- is the word read by the decoder -/
theorem readsN_call {N₁ f kd : Nat} (hN₁ : N₁ ≤ 1500) {o : List UInt8} {t1 : Tok} {o17 : Obj} {ps : Array Value} (B₀ : Base w hb) (K : Below A hb outer h) (hd : A.depth + f + 2 * kd + 90 < recursionLimit) (hu : A.units + 150 < cLine) (hh : A.handled = none)
    (h17 : h.get? 1702 = some o17) (ht17 : TabO o17 ps)
    (ho : o.length ≤ 1000) (R : IR) (hR : itemF o N₁ (f + 1) 0 = R) (hnd : R ≠ .deep) (hback : ∀ t, rawF R o.length true = .ok t → encT t = o ∧ Deep kd t)
    (Hyes : ∀ t, rawF R o.length true = .ok t → ∀ h' gs' o' t' tk', (∀ b ob, b ≠ 1702 → h.get? b = some ob → h'.get? b = some ob) → h'.get? 1702 = some o' → (∃ ps', TabO o' ps') → GExt gs gs' → Q (.int 1 t') ⟨h', gs', dr, tk', os⟩)
    (Hno : (∀ t, rawF R o.length true ≠ .ok t) → ∀ h' t' tk', Kp outer h h' → Q (.int 0 t') ⟨h', gs, dr, tk', os⟩) :
    wpAny (model pw w) A (call (.ref 1811) [.bytes o.toArray t1, .none]) Q E ⟨h, gs, dr, tk, os⟩ := by
  have B := base_below B₀ K
  refine x_enter B (by omega) (by rfl) (by rfl) (by rfl) (by rfl) (by rfl) (binds := [(Str.ofString "octets", _), (Str.ofString "sedes", _)]) (by rfl) (locs (by rfl)) (by rfl) (by rfl) (by rfl) (by decide) ?_
  intro h₁ L tk' _ F N
  have hh' : (A.deeper (envOf (Str.ofString "_law_reads") (fdS (sAt 48)) L 1811 (Value.ref 1810))).handled = none := hh
  have hdd : (A.deeper (envOf (Str.ofString "_law_reads") (fdS (sAt 48)) L 1811 (Value.ref 1810))).depth = A.depth + 1 := rfl
  have hu' : (A.deeper (envOf (Str.ofString "_law_reads") (fdS (sAt 48)) L 1811 (Value.ref 1810))).units = A.units + 3 := rfl
  show wpAny _ _ (execs (fdB (sAt 48)) _) _ _ _
  refine wpAny_execs_cons ?_
  refine wpAny_Try_except ?_
  repeat' tb_start
  refine decode_call (strict := true) (cb := false) (o := o) (t1 := t1) hN₁ B₀ (K.push F rfl) (by rw [hdd]; omega) hh' (fun pm S => by rfl) (by omega) R hR hnd (fun t hr h₂ v T₂ tk₂ k₂ X₂ D₂ => ?_) (fun m hr h₄ e x₄ s1 s2 tk₄ hX T₄ => ?_)
  · replace N := news_adds F N k₂ X₂
    replace F := F.keeps k₂
    repeat' tb_start
    obtain ⟨q2, q3⟩ := hback t hr
    have h1L : (1702 : Addr) ≠ L := Nat.ne_of_lt (Nat.lt_of_lt_of_le (Heap.lt_size h17) F.above)
    refine encode_call (T := T₂) (ca := true) q3 (B.keeps F.keep) (by rw [hdd]; omega) hh' (by rw [q2]; omega) (F.keep _ _ h17) ht17 (fun p hp => ?_) D₂ (fun pm S => by rfl) fun h₃ t₃ tk₃ gs₃ o₃ kp h17' ht' ge => ?_
    · have n1 := N p (List.mem_append_left _ hp)
      refine ⟨fun z => ?_, n1.1⟩
      have n2 := n1.2.2
      rw [z, h17] at n2
      cases n2
    rw [q2]
    have B' : Base w (hideAll h [1702]) := base_tab B
    have F0 := fr_hide (S := 1702) F
    have F' : Fr (hideAll h [1702]) L h₃ _ := ⟨F0.ns.at' fun ob e => kp L ob h1L.symm e, fun b ob e => kp b ob (hide1 b ob e).2 (F0.keep b ob e), F0.above⟩
    have N' : News (hideAll h [1702]) L h₃ [(1702, o₃)] := by
      intro p hp
      rw [List.mem_singleton] at hp
      subst hp
      exact ⟨h17', h1L, hideAll_none _ (.head _)⟩
    clear F N B F0
    have F := F'
    have N := N'
    have B := B'
    clear F' N' B'
    repeat' tb_start
    exact Hyes t hr _ _ o₃ _ _ (fun b ob hb q => F.keep _ _ (hideAll_get _ q (by simpa using hb))) (N.get (.head _)) ht' ge
  · refine land (Around.frames_deeper K.stack) rfl T₄.1 fun h₅ X₅ u₅ => ?_
    obtain ⟨oe, vs, he, hec, hedi, hed, he0, he2, hen⟩ := fly_obj X₅
    obtain ⟨g5, kp5, hdom5, K5, F5, N5⟩ := reground K F N ⟨X₅.1, T₄.2.trans u₅⟩ (New.one hen he)
    have B5 := base_below B₀ K5
    refine clause_yes (c := .ref 74) X₅ (fun hq => x_glob F5 B5 (by rfl) (by rfl) (by rfl) (by decide) hq)
      (fun hq => wpAny_excMatches_sub_self (c74 (B5.keeps F5.keep)) he (hec.trans hX.1) (by rfl) hq) fun h₆ X₆ u₆ => ?_
    obtain ⟨oe, vs, he, hec, hedi, hed, he0, he2, hen⟩ := fly_obj X₆
    obtain ⟨g6, kp6, hdom6, K6, F6, N6⟩ := reground K F N ⟨X₆.1, (T₄.2.trans u₅).trans u₆⟩ (New.one hen he)
    have B6 := base_below B₀ K6
    clear F N
    have F := F6
    have N := N6
    repeat' tb_start
    exact Hno (fun t' q => by rw [hr] at q; cases q) _ _ _ (kp6.trans (Kp.of_ke F.keep))
end
end

section
/-- the tuple that tells a kind -/
def KRep (T : Ledger) : Value → SK → Prop
  | v, .oct lo hi e => ∃ u s t1 t2, v = .ref u ∧ (u, tob [.str (Str.ofString "oct") s, .int lo t1, .int hi t2, .bool e]) ∈ T
  | v, .truth => ∃ u s, v = .ref u ∧ (u, tob [.str (Str.ofString "truth") s]) ∈ T
  | v, .many m k => ∃ u s t v1, v = .ref u ∧ (u, tob [.str (Str.ofString "many") s, .int m t, v1]) ∈ T ∧ KRep T v1 k
  | v, .pair a b => ∃ u s v1 v2, v = .ref u ∧ (u, tob [.str (Str.ofString "pair") s, v1, v2]) ∈ T ∧ KRep T v1 a ∧ KRep T v2 b
theorem KRep.mono {T T' : Ledger} (q : ∀ p ∈ T, p ∈ T') : ∀ {v : Value} {k : SK}, KRep T v k → KRep T' v k
  | _, .oct .., ⟨u, s, t1, t2, a, b⟩ => ⟨u, s, t1, t2, a, q _ b⟩
  | _, .truth, ⟨u, s, a, b⟩ => ⟨u, s, a, q _ b⟩
  | _, .many .., ⟨u, s, t, v1, a, b, r⟩ => ⟨u, s, t, v1, a, q _ b, KRep.mono q r⟩
  | _, .pair .., ⟨u, s, v1, v2, a, b, r1, r2⟩ => ⟨u, s, v1, v2, a, q _ b, KRep.mono q r1, KRep.mono q r2⟩
section
variable {w : World} {A : Around} {E : Value → Shared → Prop} {gs : Array GenState} {dr : Drawn} {tk : Nat} {os : OsState} {h : Heap} {Q : Value → Shared → Prop}
theorem fits_call {lo hi n : Nat} {e : Bool} {T : Ledger} {v : Value} {t : Tok} (B : Base w h) (hd : A.depth + 1 < recursionLimit) (hh : A.handled = none) (R : KRep T v (.oct lo hi e)) (hT : ∀ p ∈ T, h.get? p.1 = some p.2) (hn : n < 1000000)
    (H : ∀ h' tk', Ke h h' → Q (.bool (fitsB lo hi e n)) ⟨h', gs, dr, tk', os⟩) : wpAny (model pw w) A (call (.ref 1792) [v, .int n t]) Q E ⟨h, gs, dr, tk, os⟩ := by
  obtain ⟨u, s, t1, t2, rfl, hm⟩ := R
  have hg := hT _ hm
  refine x_enter B (by omega) (by rfl) (by rfl) (by rfl) (by rfl) (by rfl) (binds := [(Str.ofString "kind", _), (Str.ofString "size", _)]) (by rfl) (locs (by rfl)) (by rfl) (by rfl) (by rfl) (by decide) ?_
  intro h₁ L tk' _ F N
  have hh' : (A.deeper (envOf (Str.ofString "_law_fits") (fdS (sAt 45)) L 1792 (Value.ref 1791))).handled = none := hh
  show wpAny _ _ (execs (fdB (sAt 45)) _) _ _ _
  refine wpAny_execs_cons ?_
  refine wpAny_If ?_
  repeat' tb_start
  refine x_titem (F.keep _ _ hg) (by decide) (by decide) (by rfl) (by with_unfolding_all rfl) (fun _ => by with_unfolding_all rfl) ?_
  repeat' tb_start
  refine Compare_chain ?_ (by with_unfolding_all rfl)
  repeat' tb_start
  refine x_titem (F.keep _ _ hg) (by decide) (by decide) (by rfl) (by with_unfolding_all rfl) (fun _ => by with_unfolding_all rfl) ?_
  repeat' tb_start
  refine chain_link ?_
  repeat' tb_start
  refine le_int ?_
  repeat' tb_start
  · refine chain_last ?_
    repeat' tb_start
    refine x_titem (F.keep _ _ hg) (by decide) (by decide) (by rfl) (by with_unfolding_all rfl) (fun _ => by with_unfolding_all rfl) ?_
    repeat' tb_start
    refine le_int ?_
    repeat' tb_start
    · exact Eq.mp (congrArg (fun b => Q (.bool b) _) (by (clear H; (try simp only [natz]); (try subst_vars); rw [Bool.eq_iff_iff]; simp_all [fitsB] <;> omega))) (H _ _ F.keep)
    · refine k_and ?_
      repeat' tb_start
      refine x_titem (F.keep _ _ hg) (by decide) (by decide) (by rfl) (by with_unfolding_all rfl) (fun _ => by with_unfolding_all rfl) ?_
      repeat' tb_start
      · refine k_and1 ?_
        repeat' tb_start
        exact Eq.mp (congrArg (fun b => Q (.bool b) _) (by (clear H; (try simp only [natz]); (try subst_vars); rw [Bool.eq_iff_iff]; simp_all [fitsB] <;> omega))) (H _ _ F.keep)
      · exact Eq.mp (congrArg (fun b => Q (.bool b) _) (by (clear H; (try simp only [natz]); (try subst_vars); rw [Bool.eq_iff_iff]; simp_all [fitsB] <;> omega))) (H _ _ F.keep)
  · exact absurd ‹(lo : Int) ≤ (n : Int)› ‹¬ (lo : Int) ≤ (n : Int)›
  · refine k_and ?_
    repeat' tb_start
    refine x_titem (F.keep _ _ hg) (by decide) (by decide) (by rfl) (by with_unfolding_all rfl) (fun _ => by with_unfolding_all rfl) ?_
    repeat' tb_start
    · refine k_and1 ?_
      repeat' tb_start
      exact Eq.mp (congrArg (fun b => Q (.bool b) _) (by (clear H; (try simp only [natz]); (try subst_vars); rw [Bool.eq_iff_iff]; simp_all [fitsB] <;> omega))) (H _ _ F.keep)
    · exact Eq.mp (congrArg (fun b => Q (.bool b) _) (by (clear H; (try simp only [natz]); (try subst_vars); rw [Bool.eq_iff_iff]; simp_all [fitsB] <;> omega))) (H _ _ F.keep)
end
end

set_option hygiene true
/-- the kind that the script asks for -/
def kindF : Nat → Int → Int → SK
  | 0, n, _ => if n % 5 % 2 = 1 then .truth else .oct (n / 5 % 3).toNat (n / 5 % 3 + n / 5 / 3 % 3).toNat (n / 5 / 9 % 2 == 1)
  | d + 1, n, m => if n % 5 = 4 then .pair (kindF d (n / 5) m) (kindF d m (n / 5)) else if n % 5 ≥ 2 then .many (n / 5 % 4).toNat (kindF d (n / 5 / 4) m)
    else if n % 5 % 2 = 1 then .truth else .oct (n / 5 % 3).toNat (n / 5 % 3 + n / 5 / 3 % 3).toNat (n / 5 / 9 % 2 == 1)
theorem kindF_dep : ∀ (d : Nat) (n m : Int), (kindF d n m).dep ≤ d
  | 0, n, m => by unfold kindF; split <;> simp [SK.dep]
  | d + 1, n, m => by
    unfold kindF
    split
    · have h1 := kindF_dep d (n / 5) m
      have h2 := kindF_dep d m (n / 5)
      simp only [SK.dep]
      omega
    · split
      · have h1 := kindF_dep d (n / 5 / 4) m
        simp only [SK.dep]
        omega
      · split <;> simp [SK.dep]
theorem kindF_ok : ∀ (d : Nat) (n m : Int), d ≤ 2 → SKS (kindF d n m)
  | 0, n, m, _ => by
    unfold kindF
    split
    · trivial
    · exact ⟨by omega, by omega⟩
  | d + 1, n, m, hd => by
    unfold kindF
    split
    · exact ⟨kindF_ok d _ _ (by omega), kindF_ok d _ _ (by omega), Nat.le_trans (kindF_dep d _ _) (by omega), Nat.le_trans (kindF_dep d _ _) (by omega)⟩
    · split
      · exact ⟨by omega, kindF_ok d _ _ (by omega), Nat.le_trans (kindF_dep d _ _) (by omega)⟩
      · split
        · trivial
        · exact ⟨by omega, by omega⟩
local macro_rules | `(tactic| tb_start) => `(tactic| first
  | ((with_reducible refine' x_fdivE ?hj ?_); (case hj => exact ⟨by decide, by decide⟩); intro _ _)
  | (fail "no step"))
theorem krep_oct {T : Ledger} {u : Addr} {s t1 t2 : Tok} {a b : Int} {e : Bool} (ha : 0 ≤ a) (hb : 0 ≤ b) (hm : (u, tob [.str (Str.ofString "oct") s, .int a t1, .int b t2, .bool e]) ∈ T) : KRep T (.ref u) (.oct a.toNat b.toNat e) :=
  ⟨u, s, t1, t2, rfl, by rw [Int.toNat_of_nonneg ha, Int.toNat_of_nonneg hb]; exact hm⟩
theorem krep_many {T : Ledger} {u : Addr} {s t : Tok} {a : Int} {v : Value} {k : SK} (ha : 0 ≤ a) (hm : (u, tob [.str (Str.ofString "many") s, .int a t, v]) ∈ T) (R : KRep T v k) : KRep T (.ref u) (.many a.toNat k) :=
  ⟨u, s, t, v, rfl, by rw [Int.toNat_of_nonneg ha]; exact hm, R⟩
section
variable {w : World} {A : Around} {E : Value → Shared → Prop} {gs : Array GenState} {dr : Drawn} {tk : Nat} {os : OsState} {h : Heap} {Q : Value → Shared → Prop}
theorem kind_call : ∀ (d : Nat) {n m : Int} {A : Around} {E : Value → Shared → Prop} {tk : Nat} {h : Heap} {Q : Value → Shared → Prop} {t1 t2 t3 : Tok}, Base w h → A.depth + d + 2 < recursionLimit → A.handled = none →
    (∀ h' tk' v T, Ke h h' → New h h' T → KRep T v (kindF d n m) → Q v ⟨h', gs, dr, tk', os⟩) → wpAny (model pw w) A (call (.ref 1778) [.int n t1, .int m t2, .int (d : Nat) t3]) Q E ⟨h, gs, dr, tk, os⟩ := by
  intro d
  induction d with
  | zero =>
    intro n m A E tk h Q t1 t2 t3 B hd hh H
    refine x_enter B (by omega) (by rfl) (by rfl) (by rfl) (by rfl) (by rfl) (binds := [(Str.ofString "number", _), (Str.ofString "other", _), (Str.ofString "depth", _)]) (by rfl) (locs (by rfl)) (by rfl) (by rfl) (by rfl) (by decide) ?_
    intro h₁ L tk' _ F N
    show wpAny _ _ (execs (fdB (sAt 43)) _) _ _ _
    refine wpAny_execs_cons ?_
    repeat' tb_start
    all_goals first
      | (exfalso; omega)
      | (refine H _ _ _ _ F.keep (New.of_news N) ?_
         rw [show kindF 0 n m = .truth from by (unfold kindF; rw [if_pos (by omega)])]
         exact ⟨_, _, rfl, .head _⟩)
      | (refine H _ _ _ _ F.keep (New.of_news N) ?_
         unfold kindF
         rw [if_neg (by omega)]
         exact krep_oct (by omega) (by omega) (.head _))
      | skip
  | succ d ih =>
    intro n m A E tk h Q t1 t2 t3 B hd hh H
    refine x_enter B (by omega) (by rfl) (by rfl) (by rfl) (by rfl) (by rfl) (binds := [(Str.ofString "number", _), (Str.ofString "other", _), (Str.ofString "depth", _)]) (by rfl) (locs (by rfl)) (by rfl) (by rfl) (by rfl) (by decide) ?_
    intro h₁ L tk' _ F N
    have hh' : (A.deeper (envOf (Str.ofString "_law_kind") (fdS (sAt 43)) L 1778 (Value.ref 1777))).handled = none := hh
    have hdd : (A.deeper (envOf (Str.ofString "_law_kind") (fdS (sAt 43)) L 1778 (Value.ref 1777))).depth = A.depth + 1 := rfl
    have e1 : ((d + 1 : Nat) : Int) - 1 = (d : Nat) := by omega
    show wpAny _ _ (execs (fdB (sAt 43)) _) _ _ _
    refine wpAny_execs_cons ?_
    repeat' tb_start
    all_goals first
      | (exfalso; omega)
      | (refine H _ _ _ _ F.keep (New.of_news N) ?_
         rw [show kindF (d + 1) n m = .truth from by (unfold kindF; rw [if_neg (by omega), if_neg (by omega), if_pos (by omega)])]
         exact ⟨_, _, rfl, .head _⟩)
      | (refine H _ _ _ _ F.keep (New.of_news N) ?_
         unfold kindF
         rw [if_neg (by omega), if_neg (by omega), if_neg (by omega)]
         exact krep_oct (by omega) (by omega) (.head _))
      | skip
    · rw [e1]
      refine ih (B.keeps F.keep) (by rw [hdd]; omega) hh' fun h₂ tk₂ v₂ T₂ k₂ X₂ R₂ => ?_
      replace N := news_adds F N k₂ X₂
      replace F := F.keeps k₂
      repeat' tb_start
      rw [e1]
      refine ih (B.keeps F.keep) (by rw [hdd]; omega) hh' fun h₃ tk₃ v₃ T₃ k₃ X₃ R₃ => ?_
      replace N := news_adds F N k₃ X₃
      replace F := F.keeps k₃
      repeat' tb_start
      refine H _ _ _ _ F.keep (New.of_news N) ?_
      unfold kindF
      rw [if_pos (by omega)]
      exact ⟨_, _, _, _, rfl, .head _, R₂.mono fun p hp => by simp [hp], R₃.mono fun p hp => by simp [hp]⟩
    · rw [e1]
      refine ih (B.keeps F.keep) (by rw [hdd]; omega) hh' fun h₂ tk₂ v₂ T₂ k₂ X₂ R₂ => ?_
      replace N := news_adds F N k₂ X₂
      replace F := F.keeps k₂
      repeat' tb_start
      refine H _ _ _ _ F.keep (New.of_news N) ?_
      unfold kindF
      rw [if_neg (by omega), if_pos (by omega)]
      exact krep_many (by omega) (.head _) (R₂.mono fun p hp => by simp [hp])
end

section
theorem putL_le (name : Str) (hsh : Int) (key v : Value) : ∀ {es : List DictEntry} {k : Nat}, es.length ≤ k → (putL name hsh key v es).length ≤ k + 1
  | [], k, _ => by simp [putL]
  | e :: r, 0, h => by simp at h
  | e :: r, k + 1, h => by
    rw [putL]
    split
    · simp at h ⊢
      omega
    · simp only [List.length_cons]
      have := putL_le name hsh key v (es := r) (k := k) (by simpa using h)
      omega
section
variable {w : World} {A : Around} {E : Value → Shared → Prop} {gs : Array GenState} {dr : Drawn} {tk : Nat} {os : OsState} {h g : Heap} {L x dx C : Addr} {mm : Str → Option Value} {news : Ledger} {es : List DictEntry} {n : Nat} {name : Str} {v : Value} {Q : Unit → Shared → Prop}
/-- an attribute is set on an instance of the program's plain classes -/
theorem x_set (F : Fr g L h mm) (B : Base w g) (N : News g L h ((dx, dictOf es n) :: news)) (hx : g.get? x = some (instObj C dx))
    (hs : findIn (objs w.params) (.ref C) "__setattr__" = some (some (.builtin "object.__setattr__"))) (hp : plainOver (objs w.params) C = true) (ht : takerIn (objs w.params) C name = some none) (hh : hasDictIn (objs w.params) C = true) (hl : (getL name es).isSome = true) (hz : es.length ≤ 900) (hoff : ∀ p ∈ news, p.1 ≠ dx)
    (H : ∀ h' tk' tt, Fr g L h' mm → News g L h' ((dx, dictOf (putL name (PyData.keyHash w.params name) (.str name tt) v es) (putN name es n)) :: news) → Q () ⟨h', gs, dr, tk', os⟩) :
    wpAny (model pw w) A (setAttr (.ref x) name v) Q E ⟨h, gs, dr, tk, os⟩ := by
  have I : InstAt h x (instObj C dx) C (some (dictOf es n)) := ⟨F.keep _ _ hx, rfl, rfl, (N _ (.head _)).1⟩
  exact set_dict (s := ⟨h, gs, dr, tk, os⟩) (K := objs w.params) F B.inK N I rfl hs hp ht hh hl rfl (.head hoff) (Nat.le_trans (putL_le _ _ _ _ (Nat.le_refl _)) (by omega)) fun h' F' N' => H h' _ _ F' N'
end
section
variable {w : World} {A : Around} {E : Value → Shared → Prop} {gs : Array GenState} {dr : Drawn} {tk : Nat} {os : OsState} {h g : Heap} {x dx : Addr} {Q : Value → Shared → Prop}
theorem bin_init {lo hi : Nat} {e : Bool} {t1 t2 : Tok} (B : Base w g) (k : Ke g h) (hx : h.get? x = some (instObj 1570 dx)) (hdx : h.get? dx = some emptyDict) (hg : g.get? dx = none) (hne : x ≠ dx) (hd : A.depth + 1 < recursionLimit)
    (H : ∀ h' es n tk' t1', (∀ b o, b ≠ dx → h.get? b = some o → h'.get? b = some o) → h'.get? dx = some (dictOf es n) → NoMeth es → getL ("min_length" : Str) es = some (some (.int lo t1')) → getL ("max_length" : Str) es = some (some (.int hi t2)) → getL ("allow_empty" : Str) es = some (some (.bool e)) → Q .none ⟨h', gs, dr, tk', os⟩) :
    codeAny (model pw w) A (.call (.ref 1525) ⟨[.ref x, .int lo t1, .int hi t2, .bool e], []⟩) (fun r s' => match r with | .ok (.ret v) => Q v s' | .ok _ => False | .error e => E e s') ⟨h, gs, dr, tk, os⟩ := by
  refine x_codeM (B.keeps k) (by omega) (by rfl) (by rfl) (by rfl) (by rfl) (by rfl) (binds := [(Str.ofString "self", _), (Str.ofString "min_length", _), (Str.ofString "max_length", _), (Str.ofString "allow_empty", _)]) (fun S => by rfl) (locs (by rfl)) (by rfl) (by rfl) (by rfl) (by decide) ?_
  intro h₁ L tk' hL F₀ N₀
  have hLd : dx ≠ L := Nat.ne_of_lt (hL ▸ Heap.lt_size hdx)
  have F := fr_hide (S := dx) F₀
  have N : News (hideAll h [dx]) L h₁ [(dx, emptyDict)] := by
    intro p hp
    rw [List.mem_singleton] at hp
    subst hp
    exact ⟨F₀.keep _ _ hdx, hLd, hideAll_none _ (.head _)⟩
  have B' : Base w (hideAll h [dx]) := base_hide B k hg
  have hx' : (hideAll h [dx]).get? x = some (instObj 1570 dx) := hideAll_get _ hx (by simpa using hne)
  clear F₀ N₀
  show wpAny _ _ (execs (fdB (mAt 18 0)) _) _ _ _
  refine wpAny_execs_cons ?_
  refine plainObj_wpAny_Assign_Attribute ?_ (by rfl)
  refine x_or ?_
  repeat' tb_start
  · skip
    refine x_set F B' N hx' (by rfl) (by rfl) (by rfl) (by rfl) (by rfl) (by decide) off_nil fun h₂ tk₂ tt F₂ N₂ => ?_
    clear F N
    have F := F₂
    have N := N₂
    clear F₂ N₂
    repeat' tb_start
    refine plainObj_wpAny_Assign_Attribute ?_ (by rfl)
    repeat' tb_start
    refine x_set F B' N hx' (by rfl) (by rfl) (by rfl) (by rfl) (by rfl) (Nat.le_trans (putL_le _ _ _ _ (k := 0) (by decide)) (by decide)) off_nil fun h₂ tk₂ tt F₂ N₂ => ?_
    clear F N
    have F := F₂
    have N := N₂
    clear F₂ N₂
    repeat' tb_start
    refine plainObj_wpAny_Assign_Attribute ?_ (by rfl)
    repeat' tb_start
    refine x_set F B' N hx' (by rfl) (by rfl) (by rfl) (by rfl) (by rfl) (Nat.le_trans (putL_le _ _ _ _ (putL_le _ _ _ _ (k := 0) (by decide))) (by decide)) off_nil fun h₂ tk₂ tt F₂ N₂ => ?_
    clear F N
    have F := F₂
    have N := N₂
    clear F₂ N₂
    repeat' tb_start
    exact H _ _ _ _ _ (fun b ob hb q => F.keep _ _ (hideAll_get _ q (by simpa using hb))) (N.get (.head _)) ⟨by rfl, by rfl, by rfl, by rfl⟩ (by rfl) (by rfl) (by rfl)
  · have h0 : lo = 0 := by omega
    subst h0
    refine x_set F B' N hx' (by rfl) (by rfl) (by rfl) (by rfl) (by rfl) (by decide) off_nil fun h₂ tk₂ tt F₂ N₂ => ?_
    clear F N
    have F := F₂
    have N := N₂
    clear F₂ N₂
    repeat' tb_start
    refine plainObj_wpAny_Assign_Attribute ?_ (by rfl)
    repeat' tb_start
    refine x_set F B' N hx' (by rfl) (by rfl) (by rfl) (by rfl) (by rfl) (Nat.le_trans (putL_le _ _ _ _ (k := 0) (by decide)) (by decide)) off_nil fun h₂ tk₂ tt F₂ N₂ => ?_
    clear F N
    have F := F₂
    have N := N₂
    clear F₂ N₂
    repeat' tb_start
    refine plainObj_wpAny_Assign_Attribute ?_ (by rfl)
    repeat' tb_start
    refine x_set F B' N hx' (by rfl) (by rfl) (by rfl) (by rfl) (by rfl) (Nat.le_trans (putL_le _ _ _ _ (putL_le _ _ _ _ (k := 0) (by decide))) (by decide)) off_nil fun h₂ tk₂ tt F₂ N₂ => ?_
    clear F N
    have F := F₂
    have N := N₂
    clear F₂ N₂
    repeat' tb_start
    exact H _ _ _ _ _ (fun b ob hb q => F.keep _ _ (hideAll_get _ q (by simpa using hb))) (N.get (.head _)) ⟨by rfl, by rfl, by rfl, by rfl⟩ (by rfl) (by rfl) (by rfl)
end
/-- what stands where one dict turned -/
theorem turned {g h h' : Heap} {L x dx : Addr} {mm : Str → Option Value} {o : Obj} {es : List DictEntry} {n : Nat} {news : Ledger} (F : Fr g L h mm) (N : News g L h ((x, o) :: (dx, emptyDict) :: news)) (hne : x ≠ dx) (hoff : ∀ p ∈ news, p.1 ≠ dx) (k : ∀ b ob, b ≠ dx → h.get? b = some ob → h'.get? b = some ob) (hd : h'.get? dx = some (dictOf es n)) :
    Fr g L h' mm ∧ News g L h' ((x, o) :: (dx, dictOf es n) :: news) := by
  have d := N (dx, emptyDict) (.tail _ (.head _))
  refine ⟨⟨F.ns.at' fun ob e => k L ob d.2.1.symm e, fun b ob e => k b ob (fun z => by rw [z, d.2.2] at e; cases e) (F.keep b ob e), F.above⟩, fun p hp => ?_⟩
  rcases List.mem_cons.mp hp with rfl | hp
  · have q := N (x, o) (.head _)
    exact ⟨k _ _ hne q.1, q.2⟩
  · rcases List.mem_cons.mp hp with rfl | hp
    · exact ⟨hd, d.2⟩
    · have q := N p (.tail _ (.tail _ hp))
      exact ⟨k _ _ (hoff p hp) q.1, q.2⟩
theorem ke_turned {g h h' : Heap} {dx : Addr} (k0 : Ke g h) (hg : g.get? dx = none) (k : ∀ b ob, b ≠ dx → h.get? b = some ob → h'.get? b = some ob) : Ke g h' := fun b o q => k b o (fun z => by rw [z, hg] at q; cases q) (k0 _ _ q)
section
variable {w : World} {A : Around} {E : Value → Shared → Prop} {gs : Array GenState} {dr : Drawn} {tk : Nat} {os : OsState} {h g : Heap} {L : Addr} {mm : Str → Option Value} {news : Ledger} {Q : Value → Shared → Prop}
theorem bin_new {lo hi : Nat} {e : Bool} {t1 t2 : Tok} (F : Fr g L h mm) (N : News g L h news) (B : Base w g) (hd : A.depth + 3 < recursionLimit)
    (H : ∀ h' x T tk', Fr g L h' mm → News g L h' (T ++ news) → SRep T x (.oct lo hi e) → Q (.ref x) ⟨h', gs, dr, tk', os⟩) : wpAny (model pw w) A (call (.ref 1570) [.int lo t1, .int hi t2, .bool e]) Q E ⟨h, gs, dr, tk, os⟩ := by
  refine wpAny_call (make_K (s := ⟨h, gs, dr, tk, os⟩) (K := objs w.params) F N (B.keeps F.keep).inK (by rfl) (fI := 1525) (by rfl) (by rfl) fun x dx h₁ F₁ N₁ hlt hxd => ?_)
  have hne : x ≠ dx := Nat.ne_of_gt hxd
  have d := N₁ (dx, emptyDict) (.tail _ (.head _))
  refine codeAny_mono (bin_init (Q := fun v s' => v = .none ∧ Q (.ref x) s') (E := fun _ _ => False) (lo := lo) (hi := hi) (e := e) (t1 := t1) (t2 := t2) B F₁.keep (N₁ _ (.head _)).1 d.1 d.2.2 hne (by show A.depth + 1 + 1 < _; omega) fun h' es n tk' t1' k hd' hM g1 g2 g3 => ⟨rfl, ?_⟩) fun r s' z => ?_
  · obtain ⟨F', N'⟩ := turned F₁ N₁ hne (fun p hp => Nat.ne_of_lt (hlt p hp)) k hd'
    exact H h' x [(x, instObj 1570 dx), (dx, dictOf es n)] tk' F' N' ⟨es, t1', t2, ⟨dx, n, .head _, .tail _ (.head _)⟩, hM, g1, g2, g3⟩
  · rcases r with e | (v | _ | _ | _) <;> first | exact z | exact z.elim | skip
end
end

section
section
variable {w : World} {A : Around} {E : Value → Shared → Prop} {gs : Array GenState} {dr : Drawn} {tk : Nat} {os : OsState} {h g : Heap} {x dx : Addr} {Q : Value → Shared → Prop}
theorem cl_init {y : Addr} {mv : Value} (B : Base w g) (k : Ke g h) (hx : h.get? x = some (instObj 1696 dx)) (hdx : h.get? dx = some emptyDict) (hg : g.get? dx = none) (hne : x ≠ dx) (hd : A.depth + 1 < recursionLimit)
    (H : ∀ h' es n tk', (∀ b o, b ≠ dx → h.get? b = some o → h'.get? b = some o) → h'.get? dx = some (dictOf es n) → NoMeth es → getL ("element_sedes" : Str) es = some (some (.ref y)) → getL ("max_length" : Str) es = some (some mv) → Q .none ⟨h', gs, dr, tk', os⟩) :
    codeAny (model pw w) A (.call (.ref 1679) ⟨[.ref x, .ref y, mv], []⟩) (fun r s' => match r with | .ok (.ret v) => Q v s' | .ok _ => False | .error e => E e s') ⟨h, gs, dr, tk, os⟩ := by
  refine x_codeM (B.keeps k) (by omega) (by rfl) (by rfl) (by rfl) (by rfl) (by rfl) (binds := [(Str.ofString "self", _), (Str.ofString "element_sedes", _), (Str.ofString "max_length", _)]) (fun S => by rfl) (locs (by rfl)) (by rfl) (by rfl) (by rfl) (by decide) ?_
  intro h₁ L tk' hL F₀ N₀
  have hLd : dx ≠ L := Nat.ne_of_lt (hL ▸ Heap.lt_size hdx)
  have F := fr_hide (S := dx) F₀
  have N : News (hideAll h [dx]) L h₁ [(dx, emptyDict)] := by
    intro p hp
    rw [List.mem_singleton] at hp
    subst hp
    exact ⟨F₀.keep _ _ hdx, hLd, hideAll_none _ (.head _)⟩
  have B' : Base w (hideAll h [dx]) := base_hide B k hg
  have hx' : (hideAll h [dx]).get? x = some (instObj 1696 dx) := hideAll_get _ hx (by simpa using hne)
  clear F₀ N₀
  show wpAny _ _ (execs (fdB (mAt 27 0)) _) _ _ _
  refine wpAny_execs_cons ?_
  refine plainObj_wpAny_Assign_Attribute ?_ (by rfl)
  repeat' tb_start
  refine x_set F B' N hx' (by rfl) (by rfl) (by rfl) (by rfl) (by rfl) (by decide) off_nil fun h₂ tk₂ tt F₂ N₂ => ?_
  clear F N
  have F := F₂
  have N := N₂
  clear F₂ N₂
  repeat' tb_start
  refine plainObj_wpAny_Assign_Attribute ?_ (by rfl)
  repeat' tb_start
  refine x_set F B' N hx' (by rfl) (by rfl) (by rfl) (by rfl) (by rfl) (Nat.le_trans (putL_le _ _ _ _ (k := 0) (by decide)) (by decide)) off_nil fun h₂ tk₂ tt F₂ N₂ => ?_
  clear F N
  have F := F₂
  have N := N₂
  clear F₂ N₂
  repeat' tb_start
  exact H _ _ _ _ (fun b ob hb q => F.keep _ _ (hideAll_get _ q (by simpa using hb))) (N.get (.head _)) ⟨by rfl, by rfl, by rfl, by rfl⟩ (by rfl) (by rfl)
end
section
variable {w : World} {A : Around} {E : Value → Shared → Prop} {gs : Array GenState} {dr : Drawn} {tk : Nat} {os : OsState} {h g : Heap} {L : Addr} {mm : Str → Option Value} {news : Ledger} {Q : Value → Shared → Prop}
theorem boo_new (F : Fr g L h mm) (N : News g L h news) (B : Base w g)
    (H : ∀ h' x T tk', Fr g L h' mm → News g L h' (T ++ news) → SRep T x .truth → Q (.ref x) ⟨h', gs, dr, tk', os⟩) : wpAny (model pw w) A (call (.ref 1601) []) Q E ⟨h, gs, dr, tk, os⟩ :=
  wpAny_call (make_K0 (s := ⟨h, gs, dr, tk, os⟩) (K := objs w.params) F N (B.keeps F.keep).inK (by rfl) (by rfl) fun x dx h₁ F₁ N₁ _ _ =>
    H h₁ x [(x, instObj 1601 dx), (dx, emptyDict)] _ F₁ N₁ ⟨[], ⟨dx, 0, .head _, .tail _ (.head _)⟩, by rfl, by rfl, by rfl, by rfl⟩)
theorem cl_new {m : Nat} {k : SK} {y : Addr} {t : Tok} {T0 : Ledger} (S : SRep T0 y k) (hT0 : ∀ p ∈ T0, p ∈ news) (F : Fr g L h mm) (N : News g L h news) (B : Base w g) (hd : A.depth + 3 < recursionLimit)
    (H : ∀ h' x T tk', Fr g L h' mm → News g L h' (T ++ news) → SRep (T ++ news) x (.many m k) → Q (.ref x) ⟨h', gs, dr, tk', os⟩) : wpAny (model pw w) A (call (.ref 1696) [.ref y, maxV m t]) Q E ⟨h, gs, dr, tk, os⟩ := by
  refine wpAny_call (make_K (s := ⟨h, gs, dr, tk, os⟩) (K := objs w.params) F N (B.keeps F.keep).inK (by rfl) (fI := 1679) (by rfl) (by rfl) fun x dx h₁ F₁ N₁ hlt hxd => ?_)
  have hne : x ≠ dx := Nat.ne_of_gt hxd
  have d := N₁ (dx, emptyDict) (.tail _ (.head _))
  refine codeAny_mono (cl_init (Q := fun v s' => v = .none ∧ Q (.ref x) s') (E := fun _ _ => False) (y := y) (mv := maxV m t) B F₁.keep (N₁ _ (.head _)).1 d.1 d.2.2 hne (by show A.depth + 1 + 1 < _; omega) fun h' es n tk' kk hd' hM g1 g2 => ⟨rfl, ?_⟩) fun r s' z => ?_
  · obtain ⟨F', N'⟩ := turned F₁ N₁ hne (fun p hp => Nat.ne_of_lt (hlt p hp)) kk hd'
    exact H h' x [(x, instObj 1696 dx), (dx, dictOf es n)] tk' F' N' ⟨es, y, t, ⟨dx, n, .head _, .tail _ (.head _)⟩, hM, g1, g2, S.mono fun p hp => .tail _ (.tail _ (hT0 p hp))⟩
  · rcases r with e | (v | _ | _ | _) <;> first | exact z | exact z.elim | skip
end
end

section
section
variable {w : World} {A : Around} {E : Value → Shared → Prop} {gs : Array GenState} {dr : Drawn} {tk : Nat} {os : OsState} {h : Heap} {y : Addr} {T : Ledger} {Q : Value → Shared → Prop}
theorem issed_call {k : SK} (B : Base w h) (hd : A.depth + 1 < recursionLimit) (S : SRep T y k) (hT : ∀ p ∈ T, h.get? p.1 = some p.2) (H : ∀ h' tk', Ke h h' → Q (.bool true) ⟨h', gs, dr, tk', os⟩) : wpAny (model pw w) A (call (.ref 1614) [.ref y]) Q E ⟨h, gs, dr, tk, os⟩ := by
  refine x_enter B (by omega) (by rfl) (by rfl) (by rfl) (by rfl) (by rfl) (binds := [(Str.ofString "obj", _)]) (by rfl) (locs (by rfl)) (by rfl) (by rfl) (by rfl) (by decide) ?_
  intro h₁ L tk' _ F N
  show wpAny _ _ (execs (fdB (sAt 24)) _) _ _ _
  refine wpAny_execs_cons ?_
  refine wpAny_Return_some ?_
  repeat' tb_start
  have one : ∀ {C : Addr} {es : List DictEntry}, Inst T y C es → ∀ {hh : Heap} {mm : Str → Option Value}, Fr h L hh mm → ∃ ox od, InstAt hh y ox C (some od) := fun I _ _ F => by
    obtain ⟨dx, n, I'⟩ := inst_at I fun p hp => F.keep _ _ (hT p hp)
    exact ⟨_, _, I'⟩
  cases k with
  | oct lo hi e =>
    obtain ⟨es, t1, t2, I, _⟩ := S
    obtain ⟨ox, od, I'⟩ := one I F
    exact kia_tup (s := ⟨_, gs, dr, _, os⟩) (K := objs w.params) (its := [.ref 1503, .ref 1570, .ref 1601, .ref 1660, .ref 1696]) (kitx_own (D := 1570) (ox := ox) (od := od) (by rfl) (by rfl) (by rfl) (by rfl) (by rfl) (by rfl)) (B.keeps F.keep).inK I' (N.get (.head _)) (by rfl) (by simp) (fun tk' => H _ tk' F.keep)
  | truth =>
    obtain ⟨es, I, _⟩ := S
    obtain ⟨ox, od, I'⟩ := one I F
    exact kia_tup (s := ⟨_, gs, dr, _, os⟩) (K := objs w.params) (its := [.ref 1503, .ref 1570, .ref 1601, .ref 1660, .ref 1696]) (kitx_own (D := 1601) (ox := ox) (od := od) (by rfl) (by rfl) (by rfl) (by rfl) (by rfl) (by rfl)) (B.keeps F.keep).inK I' (N.get (.head _)) (by rfl) (by simp) (fun tk' => H _ tk' F.keep)
  | many m k =>
    obtain ⟨es, y', t, I, _⟩ := S
    obtain ⟨ox, od, I'⟩ := one I F
    exact kia_tup (s := ⟨_, gs, dr, _, os⟩) (K := objs w.params) (its := [.ref 1503, .ref 1570, .ref 1601, .ref 1660, .ref 1696]) (kitx_own (D := 1696) (ox := ox) (od := od) (by rfl) (by rfl) (by rfl) (by rfl) (by rfl) (by rfl)) (B.keeps F.keep).inK I' (N.get (.head _)) (by rfl) (by simp) (fun tk' => H _ tk' F.keep)
  | pair a b =>
    obtain ⟨es, l, n, y', z, I, _⟩ := S
    obtain ⟨ox, od, I'⟩ := one I F
    exact kia_tup (s := ⟨_, gs, dr, _, os⟩) (K := objs w.params) (its := [.ref 1503, .ref 1570, .ref 1601, .ref 1660, .ref 1696]) (kitx_own (D := 1660) (ox := ox) (od := od) (by rfl) (by rfl) (by rfl) (by rfl) (by rfl) (by rfl)) (B.keeps F.keep).inK I' (N.get (.head _)) (by rfl) (by simp) (fun tk' => H _ tk' F.keep)
end
end

section
section
variable {prog : Program} {w : World} {A : Around} {E : Value → Shared → Prop} {gs : Array GenState} {dr : Drawn} {tk : Nat} {os : OsState} {h g : Heap} {L : Addr} {mm : Str → Option Value} {news : Ledger}
theorem fresh_g (F : Fr g L h mm) : g.get? h.objs.size = none := by
  cases q : g.get? h.objs.size with
  | none => rfl
  | some o => exact absurd (Heap.lt_size (F.keep _ _ q)) (Nat.lt_irrefl _)
theorem ns_ne {g h : Heap} {L ax : Addr} {mm : Str → Option Value} {vs : List Value} {n : Nat} (F : Fr g L h mm) (hax : h.get? ax = some (lob vs n)) : L ≠ ax := by
  obtain ⟨o, es, ep, h1, h2, _⟩ := F.ns
  intro e
  subst e
  rw [hax] at h1
  cases h1
  cases h2
/-- a for loop over a list that stands -/
theorem x_iter_lst {ax : Addr} {vs : List Value} {n : Nat} {env : Env} {target : Expr} {body : List Stmt} {R : Result → Shared → Prop} (hh : A.handled = none) (J : Nat → (Str → Option Value) → Ledger → Array GenState → Prop) (h0 : J 0 mm news gs) (F : Fr g L h mm) (N : News g L h news)
    (hax : h.get? ax = some (lob vs n))
    (turn : ∀ (i : Nat) v m news gs' h tk own I, vs[i]? = some v → J i m news gs' → Fr g L h m → News g L h (own ++ news) → (∀ p ∈ own, p.1 ∈ [I, ax]) → (∀ b ∈ [I], ∃ o, (b, o) ∈ own) → (∀ p ∈ news, p.1 ∉ [I]) →
      wpAny (model prog w) A (assign target env v) (fun _ s₂ => wpAny (model prog w) A (execs body env) (fun f s₃ => match f with
          | .next | .cont => ∃ m' news' gs'' h' tk', s₃ = ⟨h', gs'', dr, tk', os⟩ ∧ J (i + 1) m' news' gs'' ∧ Fr g L h' m' ∧ News g L h' (own ++ news') ∧ ∀ p ∈ news', p.1 ∉ [I]
          | .brk => R (.ok .next) s₃
          | .ret v => R (.ok (.ret v)) s₃) (notedBy (model prog w) A env fun e s' => R (.error e) s') s₂) (notedBy (model prog w) A env fun e s' => R (.error e) s') ⟨h, gs', dr, tk, os⟩)
    (done : ∀ m' news' gs' h' tk', J vs.length m' news' gs' → Fr g L h' m' → News g L h' news' → R (.ok .next) ⟨h', gs', dr, tk', os⟩)
    (ht : ∀ I v, letOwnedTupleGo target (.ref I) v = pure ()) :
    wpAny (model prog w) A (pyIter (.ref ax)) (fun it s₂ => codeAny (model prog w) A (.forLoop target it body [] env) R s₂) E ⟨h, gs, dr, tk, os⟩ := by
  have hI : ∀ p ∈ news, p.1 ≠ h.objs.size := news_lt N
  have hLI : L ≠ h.objs.size := Nat.ne_of_lt F.ns.lt
  have hLa : L ≠ ax := ns_ne F hax
  have haI : ax ≠ h.objs.size := Nat.ne_of_lt (Heap.lt_size hax)
  refine wpAny_pyIter_list (s := ⟨h, gs, dr, tk, os⟩) (isl_of hax) ?_
  refine loop_own (Walks.list hh h.objs.size ax haI vs.toArray) (by simp [hLI, hLa]) (fun b hb => ?_) (fun i h' st b hb => ?_) J h0 (F.push _) (fun p hp => ⟨Heap.get?_push_of_some _ (N p hp).1, (N p hp).2⟩) (fun p hp => by simpa using hI p hp) ⟨⟨_, Heap.get?_push_size _ rfl, rfl, rfl⟩, _, Heap.get?_push_of_some _ hax, rfl, n, rfl⟩ ?_ (fun m' news' gs' h' tk' hJ F' N' => done m' news' gs' h' tk' (by simpa using hJ) F' N') (ht _)
  · rw [List.mem_singleton.mp hb]; exact fresh_g F
  · rw [List.mem_singleton.mp hb]
    obtain ⟨⟨o, ho, _⟩, _⟩ := st
    exact ⟨o, ho⟩
  · rintro i v m news gs' h' tk' own hi hv hJ F' N' hown hnw hlive
    exact turn i v m news gs' h' tk' own h.objs.size (by simpa using hv) hJ F' N' hown hlive hnw
/-- a for loop over a tuple that stands -/
theorem x_iter_tup {ax : Addr} {vs : List Value} {n : Nat} {env : Env} {target : Expr} {body : List Stmt} {R : Result → Shared → Prop} (hh : A.handled = none) (J : Nat → (Str → Option Value) → Ledger → Array GenState → Prop) (h0 : J 0 mm news gs) (F : Fr g L h mm) (N : News g L h news)
    (hax : h.get? ax = some { cls := .type "tuple", data := .seq vs.toArray n })
    (turn : ∀ (i : Nat) v m news gs' h tk own I, vs[i]? = some v → J i m news gs' → Fr g L h m → News g L h (own ++ news) → (∀ p ∈ own, p.1 ∈ [I, ax]) → (∀ b ∈ [I], ∃ o, (b, o) ∈ own) → (∀ p ∈ news, p.1 ∉ [I]) →
      wpAny (model prog w) A (assign target env v) (fun _ s₂ => wpAny (model prog w) A (execs body env) (fun f s₃ => match f with
          | .next | .cont => ∃ m' news' gs'' h' tk', s₃ = ⟨h', gs'', dr, tk', os⟩ ∧ J (i + 1) m' news' gs'' ∧ Fr g L h' m' ∧ News g L h' (own ++ news') ∧ ∀ p ∈ news', p.1 ∉ [I]
          | .brk => R (.ok .next) s₃
          | .ret v => R (.ok (.ret v)) s₃) (notedBy (model prog w) A env fun e s' => R (.error e) s') s₂) (notedBy (model prog w) A env fun e s' => R (.error e) s') ⟨h, gs', dr, tk, os⟩)
    (done : ∀ m' news' gs' h' tk', J vs.length m' news' gs' → Fr g L h' m' → News g L h' news' → R (.ok .next) ⟨h', gs', dr, tk', os⟩)
    (ht : ∀ I v, letOwnedTupleGo target (.ref I) v = pure ()) :
    wpAny (model prog w) A (pyIter (.ref ax)) (fun it s₂ => codeAny (model prog w) A (.forLoop target it body [] env) R s₂) E ⟨h, gs, dr, tk, os⟩ := by
  have hI : ∀ p ∈ news, p.1 ≠ h.objs.size := news_lt N
  have hLI : L ≠ h.objs.size := Nat.ne_of_lt F.ns.lt
  have hLa : L ≠ ax := by
    obtain ⟨o, es, ep, h1, h2, _⟩ := F.ns
    intro e
    subst e
    rw [hax] at h1
    cases h1
    cases h2
  have haI : ax ≠ h.objs.size := Nat.ne_of_lt (Heap.lt_size hax)
  refine wpAny_pyIter_tuple (s := ⟨h, gs, dr, tk, os⟩) ⟨_, hax, rfl, n, rfl⟩ ?_
  refine loop_own (Walks.tuple hh h.objs.size ax haI vs.toArray) (by simp [hLI, hLa]) (fun b hb => ?_) (fun i h' st b hb => ?_) J h0 (F.push _) (fun p hp => ⟨Heap.get?_push_of_some _ (N p hp).1, (N p hp).2⟩) (fun p hp => by simpa using hI p hp) ⟨⟨_, Heap.get?_push_size _ rfl, rfl, rfl⟩, _, Heap.get?_push_of_some _ hax, rfl, n, rfl⟩ ?_ (fun m' news' gs' h' tk' hJ F' N' => done m' news' gs' h' tk' (by simpa using hJ) F' N') (ht _)
  · rw [List.mem_singleton.mp hb]; exact fresh_g F
  · rw [List.mem_singleton.mp hb]
    obtain ⟨⟨o, ho, _⟩, _⟩ := st
    exact ⟨o, ho⟩
  · rintro i v m news gs' h' tk' own hi hv hJ F' N' hown hnw hlive
    exact turn i v m news gs' h' tk' own h.objs.size (by simpa using hv) hJ F' N' hown hlive hnw
end
section
variable {w : World} {A : Around} {E : Value → Shared → Prop} {gs : Array GenState} {dr : Drawn} {tk : Nat} {os : OsState} {h g : Heap} {x dx : Addr} {Q : Value → Shared → Prop}
theorem list_init {ya yb l0 : Addr} {n0 : Nat} {ka kb : SK} {T0 : Ledger} (B : Base w g) (k : Ke g h) (hx : h.get? x = some (instObj 1660 dx)) (hdx : h.get? dx = some emptyDict) (hg : g.get? dx = none) (hne : x ≠ dx) (hd : A.depth + 3 < recursionLimit) (hh : A.handled = none)
    (hl0 : h.get? l0 = some (lob [.ref ya, .ref yb] n0)) (Sa : SRep T0 ya ka) (Sb : SRep T0 yb kb) (hT0 : ∀ p ∈ T0, p.1 ≠ dx ∧ h.get? p.1 = some p.2)
    (H : ∀ h' es n tk' u n', (∀ b o, b ≠ dx → h.get? b = some o → h'.get? b = some o) → h'.get? dx = some (dictOf es n) → NoMeth es → getL ("parts" : Str) es = some (some (.ref u)) → getL ("strict" : Str) es = some (some (.bool true)) → h'.get? u = some (lob [.ref ya, .ref yb] n') → h.get? u = none → Q .none ⟨h', gs, dr, tk', os⟩) :
    codeAny (model pw w) A (.call (.ref 1636) ⟨[.ref x, .ref l0], []⟩) (fun r s' => match r with | .ok (.ret v) => Q v s' | .ok _ => False | .error e => E e s') ⟨h, gs, dr, tk, os⟩ := by
  refine x_codeM (B.keeps k) (by omega) (by rfl) (by rfl) (by rfl) (by rfl) (by rfl) (binds := [(Str.ofString "self", _), (Str.ofString "elements", _), (Str.ofString "strict", _)]) (fun S => by rfl) (locs (by rfl)) (by rfl) (by rfl) (by rfl) (by decide) ?_
  intro h₁ L tk' hL F₀ N₀
  have hh' : (A.deeper (envOf (Str.ofString "List.__init__") (fdS (mAt 26 0)) L 1636 (Value.ref 1635))).handled = none := hh
  have hLd : dx ≠ L := Nat.ne_of_lt (hL ▸ Heap.lt_size hdx)
  have F := fr_hide (S := dx) F₀
  have N : News (hideAll h [dx]) L h₁ [(dx, emptyDict)] := by
    intro p hp
    rw [List.mem_singleton] at hp
    subst hp
    exact ⟨F₀.keep _ _ hdx, hLd, hideAll_none _ (.head _)⟩
  have B' : Base w (hideAll h [dx]) := base_hide B k hg
  have hx' : (hideAll h [dx]).get? x = some (instObj 1660 dx) := hideAll_get _ hx (by simpa using hne)
  have hld : l0 ≠ dx := fun z => by
    rw [z, hdx] at hl0
    have q := congrArg Obj.data (Option.some.inj hl0)
    cases q
  have hl' : (hideAll h [dx]).get? l0 = some (lob [.ref ya, .ref yb] n0) := hideAll_get _ hl0 (by simpa using hld)
  have hT' : ∀ p ∈ T0, (hideAll h [dx]).get? p.1 = some p.2 := fun p hp => hideAll_get _ (hT0 p hp).2 (by simpa using (hT0 p hp).1)
  clear F₀ N₀
  show wpAny _ _ (execs (fdB (mAt 26 0)) _) _ _ _
  refine wpAny_execs_cons ?_
  refine plainObj_wpAny_Assign_Attribute ?_ (by rfl)
  repeat' tb_start
  rename_i u hou
  have hud : u ≠ dx := (hou _ (.head _)).symm
  have hun : h.get? u = none := by
    have q := (N (u, lob [] 0) (.head _)).2.2
    cases z : h.get? u with
    | none => rfl
    | some o => rw [hideAll_get _ z (by simpa using hud)] at q; cases q
  replace N := news_sub (T := [(dx, dictOf [] 0), (u, lob [] 0)]) N (fun p hp => by simp only [List.mem_cons, List.mem_nil_iff, or_false] at hp ⊢; rcases hp with hp | hp <;> simp [hp])
  refine x_set F B' N hx' (by rfl) (by rfl) (by rfl) (by rfl) (by rfl) (by decide) (off_cons hud off_nil) fun h₂ tk₂ tt F₂ N₂ => ?_
  clear F N
  have F := F₂
  have N := N₂
  clear F₂ N₂
  repeat' tb_start
  refine plainObj_wpAny_Assign_Attribute ?_ (by rfl)
  repeat' tb_start
  refine x_set F B' N hx' (by rfl) (by rfl) (by rfl) (by rfl) (by rfl) (Nat.le_trans (putL_le _ _ _ _ (k := 0) (by decide)) (by decide)) (off_cons hud off_nil) fun h₃ tk₃ tt₃ F₂ N₂ => ?_
  clear F N
  have F := F₂
  have N := N₂
  clear F₂ N₂
  repeat' tb_start
  have g1 : getL ("parts" : Str) (putL (Str.ofString "strict") (PyData.keyHash w.params (Str.ofString "strict")) (Value.str (Str.ofString "strict") tt₃) (Value.bool true) (putL (Str.ofString "parts") (PyData.keyHash w.params (Str.ofString "parts")) (Value.str (Str.ofString "parts") tt) (Value.ref u) [])) = some (some (.ref u)) := by rfl
  have g2 : getL ("strict" : Str) (putL (Str.ofString "strict") (PyData.keyHash w.params (Str.ofString "strict")) (Value.str (Str.ofString "strict") tt₃) (Value.bool true) (putL (Str.ofString "parts") (PyData.keyHash w.params (Str.ofString "parts")) (Value.str (Str.ofString "parts") tt) (Value.ref u) [])) = some (some (.bool true)) := by rfl
  have hM : NoMeth (putL (Str.ofString "strict") (PyData.keyHash w.params (Str.ofString "strict")) (Value.str (Str.ofString "strict") tt₃) (Value.bool true) (putL (Str.ofString "parts") (PyData.keyHash w.params (Str.ofString "parts")) (Value.str (Str.ofString "parts") tt) (Value.ref u) [])) := ⟨by rfl, by rfl, by rfl, by rfl⟩
  generalize putN (Str.ofString "strict") (putL (Str.ofString "parts") (PyData.keyHash w.params (Str.ofString "parts")) (Value.str (Str.ofString "parts") tt) (Value.ref u) []) (putN (Str.ofString "parts") [] 0) = NN at N
  generalize putL (Str.ofString "strict") (PyData.keyHash w.params (Str.ofString "strict")) (Value.str (Str.ofString "strict") tt₃) (Value.bool true) (putL (Str.ofString "parts") (PyData.keyHash w.params (Str.ofString "parts")) (Value.str (Str.ofString "parts") tt) (Value.ref u) []) = ES at N g1 g2 hM
  refine wpAny_truthy_list (s := ⟨_, gs, dr, _, os⟩) (isl_of (F.keep _ _ hl')) (by show (2 : Int) < 2 ^ 63; decide) ?_
  refine x_ite_t ?_
  refine wpAny_execs_cons ?_
  refine wpAny_For ?_ (by intro _; rfl)
  repeat' tb_start
  refine x_iter_lst hh' (fun i m nw gs' => gs' = gs ∧ (∃ ρ, look ([(Str.ofString "self", Value.ref x)] ++ ρ) = m) ∧ ∃ nD, nw = [(dx, dictOf ES NN), (u, lob ([Value.ref ya, .ref yb].take i) nD)]) ?_ F N (F.keep _ _ hl') ?_ ?_ (fun _ _ => by with_unfolding_all rfl)
  · exact ⟨rfl, ⟨_, look_front (Has.all (by tb_rel))⟩, _, rfl⟩
  · clear F N
    rintro i v m nw gs'' h₅ tk₅ own I0 hvi ⟨rfl, ⟨ρ, rfl⟩, nD, rfl⟩ F N hown hlive hnI
    obtain ⟨y, ky, rfl, Sy, htake⟩ : ∃ y ky, v = .ref y ∧ SRep T0 y ky ∧ [Value.ref ya, .ref yb].take i ++ [.ref y] = [Value.ref ya, .ref yb].take (i + 1) := by
      rcases i with _ | _ | i
      · simp at hvi
        exact ⟨ya, ka, hvi.symm, Sa, rfl⟩
      · simp at hvi
        exact ⟨yb, kb, hvi.symm, Sb, rfl⟩
      · simp at hvi
    have hoU : ∀ p ∈ own, p.1 ≠ u := fun p hp e => by
      have q1 := hown p hp
      have q2 := hnI (u, lob ([Value.ref ya, .ref yb].take i) nD) (.tail _ (.head _))
      rw [e] at q1
      simp only [List.mem_cons, List.mem_nil_iff, or_false] at q1 q2
      rcases q1 with q | q
      · exact q2 q
      · rw [q, hl0] at hun
        cases hun
    have hilen : i < 2 := (List.getElem?_eq_some_iff.mp hvi).1
    repeat' tb_start
    refine issed_call (B'.keeps F.keep) (by show A.depth + 1 + 1 < _; omega) Sy (fun p hp => F.keep _ _ (hT' p hp)) fun h₆ tk₆ k₆ => ?_
    replace N := news_ke N k₆
    replace F := F.keeps k₆
    repeat' tb_start
    have I : InstAt h₆ x (instObj 1660 dx) 1660 (some (dictOf ES NN)) := ⟨F.keep _ _ hx', rfl, rfl, (N (dx, dictOf ES NN) (List.mem_append_right _ (.head _))).1⟩
    refine get_own (s := ⟨h₆, gs'', dr, _, os⟩) (K := objs w.params) F B'.inK I (by rfl) (by rfl) (attr := none) (by rfl) (by rfl) g1 (by rfl) ?_
    repeat' tb_start
    refine x_append F N (by tb_rel) (upd_app hoU (.tail hud.symm (.head off_nil))) (by simp; omega) fun h₇ F₇ N₇ => ?_
    clear F N
    have F := F₇
    have N := N₇
    clear F₇ N₇
    rw [htake] at N
    repeat' tb_start
    refine ⟨_, _, _, _, _, rfl, ⟨rfl, ⟨_, look_front (Has.all (by tb_rel))⟩, _, rfl⟩, F, N, fun p hp => ?_⟩
    rcases List.mem_cons.mp hp with rfl | hp
    · exact hnI (dx, dictOf ES NN) (.head _)
    · rw [List.mem_singleton.mp hp]
      exact hnI (u, lob ([Value.ref ya, .ref yb].take i) nD) (.tail _ (.head _))
  · clear F N
    rintro m nw gs'' h₅ tk₅ ⟨rfl, ⟨ρ, rfl⟩, nD, rfl⟩ F N
    repeat' tb_start
    exact H _ ES NN _ u nD (fun b ob hb q => F.keep _ _ (hideAll_get _ q (by simpa using hb))) (N.get (.head _)) hM g1 g2 (N.get (.tail _ (.head _))) hun
end
end

section
section
variable {w : World} {A : Around} {E : Value → Shared → Prop} {gs : Array GenState} {dr : Drawn} {tk : Nat} {os : OsState} {h g : Heap} {L : Addr} {mm : Str → Option Value} {news : Ledger} {Q : Value → Shared → Prop}
theorem list_new {ya yb l0 : Addr} {n0 : Nat} {ka kb : SK} {T0 : Ledger} (F : Fr g L h mm) (N : News g L h news) (B : Base w g) (hd : A.depth + 5 < recursionLimit) (hh : A.handled = none) (hl0 : (l0, lob [.ref ya, .ref yb] n0) ∈ news) (Sa : SRep T0 ya ka) (Sb : SRep T0 yb kb) (hT0 : ∀ p ∈ T0, p ∈ news)
    (H : ∀ h' x T tk', Fr g L h' mm → News g L h' (T ++ news) → SRep (T ++ news) x (.pair ka kb) → Q (.ref x) ⟨h', gs, dr, tk', os⟩) : wpAny (model pw w) A (call (.ref 1660) [.ref l0]) Q E ⟨h, gs, dr, tk, os⟩ := by
  refine wpAny_call (make_K (s := ⟨h, gs, dr, tk, os⟩) (K := objs w.params) F N (B.keeps F.keep).inK (by rfl) (fI := 1636) (by rfl) (by rfl) fun x dx h₁ F₁ N₁ hlt hxd => ?_)
  have hne : x ≠ dx := Nat.ne_of_gt hxd
  have d := N₁ (dx, emptyDict) (.tail _ (.head _))
  refine codeAny_mono (list_init (Q := fun v s' => v = .none ∧ Q (.ref x) s') (E := fun _ _ => False) (T0 := T0) B F₁.keep (N₁ _ (.head _)).1 d.1 d.2.2 hne (by show A.depth + 1 + 3 < _; omega) hh (N₁ _ (.tail _ (.tail _ hl0))).1 Sa Sb (fun p hp => ⟨Nat.ne_of_lt (hlt p (hT0 p hp)), (N₁ p (.tail _ (.tail _ (hT0 p hp)))).1⟩) fun h' es n tk' u n' k hd' hM g1 g2 gu hun => ⟨rfl, ?_⟩) fun r s' z => ?_
  · obtain ⟨F', N'⟩ := turned F₁ N₁ hne (fun p hp => Nat.ne_of_lt (hlt p hp)) k hd'
    have hug : g.get? u = none := fresh1 F₁.keep hun
    have huL : u ≠ L := fun z => by
      obtain ⟨oL, es', ep, l1, _⟩ := F₁.ns
      rw [z, l1] at hun
      cases hun
    refine H h' x [(u, lob [.ref ya, .ref yb] n'), (x, instObj 1660 dx), (dx, dictOf es n)] tk' F' (fun p hp => ?_) ⟨es, u, n', ya, yb, ⟨dx, n, .tail _ (.head _), .tail _ (.tail _ (.head _))⟩, hM, g1, g2, .head _, Sa.mono fun p hp => .tail _ (.tail _ (.tail _ (hT0 p hp))), Sb.mono fun p hp => .tail _ (.tail _ (.tail _ (hT0 p hp)))⟩
    rcases List.mem_cons.mp hp with rfl | hp
    · exact ⟨gu, huL, hug⟩
    · exact N' p hp
  · rcases r with e | (v | _ | _ | _) <;> first | exact z | exact z.elim | skip
end
section
variable {w : World} {A : Around} {E : Value → Shared → Prop} {gs : Array GenState} {dr : Drawn} {tk : Nat} {os : OsState} {h : Heap} {Q : Value → Shared → Prop}
/-- the object that reads a kind is made -/
theorem sedes_call : ∀ (k : SK), SKS k → ∀ {A : Around} {E : Value → Shared → Prop} {tk : Nat} {h : Heap} {Q : Value → Shared → Prop} {v : Value} {T : Ledger}, Base w h → A.depth + 2 * k.dep + 10 < recursionLimit → A.handled = none → KRep T v k → (∀ p ∈ T, h.get? p.1 = some p.2) →
    (∀ h' tk' x T', Ke h h' → New h h' T' → SRep T' x k → Q (.ref x) ⟨h', gs, dr, tk', os⟩) → wpAny (model pw w) A (call (.ref 1785) [v]) Q E ⟨h, gs, dr, tk, os⟩ := by
  intro k
  induction k with
  | oct lo hi e =>
    intro hs A E tk h Q v T B hd hh R hT H
    obtain ⟨u, s, t1, t2, rfl, hm⟩ := R
    have hg := hT _ hm
    refine x_enter B (by omega) (by rfl) (by rfl) (by rfl) (by rfl) (by rfl) (binds := [(Str.ofString "kind", _)]) (by rfl) (locs (by rfl)) (by rfl) (by rfl) (by rfl) (by decide) ?_
    intro h₁ L tk' _ F N
    have hh' : (A.deeper (envOf (Str.ofString "_law_sedes") (fdS (sAt 44)) L 1785 (Value.ref 1784))).handled = none := hh
    have hdd : (A.deeper (envOf (Str.ofString "_law_sedes") (fdS (sAt 44)) L 1785 (Value.ref 1784))).depth = A.depth + 1 := rfl
    show wpAny _ _ (execs (fdB (sAt 44)) _) _ _ _
    refine wpAny_execs_cons ?_
    refine wpAny_If ?_
    repeat' tb_start
    refine x_titem (F.keep _ _ hg) (by decide) (by decide) (by rfl) (by with_unfolding_all rfl) (fun _ => by with_unfolding_all rfl) ?_
    repeat' tb_start
    refine x_cls F B (C := 1570) (by rfl) (by rfl) (by decide) (by rfl) (by rfl) (by rfl) (by rfl) ?_
    repeat' tb_start
    refine x_titem (F.keep _ _ hg) (by decide) (by decide) (by rfl) (by with_unfolding_all rfl) (fun _ => by with_unfolding_all rfl) ?_
    repeat' tb_start
    refine x_titem (F.keep _ _ hg) (by decide) (by decide) (by rfl) (by with_unfolding_all rfl) (fun _ => by with_unfolding_all rfl) ?_
    repeat' tb_start
    refine x_titem (F.keep _ _ hg) (by decide) (by decide) (by rfl) (by with_unfolding_all rfl) (fun _ => by with_unfolding_all rfl) ?_
    repeat' tb_start
    exact ⟨B.keeps F.keep, bin_new F N B (by rw [hdd]; omega) fun h' x T' tk' F' N' S => H h' _ x T' F'.keep (New.sub (New.of_news N') fun p hp => List.mem_append_left _ hp) S⟩
  | truth =>
    intro hs A E tk h Q v T B hd hh R hT H
    obtain ⟨u, s, rfl, hm⟩ := R
    have hg := hT _ hm
    refine x_enter B (by omega) (by rfl) (by rfl) (by rfl) (by rfl) (by rfl) (binds := [(Str.ofString "kind", _)]) (by rfl) (locs (by rfl)) (by rfl) (by rfl) (by rfl) (by decide) ?_
    intro h₁ L tk' _ F N
    have hh' : (A.deeper (envOf (Str.ofString "_law_sedes") (fdS (sAt 44)) L 1785 (Value.ref 1784))).handled = none := hh
    have hdd : (A.deeper (envOf (Str.ofString "_law_sedes") (fdS (sAt 44)) L 1785 (Value.ref 1784))).depth = A.depth + 1 := rfl
    show wpAny _ _ (execs (fdB (sAt 44)) _) _ _ _
    refine wpAny_execs_cons ?_
    refine wpAny_If ?_
    repeat' tb_start
    refine x_titem (F.keep _ _ hg) (by decide) (by decide) (by rfl) (by with_unfolding_all rfl) (fun _ => by with_unfolding_all rfl) ?_
    repeat' tb_start
    refine x_titem (F.keep _ _ hg) (by decide) (by decide) (by rfl) (by with_unfolding_all rfl) (fun _ => by with_unfolding_all rfl) ?_
    repeat' tb_start
    refine wpAny_Call_ofName (x_glob F B (by rfl) (by rfl) (by rfl) (by decide) ?_)
    refine callWith_K0 (K := objs w.params) (B.keeps F.keep).inK (by rfl) ?_
    exact boo_new F N B fun h' x T' tk' F' N' S => H h' _ x T' F'.keep (New.sub (New.of_news N') fun p hp => List.mem_append_left _ hp) S
  | many m k ih =>
    intro hs A E tk h Q v T B hd hh R hT H
    obtain ⟨u, s, t, v1, rfl, hm, R1⟩ := R
    have hdep : (SK.many m k).dep = k.dep + 1 := rfl
    rw [hdep] at hd
    have hg := hT _ hm
    refine x_enter B (by omega) (by rfl) (by rfl) (by rfl) (by rfl) (by rfl) (binds := [(Str.ofString "kind", _)]) (by rfl) (locs (by rfl)) (by rfl) (by rfl) (by rfl) (by decide) ?_
    intro h₁ L tk' _ F N
    have hh' : (A.deeper (envOf (Str.ofString "_law_sedes") (fdS (sAt 44)) L 1785 (Value.ref 1784))).handled = none := hh
    have hdd : (A.deeper (envOf (Str.ofString "_law_sedes") (fdS (sAt 44)) L 1785 (Value.ref 1784))).depth = A.depth + 1 := rfl
    show wpAny _ _ (execs (fdB (sAt 44)) _) _ _ _
    refine wpAny_execs_cons ?_
    refine wpAny_If ?_
    repeat' tb_start
    refine x_titem (F.keep _ _ hg) (by decide) (by decide) (by rfl) (by with_unfolding_all rfl) (fun _ => by with_unfolding_all rfl) ?_
    repeat' tb_start
    refine x_titem (F.keep _ _ hg) (by decide) (by decide) (by rfl) (by with_unfolding_all rfl) (fun _ => by with_unfolding_all rfl) ?_
    repeat' tb_start
    refine x_titem (F.keep _ _ hg) (by decide) (by decide) (by rfl) (by with_unfolding_all rfl) (fun _ => by with_unfolding_all rfl) ?_
    repeat' tb_start
    refine x_cls F B (C := 1696) (by rfl) (by rfl) (by decide) (by rfl) (by rfl) (by rfl) (by rfl) ?_
    repeat' tb_start
    refine x_titem (F.keep _ _ hg) (by decide) (by decide) (by rfl) (by with_unfolding_all rfl) (fun _ => by with_unfolding_all rfl) ?_
    repeat' tb_start
    refine ih hs.2.1 (B.keeps F.keep) (by rw [hdd]; omega) hh' R1 (fun p hp => F.keep _ _ (hT p hp)) fun h₂ tk₂ y T₂ k₂ X₂ S₂ => ?_
    replace N := news_adds F N k₂ X₂
    replace F := F.keeps k₂
    repeat' tb_start
    refine x_titem (F.keep _ _ hg) (by decide) (by decide) (by rfl) (by with_unfolding_all rfl) (fun _ => by with_unfolding_all rfl) ?_
    repeat' tb_start
    · have e : maxV m t = .none := if_neg (by omega)
      refine ⟨B.keeps F.keep, ?_⟩
      rw [← e]
      exact cl_new S₂ (fun p hp => List.mem_append_left _ hp) F N B (by rw [hdd]; omega) fun h' x T' tk' F' N' S => H h' _ x _ F'.keep (New.of_news N') S
    · refine x_titem (F.keep _ _ hg) (by decide) (by decide) (by rfl) (by with_unfolding_all rfl) (fun _ => by with_unfolding_all rfl) ?_
      repeat' tb_start
      have e : maxV m t = .int m t := if_pos (by have := hs.1; omega)
      refine ⟨B.keeps F.keep, ?_⟩
      rw [← e]
      exact cl_new S₂ (fun p hp => List.mem_append_left _ hp) F N B (by rw [hdd]; omega) fun h' x T' tk' F' N' S => H h' _ x _ F'.keep (New.of_news N') S
  | pair a b iha ihb =>
    intro hs A E tk h Q v T B hd hh R hT H
    obtain ⟨u, s, v1, v2, rfl, hm, R1, R2⟩ := R
    have hdep : (SK.pair a b).dep = max a.dep b.dep + 1 := rfl
    rw [hdep] at hd
    have hg := hT _ hm
    refine x_enter B (by omega) (by rfl) (by rfl) (by rfl) (by rfl) (by rfl) (binds := [(Str.ofString "kind", _)]) (by rfl) (locs (by rfl)) (by rfl) (by rfl) (by rfl) (by decide) ?_
    intro h₁ L tk' _ F N
    have hh' : (A.deeper (envOf (Str.ofString "_law_sedes") (fdS (sAt 44)) L 1785 (Value.ref 1784))).handled = none := hh
    have hdd : (A.deeper (envOf (Str.ofString "_law_sedes") (fdS (sAt 44)) L 1785 (Value.ref 1784))).depth = A.depth + 1 := rfl
    show wpAny _ _ (execs (fdB (sAt 44)) _) _ _ _
    refine wpAny_execs_cons ?_
    refine wpAny_If ?_
    repeat' tb_start
    refine x_titem (F.keep _ _ hg) (by decide) (by decide) (by rfl) (by with_unfolding_all rfl) (fun _ => by with_unfolding_all rfl) ?_
    repeat' tb_start
    refine x_titem (F.keep _ _ hg) (by decide) (by decide) (by rfl) (by with_unfolding_all rfl) (fun _ => by with_unfolding_all rfl) ?_
    repeat' tb_start
    refine x_titem (F.keep _ _ hg) (by decide) (by decide) (by rfl) (by with_unfolding_all rfl) (fun _ => by with_unfolding_all rfl) ?_
    repeat' tb_start
    refine x_cls F B (C := 1660) (by rfl) (by rfl) (by decide) (by rfl) (by rfl) (by rfl) (by rfl) ?_
    repeat' tb_start
    refine x_titem (F.keep _ _ hg) (by decide) (by decide) (by rfl) (by with_unfolding_all rfl) (fun _ => by with_unfolding_all rfl) ?_
    repeat' tb_start
    refine iha hs.1 (B.keeps F.keep) (by rw [hdd]; omega) hh' R1 (fun p hp => F.keep _ _ (hT p hp)) fun h₂ tk₂ y T₂ k₂ X₂ S₂ => ?_
    replace N := news_adds F N k₂ X₂
    replace F := F.keeps k₂
    repeat' tb_start
    refine x_titem (F.keep _ _ hg) (by decide) (by decide) (by rfl) (by with_unfolding_all rfl) (fun _ => by with_unfolding_all rfl) ?_
    repeat' tb_start
    refine ihb hs.2.1 (B.keeps F.keep) (by rw [hdd]; omega) hh' R2 (fun p hp => F.keep _ _ (hT p hp)) fun h₃ tk₃ z T₃ k₃ X₃ S₃ => ?_
    replace N := news_adds F N k₃ X₃
    replace F := F.keeps k₃
    repeat' tb_start
    refine ⟨B.keeps F.keep, ?_⟩
    exact list_new F N B (by rw [hdd]; omega) hh' (.head _) (T0 := T₃ ++ T₂) (S₂.mono fun p hp => List.mem_append_right _ hp) (S₃.mono fun p hp => List.mem_append_left _ hp) (fun p hp => by rcases List.mem_append.mp hp with hp | hp <;> simp [hp]) fun h' x T' tk' F' N' S => H h' _ x _ F'.keep (New.of_news N') S
end
end

section
/-- a list of different octets -/
def LetOk (ls : List Int) : Prop := ls.Nodup ∧ ∀ l ∈ ls, 0 ≤ l ∧ l < 256
theorem LetOk.snoc {ls : List Int} {l : Int} (h : LetOk ls) (h0 : 0 ≤ l) (h1 : l < 256) (hn : (ls.any (· == l)) = false) : LetOk (ls ++ [l]) := by
  refine ⟨List.nodup_append.mpr ⟨h.1, by simp, fun a ha b hb => ?_⟩, fun a ha => ?_⟩
  · rw [List.mem_singleton.mp hb]
    intro e
    subst e
    rw [List.any_eq_false] at hn
    exact hn _ ha (by simp)
  · rcases List.mem_append.mp ha with ha | ha
    · exact h.2 a ha
    · rw [List.mem_singleton.mp ha]; exact ⟨h0, h1⟩
def often (P : Params) : List Value := match (ob1764 P).data with | .seq a _ => a.toList | _ => []
theorem often_ob (P : Params) : ob1764 P = { cls := .type "tuple", data := .seq (often P).toArray } := rfl
theorem often_get (P : Params) {j : Nat} (hj : j < 19) : ∃ l t, (often P)[j]? = some (.int l t) ∧ 0 ≤ l ∧ l < 256 := by
  have : j = 0 ∨ j = 1 ∨ j = 2 ∨ j = 3 ∨ j = 4 ∨ j = 5 ∨ j = 6 ∨ j = 7 ∨ j = 8 ∨ j = 9 ∨ j = 10 ∨ j = 11 ∨ j = 12 ∨ j = 13 ∨ j = 14 ∨ j = 15 ∨ j = 16 ∨ j = 17 ∨ j = 18 := by omega
  rcases this with rfl | rfl | rfl | rfl | rfl | rfl | rfl | rfl | rfl | rfl | rfl | rfl | rfl | rfl | rfl | rfl | rfl | rfl | rfl <;> exact ⟨_, _, rfl, by decide, by decide⟩
section
variable {w : World} {A : Around} {E : Value → Shared → Prop} {gs : Array GenState} {dr : Drawn} {tk : Nat} {os : OsState} {h : Heap} {Q : Value → Shared → Prop}
theorem letters_call {a : Addr} {vs : List Value} {ns : List Int} {n : Nat} (B : Base w h) (hd : A.depth + 1 < recursionLimit) (hh : A.handled = none) (ha : h.get? a = some (lob vs n)) (hi : IntsAre vs ns) (hl : ns.length ≤ 5)
    (H : ∀ h' tk' u ws ls n', Ke h h' → New h h' [(u, lob ws n')] → IntsAre ws ls → LetOk ls → 3 ≤ ls.length → ls.length ≤ 5 → Q (.ref u) ⟨h', gs, dr, tk', os⟩) : wpAny (model pw w) A (call (.ref 1771) [.ref a]) Q E ⟨h, gs, dr, tk, os⟩ := by
  refine x_enter B (by omega) (by rfl) (by rfl) (by rfl) (by rfl) (by rfl) (binds := [(Str.ofString "numbers", _)]) (by rfl) (locs (by rfl)) (by rfl) (by rfl) (by rfl) (by decide) ?_
  intro h₁ L tk' _ F N
  have hh' : (A.deeper (envOf (Str.ofString "_law_letters") (fdS (sAt 42)) L 1771 (Value.ref 1770))).handled = none := hh
  have hvl := hi.length
  show wpAny _ _ (execs (fdB (sAt 42)) _) _ _ _
  refine wpAny_execs_cons ?_
  repeat' tb_start
  rename_i u _ _ _
  refine wpAny_For ?_ (by intro _; rfl)
  repeat' tb_start
  refine x_iter_lst hh' (fun i m nw gs' => gs' = gs ∧ (∃ ρ, look ([(Str.ofString "letters", Value.ref u)] ++ ρ) = m) ∧ ∃ ws ls nD, nw = [(u, lob ws nD)] ∧ IntsAre ws ls ∧ LetOk ls ∧ ls.length ≤ i) ?_ F N (F.keep _ _ ha) ?_ ?_ (fun _ _ => by with_unfolding_all rfl)
  · exact ⟨rfl, ⟨_, look_front (Has.all (by tb_rel))⟩, [], [], 0, rfl, .nil, ⟨List.nodup_nil, fun _ q => nomatch q⟩, Nat.le_refl _⟩
  · clear F N
    rintro i v m nw gs'' h₅ tk₅ own I0 hvi ⟨rfl, ⟨ρ, rfl⟩, ws, ls, nD, rfl, hws, hok, hlen⟩ F N hown hlive hnI
    have hil := (List.getElem?_eq_some_iff.mp hvi).1
    obtain ⟨tn, e⟩ := ints_get hi i (by omega)
    rw [hvi] at e
    cases e
    generalize ns.getD i 0 = num at hvi
    have hoU : ∀ p ∈ own, p.1 ≠ u := fun p hp e => by
      have q1 := hown p hp
      have q2 := hnI (u, lob ws nD) (.head _)
      rw [e] at q1
      simp only [List.mem_cons, List.mem_nil_iff, or_false] at q1 q2
      rcases q1 with q | q
      · exact q2 q
      · have q3 := (N (u, lob ws nD) (List.mem_append_right _ (.head _))).2.2
        rw [q, ha] at q3
        cases q3
    have hwl := hws.length
    repeat' tb_start
    · obtain ⟨l, tl, g1, g2, g3⟩ := often_get w.params (j := (num / 2 % 19).toNat) (by omega)
      refine x_titem (items := often w.params) (n := 0) (((B.keeps F.keep).get (a := 1764) (by rfl)).trans (congrArg some (often_ob w.params))) (by omega) (by omega) g1 (by with_unfolding_all rfl) (fun _ => by with_unfolding_all rfl) ?_
      repeat' tb_start
      refine notin_list_ints (s := ⟨_, gs'', dr, _, os⟩) (isl_of (N.get (List.mem_append_right _ (.head _)))) hws ?_
      repeat' tb_start
      · refine ⟨_, _, _, _, _, rfl, ⟨rfl, ⟨_, look_front (Has.all (by tb_rel))⟩, _, ls ++ [l], _, rfl, hws.append (.cons _ _ .nil), hok.snoc g2 g3 (by have hq : (!ls.any (· == l)) = true := (by assumption); simpa using hq), by simp only [List.length_append, List.length_cons, List.length_nil]; omega⟩, F, N, fun p hp => ?_⟩
        rw [List.mem_singleton.mp hp]
        exact hnI (u, lob ws nD) (.head _)
      · refine ⟨_, _, _, _, _, rfl, ⟨rfl, ⟨_, look_front (Has.all (by tb_rel))⟩, ws, ls, nD, rfl, hws, hok, by omega⟩, F, N, fun p hp => ?_⟩
        rw [List.mem_singleton.mp hp]
        exact hnI (u, lob ws nD) (.head _)
    · refine notin_list_ints (s := ⟨_, gs'', dr, _, os⟩) (isl_of (N.get (List.mem_append_right _ (.head _)))) hws ?_
      repeat' tb_start
      · refine ⟨_, _, _, _, _, rfl, ⟨rfl, ⟨_, look_front (Has.all (by tb_rel))⟩, _, ls ++ [num / 2 % 256], _, rfl, hws.append (.cons _ _ .nil), hok.snoc (by omega) (by omega) (by have hq : (!ls.any (· == num / 2 % 256)) = true := (by assumption); simpa using hq), by simp only [List.length_append, List.length_cons, List.length_nil]; omega⟩, F, N, fun p hp => ?_⟩
        rw [List.mem_singleton.mp hp]
        exact hnI (u, lob ws nD) (.head _)
      · refine ⟨_, _, _, _, _, rfl, ⟨rfl, ⟨_, look_front (Has.all (by tb_rel))⟩, ws, ls, nD, rfl, hws, hok, by omega⟩, F, N, fun p hp => ?_⟩
        rw [List.mem_singleton.mp hp]
        exact hnI (u, lob ws nD) (.head _)
  · clear F N
    rintro m nw gs'' h₅ tk₅ ⟨rfl, ⟨ρ, rfl⟩, ws, ls, nD, rfl, hws, hok, hlen⟩ F N
    have hwl0 := hws.length
    repeat' tb_start
    refine wpAny_For ?_ (by intro _; rfl)
    repeat' tb_start
    rename_i ta _ tb _ tc _ _ ut hut
    refine x_iter_tup hh' (fun i m nw gs' => gs' = gs'' ∧ (∃ ρ, look ([(Str.ofString "letters", Value.ref u)] ++ ρ) = m) ∧ ∃ ws ls nD, nw = [(ut, tob [.int 128 ta, .int 193 tb, .int 5 tc]), (u, lob ws nD)] ∧ IntsAre ws ls ∧ LetOk ls ∧ ls.length ≤ 5 ∧ (3 ≤ ls.length ∨ ∀ c ∈ ([128, 193, 5] : List Int).take i, c ∈ ls)) ?_ F N (N.get (.head _)) ?_ ?_ (fun _ _ => by with_unfolding_all rfl)
    · exact ⟨rfl, ⟨_, rfl⟩, ws, ls, nD, rfl, hws, hok, by omega, .inr fun c hc => by simp at hc⟩
    · clear F N
      rintro i v m nw gs' h₆ tk₆ own I0 hvi ⟨rfl, ⟨ρ', rfl⟩, ws', ls', nD', rfl, hws', hok', hlen', hor⟩ F N hown hlive hnI
      obtain ⟨c, tc', rfl, hci, hc0, hc1⟩ : ∃ c t, v = .int c t ∧ ([128, 193, 5] : List Int)[i]? = some c ∧ 0 ≤ c ∧ c < 256 := by
        rcases i with _ | _ | _ | i
        · simp at hvi; exact ⟨_, _, hvi.symm, rfl, by decide, by decide⟩
        · simp at hvi; exact ⟨_, _, hvi.symm, rfl, by decide, by decide⟩
        · simp at hvi; exact ⟨_, _, hvi.symm, rfl, by decide, by decide⟩
        · simp at hvi
      have hwl' := hws'.length
      have hoU : ∀ p ∈ own, p.1 ≠ u := fun p hp e => by
        have q1 := hown p hp
        have q2 := hnI (u, lob ws' nD') (.tail _ (.head _))
        rw [e] at q1
        simp only [List.mem_cons, List.mem_nil_iff, or_false] at q1 q2
        rcases q1 with q | q
        · exact q2 q
        · exact hut (u, lob ws nD) (.head _) q
      have htake : ([128, 193, 5] : List Int).take (i + 1) = ([128, 193, 5] : List Int).take i ++ [c] := by rw [List.take_succ, hci]; rfl
      repeat' tb_start
      · refine notin_list_ints (s := ⟨_, gs', dr, _, os⟩) (isl_of (N.get (List.mem_append_right _ (.tail _ (.head _))))) hws' ?_
        repeat' tb_start
        · refine x_append F N (by tb_rel) (upd_app hoU (.tail (Ne.symm (hut (u, lob ws nD) (.head _))) (.head off_nil))) (by omega) fun h₇ F₇ N₇ => ?_
          clear F N
          have F := F₇
          have N := N₇
          clear F₇ N₇
          repeat' tb_start
          refine ⟨_, _, _, _, _, rfl, ⟨rfl, ⟨_, look_front (Has.all (by tb_rel))⟩, _, ls' ++ [c], _, rfl, hws'.append (.cons _ _ .nil), hok'.snoc hc0 hc1 (by have hq : (!ls'.any (· == c)) = true := (by assumption); simpa using hq), by simp only [List.length_append, List.length_cons, List.length_nil]; omega, ?_⟩, F, N, fun p hp => by
            rcases List.mem_cons.mp hp with rfl | hp
            · exact hnI (ut, tob [.int 128 ta, .int 193 tb, .int 5 tc]) (.head _)
            · rw [List.mem_singleton.mp hp]
              exact hnI (u, lob ws' nD') (.tail _ (.head _))⟩
          rcases hor with h3 | h3
          · exact .inl (by simp only [List.length_append, List.length_cons, List.length_nil]; omega)
          · refine .inr fun b hb => ?_
            rw [htake] at hb
            rcases List.mem_append.mp hb with hb | hb
            · exact List.mem_append_left _ (h3 b hb)
            · exact List.mem_append_right _ hb
        · refine ⟨_, _, _, _, _, rfl, ⟨rfl, ⟨_, look_front (Has.all (by tb_rel))⟩, ws', ls', nD', rfl, hws', hok', hlen', ?_⟩, F, N, fun p hp => by
            rcases List.mem_cons.mp hp with rfl | hp
            · exact hnI (ut, tob [.int 128 ta, .int 193 tb, .int 5 tc]) (.head _)
            · rw [List.mem_singleton.mp hp]
              exact hnI (u, lob ws' nD') (.tail _ (.head _))⟩
          rcases hor with h3 | h3
          · exact .inl h3
          · refine .inr fun b hb => ?_
            rw [htake] at hb
            rcases List.mem_append.mp hb with hb | hb
            · exact h3 b hb
            · rw [List.mem_singleton.mp hb]
              have hq : (!ls'.any (· == c)) = false := (by assumption)
              simpa using hq
      · refine ⟨_, _, _, _, _, rfl, ⟨rfl, ⟨_, look_front (Has.all (by tb_rel))⟩, ws', ls', nD', rfl, hws', hok', hlen', .inl (by omega)⟩, F, N, fun p hp => by
          rcases List.mem_cons.mp hp with rfl | hp
          · exact hnI (ut, tob [.int 128 ta, .int 193 tb, .int 5 tc]) (.head _)
          · rw [List.mem_singleton.mp hp]
            exact hnI (u, lob ws' nD') (.tail _ (.head _))⟩
    · clear F N
      rintro m nw gs' h₆ tk₆ ⟨rfl, ⟨ρ', rfl⟩, ws', ls', nD', rfl, hws', hok', hlen', hor⟩ F N
      repeat' tb_start
      refine H _ _ u ws' ls' nD' F.keep (New.sub (New.of_news N) fun p hp => .tail _ hp) hws' hok' ?_ hlen'
      rcases hor with h3 | h3
      · exact h3
      · have m1 := h3 128 (by simp)
        have m2 := h3 193 (by simp)
        have m3 := h3 5 (by simp)
        match ls', m1, m2, m3 with
        | [], m1, _, _ => cases m1
        | [x], m1, m2, _ => simp at m1 m2; omega
        | [x, y], m1, m2, m3 => simp at m1 m2 m3; omega
        | _ :: _ :: _ :: _, _, _, _ => simp
end
end

section
/-- the tuple that tells a kind, or that anything goes -/
def ARep (T : Ledger) : Value → Option SK → Prop
  | v, some k => KRep T v k
  | v, none => ∃ u s, v = .ref u ∧ (u, tob [.str (Str.ofString "any") s]) ∈ T
theorem ARep.mono {T T' : Ledger} (q : ∀ p ∈ T, p ∈ T') : ∀ {v : Value} {k : Option SK}, ARep T v k → ARep T' v k
  | _, some _, R => KRep.mono q R
  | _, none, ⟨u, s, a, b⟩ => ⟨u, s, a, q _ b⟩
def fitsA : Option SK → Nat → Bool
  | none, _ => true
  | some (.oct lo hi e), n => fitsB lo hi e n
  | some _, _ => false
section
variable {w : World} {A : Around} {E : Value → Shared → Prop} {gs : Array GenState} {dr : Drawn} {tk : Nat} {os : OsState} {h : Heap} {Q : Value → Shared → Prop}
theorem fitsA_call {n : Nat} {T : Ledger} {v : Value} {t : Tok} (B : Base w h) (hd : A.depth + 1 < recursionLimit) (R : ARep T v none) (hT : ∀ p ∈ T, h.get? p.1 = some p.2)
    (H : ∀ h' tk', Ke h h' → Q (.bool (fitsA none n)) ⟨h', gs, dr, tk', os⟩) : wpAny (model pw w) A (call (.ref 1792) [v, .int n t]) Q E ⟨h, gs, dr, tk, os⟩ := by
  obtain ⟨u, s, rfl, hm⟩ := R
  have hg := hT _ hm
  refine x_enter B (by omega) (by rfl) (by rfl) (by rfl) (by rfl) (by rfl) (binds := [(Str.ofString "kind", _), (Str.ofString "size", _)]) (by rfl) (locs (by rfl)) (by rfl) (by rfl) (by rfl) (by decide) ?_
  intro h₁ L tk' _ F N
  show wpAny _ _ (execs (fdB (sAt 45)) _) _ _ _
  refine wpAny_execs_cons ?_
  refine wpAny_If ?_
  repeat' tb_start
  refine x_titem (F.keep _ _ hg) (by decide) (by decide) (by rfl) (by with_unfolding_all rfl) (fun _ => by with_unfolding_all rfl) ?_
  repeat' tb_start
  exact H _ _ F.keep
end
end

section
theorem encT_ne : ∀ t : Tr, 1 ≤ (encT t).length
  | .b x => by
    rw [encT]
    split
    · omega
    · rw [List.length_append]; unfold preB; split <;> simp <;> omega
  | .l ts => by rw [encT, List.length_append]; unfold preB; split <;> simp <;> omega
theorem trS_of {n : Nat} {t : Tr} (D : Deep n t) : (encT t).length ≤ 1000 → TrS t := by
  induction D with
  | b =>
    intro h
    refine .b ?_
    rw [encT] at h
    split at h
    · exact h
    · rw [List.length_append] at h; omega
  | l _ ih =>
    intro h
    rw [encT, List.length_append] at h
    refine .l (by have := encTs_len ‹_›; omega) fun t ht => ih t ht ?_
    have := encT_mem ht
    omega
theorem back {o : List UInt8} {n f : Nat} {t : Tr} (ho : o.length ≤ 1000) (h : rawF (itemF o n (f + 1) 0) o.length true = .ok t) : TrS t ∧ encT t = o ∧ Deep (f + 1) t := by
  cases hI : itemF o n (f + 1) 0 with
  | ok t' r e =>
    rw [hI] at h
    unfold rawF at h
    dsimp only at h
    split at h
    · rw [if_pos rfl] at h; cases h
    · rename_i he
      cases h
      have he' : e = o.length := by simpa using he
      have h1 := item_ok o (by omega) n (f + 1) 0 t r e (by decide) hI (by omega)
      have h2 : encT t = o := by
        rw [h1, he']
        have c0 : clipAt o.length 0 = 0 := by have := clipAt_cast o.length 0; omega
        have c1 : clipAt o.length (o.length : Int) = o.length := by have := clipAt_cast o.length (o.length : Int); omega
        simp [sl, c0, c1]
      have h3 := item_Deep o n (f + 1) 0 t r e hI
      exact ⟨trS_of h3 (by rw [h2]; exact ho), h2, h3⟩
  | index => rw [hI] at h; cases h
  | dec m => rw [hI] at h; cases h
  | deep => rw [hI] at h; cases h
end

section
/-! words over letters, and how many of them are such and such -/
def wordsF (as : List UInt8) : Nat → List (List UInt8)
  | 0 => [[]]
  | n + 1 => (wordsF as n).flatMap fun w => as.map fun c => w ++ [c]
open Classical in
noncomputable def cn {α : Type} (P : α → Prop) (l : List α) : Nat := l.countP fun w => decide (P w)
theorem cn_nil {α : Type} (P : α → Prop) : cn P [] = 0 := rfl
theorem cn_cons {α : Type} (P : α → Prop) (a : α) (l : List α) [Decidable (P a)] : cn P (a :: l) = (if P a then 1 else 0) + cn P l := by
  unfold cn
  rw [List.countP_cons]
  by_cases h : P a <;> simp [h] <;> omega
theorem cn_append {α : Type} (P : α → Prop) (l m : List α) : cn P (l ++ m) = cn P l + cn P m := List.countP_append
theorem cn_congr {α : Type} {P Q : α → Prop} {l : List α} (h : ∀ a ∈ l, (P a ↔ Q a)) : cn P l = cn Q l := by
  unfold cn
  refine List.countP_congr fun a ha => ?_
  simp [h a ha]
theorem cn_map {α β : Type} (P : β → Prop) (f : α → β) (l : List α) : cn P (l.map f) = cn (fun a => P (f a)) l := by
  unfold cn
  rw [List.countP_map]
  rfl
theorem cn_none {α : Type} {P : α → Prop} {l : List α} (h : ∀ a ∈ l, ¬ P a) : cn P l = 0 := by
  unfold cn
  rw [List.countP_eq_zero]
  intro a ha
  simpa using h a ha
theorem cn_all {α : Type} {P : α → Prop} {l : List α} (h : ∀ a ∈ l, P a) : cn P l = l.length := by
  unfold cn
  rw [List.countP_eq_length]
  intro a ha
  simpa using h a ha
theorem cn_or {α : Type} {P Q : α → Prop} : ∀ {l : List α}, (∀ a ∈ l, P a → ¬ Q a) → cn (fun a => P a ∨ Q a) l = cn P l + cn Q l
  | [], _ => rfl
  | a :: l, h => by
    classical
    have ih := cn_or (P := P) (Q := Q) (l := l) fun b hb => h b (.tail _ hb)
    have ha := h a (.head _)
    rw [cn_cons, cn_cons, cn_cons, ih]
    by_cases hp : P a <;> by_cases hq : Q a <;> simp [hp, hq] at ha ⊢ <;> omega
theorem cn_and {α : Type} (p : Prop) [Decidable p] (P : α → Prop) (l : List α) : cn (fun a => p ∧ P a) l = if p then cn P l else 0 := by
  by_cases h : p
  · rw [if_pos h]
    exact cn_congr fun a _ => by simp [h]
  · rw [if_neg h]
    exact cn_none fun a _ => by simp [h]
theorem cn_flatMap {α β : Type} (P : β → Prop) (f : α → List β) : ∀ l : List α, cn P (l.flatMap f) = (l.map fun a => cn P (f a)).sum
  | [] => rfl
  | a :: l => by rw [List.flatMap_cons, cn_append, cn_flatMap P f l]; rfl
theorem cn_filter {α : Type} (p : α → Bool) (l : List α) : cn (fun a => p a = true) l = (l.filter p).length := by
  unfold cn
  rw [← List.countP_eq_length_filter]
  refine List.countP_congr fun a _ => ?_
  simp
theorem words_add (as : List UInt8) (a : Nat) : ∀ b, wordsF as (a + b) = (wordsF as a).flatMap fun u => (wordsF as b).map fun v => u ++ v
  | 0 => by simp [wordsF]
  | b + 1 => by
    show (wordsF as (a + b)).flatMap _ = _
    rw [words_add as a b]
    simp only [wordsF, List.flatMap_assoc, List.map_flatMap, List.flatMap_map, List.map_map]
    congr 1
    funext u
    congr 1
    funext v
    congr 1
    funext c
    simp
theorem words_one (as : List UInt8) : wordsF as 1 = as.map fun c => [c] := by simp [wordsF]
theorem words_len {as : List UInt8} : ∀ {n : Nat} {w : List UInt8}, w ∈ wordsF as n → w.length = n
  | 0, w, h => by simp [wordsF] at h; simp [h]
  | n + 1, w, h => by
    simp only [wordsF, List.mem_flatMap, List.mem_map] at h
    obtain ⟨u, hu, c, hc, rfl⟩ := h
    simp [words_len hu]
theorem words_count (as : List UInt8) : ∀ n, (wordsF as n).length = as.length ^ n
  | 0 => by simp [wordsF]
  | n + 1 => by
    simp only [wordsF, List.length_flatMap, List.length_map]
    rw [Nat.pow_succ, ← words_count as n]
    induction wordsF as n with
    | nil => simp
    | cons a l ih => simp only [List.map_cons, List.sum_cons, ih, List.length_cons]; rw [Nat.add_mul]; omega
theorem cn_prod (as : List UInt8) (P Q : List UInt8 → Prop) (a b : Nat) : cn (fun w => P (w.take a) ∧ Q (w.drop a)) (wordsF as (a + b)) = cn P (wordsF as a) * cn Q (wordsF as b) := by
  classical
  rw [words_add, cn_flatMap]
  have : ∀ u ∈ wordsF as a, cn (fun w => P (w.take a) ∧ Q (w.drop a)) ((wordsF as b).map fun v => u ++ v) = if P u then cn Q (wordsF as b) else 0 := by
    intro u hu
    have hl := words_len hu
    rw [cn_map, ← cn_and]
    refine cn_congr fun v _ => ?_
    rw [← hl, List.take_left, List.drop_left]
  rw [List.map_congr_left this]
  clear this
  induction wordsF as a with
  | nil => simp [cn_nil]
  | cons u l ih => rw [List.map_cons, List.sum_cons, ih, cn_cons, Nat.add_mul]; split <;> simp
/-- words with a given head -/
theorem cn_head {as : List UInt8} (hn : as.Nodup) (h : UInt8) (Q : List UInt8 → Prop) (n : Nat) : cn (fun w => ∃ x, w = h :: x ∧ Q x) (wordsF as (n + 1)) = if h ∈ as then cn Q (wordsF as n) else 0 := by
  classical
  rw [show n + 1 = 1 + n by omega]
  have e : cn (fun w => ∃ x, w = h :: x ∧ Q x) (wordsF as (1 + n)) = cn (fun w => w.take 1 = [h] ∧ Q (w.drop 1)) (wordsF as (1 + n)) := by
    refine cn_congr fun w hw => ?_
    have := words_len hw
    match w, this with
    | c :: x, _ =>
      simp only [List.cons.injEq, List.take_succ_cons, List.take_zero, List.drop_succ_cons, List.drop_zero, and_true]
      exact ⟨fun ⟨x', ⟨e1, e2⟩, q⟩ => ⟨e1, e2 ▸ q⟩, fun ⟨e1, q⟩ => ⟨x, ⟨e1, rfl⟩, q⟩⟩
    | [], q => simp at q; omega
  rw [e, cn_prod as (fun u => u = [h]), words_one, cn_map]
  have : cn (fun c : UInt8 => [c] = [h]) as = if h ∈ as then 1 else 0 := by
    clear e
    induction as with
    | nil => simp [cn_nil]
    | cons c l ih =>
      rw [cn_cons, ih (List.nodup_cons.mp hn).2]
      have := (List.nodup_cons.mp hn).1
      by_cases q : c = h
      · subst q; simp [this]
      · have q' : ¬ h = c := fun e => q e.symm
        simp [q, q']
  rw [this]
  split <;> simp
/-- sums over numbers below n -/
def sumTo (g : Nat → Nat) : Nat → Nat
  | 0 => 0
  | i + 1 => sumTo g i + g i
theorem sumTo_congr {g g' : Nat → Nat} : ∀ {n : Nat}, (∀ i < n, g i = g' i) → sumTo g n = sumTo g' n
  | 0, _ => rfl
  | n + 1, h => by rw [sumTo, sumTo, sumTo_congr fun i hi => h i (by omega), h n (by omega)]
/-- one of several that shut each other out -/
theorem cn_sum {α : Type} (R : Nat → α → Prop) {l : List α} : ∀ n, (∀ a ∈ l, ∀ i j, i < n → j < n → R i a → R j a → i = j) → cn (fun a => ∃ i, i < n ∧ R i a) l = sumTo (fun i => cn (R i) l) n
  | 0, _ => cn_none fun a _ h => by obtain ⟨i, hi, _⟩ := h; omega
  | n + 1, h => by
    rw [sumTo, ← cn_sum R n fun a ha i j hi hj => h a ha i j (by omega) (by omega), ← cn_or]
    · refine cn_congr fun a _ => ?_
      constructor
      · rintro ⟨i, hi, r⟩
        by_cases e : i = n
        · exact .inr (e ▸ r)
        · exact .inl ⟨i, by omega, r⟩
      · rintro (⟨i, hi, r⟩ | r)
        · exact ⟨i, by omega, r⟩
        · exact ⟨n, by omega, r⟩
    · rintro a ha ⟨i, hi, r⟩ r'
      have := h a ha i n (by omega) (by omega) r r'
      omega
end

section
/-! how many words are read, as the script counts them -/
def hasL (ls : List Int) (x : Int) : Bool := ls.any (· == x)
def octF (Q : Nat → Bool) (size : Nat) (ls : List Int) : Nat :=
  if size = 1 then (if hasL ls 128 && Q 0 then 1 else 0) + (if Q 1 then (ls.filter fun l => decide (l < 128)).length else 0)
  else if size = 2 then (if hasL ls 129 && Q 1 then (ls.filter fun l => decide (l ≥ 128)).length else 0)
  else if 2 < size then (if hasL ls (127 + size) && Q (size - 1) then ls.length ^ (size - 1) else 0) else 0
def lstF (R : Nat → Nat) (size : Nat) (ls : List Int) : Nat := if decide (0 < size) && hasL ls (191 + size) then R (size - 1) else 0
def cntF (R : Option SK → Nat → Nat) : Option SK → Nat → List Int → Nat
  | some .truth, size, ls => if size = 1 then (if hasL ls 128 then 1 else 0) + (if hasL ls 1 then 1 else 0) else 0
  | some (.oct lo hi e), size, ls => octF (fitsB lo hi e) size ls
  | none, size, ls => octF (fun _ => true) size ls + lstF (R none) size ls
  | some (.many m k), size, ls => lstF (R (some (.many m k))) size ls
  | some (.pair a b), size, ls => lstF (R (some (.pair a b))) size ls
def placeOk : Option SK → Nat → Bool
  | some (.many m _), p => !(decide (m < 3) && decide (m ≤ p))
  | some (.pair _ _), p => decide (p < 2)
  | _, _ => true
def partF : Option SK → Nat → Option SK
  | some (.many _ k), _ => some k
  | some (.pair a b), p => some (if p = 0 then a else b)
  | K, _ => K
def endOk : Option SK → Nat → Bool
  | some (.pair _ _), p => p == 2
  | _, _ => true
def rowsF : Nat → Option SK → Nat → Nat → List Int → Nat
  | 0, K, left, place, _ => if left = 0 ∧ endOk K place = true then 1 else 0
  | f + 1, K, left, place, ls =>
    if left = 0 then (if endOk K place = true then 1 else 0)
    else if placeOk K place = true then sumTo (fun i => cntF (fun K' l => rowsF f K' l 0 ls) (partF K place) (i + 1) ls * rowsF f K (left - (i + 1)) (place + 1) ls) left
    else 0
/-! the law's side -/
def accA : Option SK → Tr → Bool
  | none, _ => true
  | some k, t => accS k t
def accL : Option SK → Nat → List Tr → Bool
  | K, p, [] => endOk K p
  | K, p, t :: ts => placeOk K p && accA (partF K p) t && accL K (p + 1) ts
def accE (K : Option SK) (w : List UInt8) : Prop := ∃ t, encT t = w ∧ accA K t = true
def rowsOk (K : Option SK) (p : Nat) (w : List UInt8) : Prop := ∃ ts, encTs ts = w ∧ accL K p ts = true
theorem accL_none : ∀ p ts, accL none p ts = true
  | _, [] => rfl
  | p, t :: ts => by rw [accL, accL_none (p + 1) ts]; rfl
theorem accL_many {m : Nat} {k : SK} : ∀ (ts : List Tr) (p : Nat), (m < 3 → p ≤ m) → accL (some (.many m k)) p ts = (decide (m < 3 → p + ts.length ≤ m) && accAll k ts)
  | [], p, h => by
    simp [accL, endOk, accAll]
    omega
  | t :: ts, p, h => by
    rw [accL, accAll]
    simp only [placeOk, partF, accA, List.length_cons]
    by_cases hm : m < 3
    · by_cases hp : m ≤ p
      · have : ¬ (p + (ts.length + 1) ≤ m) := by omega
        simp [hm, hp, this]
      · rw [accL_many ts (p + 1) (by omega)]
        simp only [hm, hp, decide_true, decide_false, Bool.and_false, Bool.not_false, Bool.true_and, forall_const]
        rw [show p + 1 + ts.length = p + (ts.length + 1) by omega]
        cases accS k t <;> simp
    · rw [accL_many ts (p + 1) (by omega)]
      simp [hm]
theorem accL_pair {a b : SK} : ∀ ts : List Tr, accL (some (.pair a b)) 0 ts = accS (.pair a b) (.l ts)
  | [] => rfl
  | [t] => by simp [accL, endOk, accS]
  | [t, u] => by simp [accL, endOk, accS, placeOk, partF, accA]
  | t :: u :: v :: ts => by simp [accL, accS, placeOk]
/-! the code's head -/
theorem encB1 {x : List UInt8} (h : x.length < 56) : encT (.b x) = if x.length = 1 ∧ (x.getD 0 0).toNat < 128 then x else UInt8.ofNat (128 + x.length) :: x := by
  rw [encT]
  split
  · rfl
  · unfold preB; rw [if_pos h]; rfl
theorem encL1 {ts : List Tr} (h : (encTs ts).length < 56) : encT (.l ts) = UInt8.ofNat (192 + (encTs ts).length) :: encTs ts := by
  rw [encT]
  unfold preB
  rw [if_pos h]
  rfl
theorem deepm : ∀ {k m : Nat} {t : Tr}, Deep k t → k ≤ m → Deep m t
  | _, _, _, .b, _ => .b
  | k + 1, m + 1, _, .l h, hk => .l fun t ht => deepm (h t ht) (by omega)
mutual
theorem deep_len : ∀ t : Tr, Deep (encT t).length t
  | .b _ => .b
  | .l ts => by
    have : (encT (.l ts)).length = ((preB (encTs ts).length 192).length - 1 + (encTs ts).length) + 1 := by
      rw [encT, List.length_append]
      have := preB_pos (encTs ts).length 192
      omega
    rw [this]
    exact .l fun t ht => deepm (deep_lens ts t ht) (by omega)
theorem deep_lens : ∀ (ts : List Tr) (t : Tr), t ∈ ts → Deep (encTs ts).length t
  | s :: ts, t, h => by
    rw [encTs, List.length_append]
    by_cases e : t = s
    · rw [e]
      exact deepm (deep_len s) (by omega)
    · exact deepm (deep_lens ts t (by simpa [e] using h)) (by omega)
end
theorem prefix_free {t t' : Tr} {r r' : List UInt8} (h : (encT t ++ r).length < 60000) (e : encT t ++ r = encT t' ++ r') : t = t' ∧ r = r' := by
  have h' : (encT t' ++ r').length < 60000 := e ▸ h
  rw [List.length_append] at h h'
  have a := read_back 60000 (by decide) 60000 t (deepm (deep_len t) (by omega)) (by omega) [] r
  have b := read_back 60000 (by decide) 60000 t' (deepm (deep_len t') (by omega)) (by omega) [] r'
  rw [List.nil_append] at a b
  rw [e, b] at a
  injection a with a1 a2 a3
  rw [a2] at e
  exact ⟨a1.symm, List.append_cancel_left e⟩
theorem enc_inj' {t t' : Tr} (h : (encT t).length < 60000) (e : encT t = encT t') : t = t' := (prefix_free (r := []) (r' := []) (by simpa using h) (by simpa using e)).1
theorem take_self {α : Type} {w : List α} {n : Nat} (h : w.length = n) : w.take n = w ∧ w.drop n = [] := by subst h; exact ⟨List.take_length, List.drop_length⟩
/-! letters as octets and as numbers -/
section
variable {as : List UInt8}
abbrev numsOf (as : List UInt8) : List Int := as.map fun c => ((c.toNat : Nat) : Int)
theorem has_iff (n : Nat) (hn : n < 256) : hasL (numsOf as) (n : Int) = decide (UInt8.ofNat n ∈ as) := by
  rw [Bool.eq_iff_iff, decide_eq_true_iff]
  unfold hasL numsOf
  rw [List.any_map, List.any_eq_true]
  constructor
  · rintro ⟨c, hc, e⟩
    have e' : c.toNat = n := by simp at e; omega
    rw [← e', UInt8.ofNat_toNat]
    exact hc
  · intro h
    refine ⟨_, h, ?_⟩
    simp [UInt8.toNat_ofNat', Nat.mod_eq_of_lt hn]
theorem filt_lo : ((numsOf as).filter fun l => decide (l < 128)).length = cn (fun c : UInt8 => c.toNat < 128) as := by
  unfold numsOf
  rw [List.filter_map, List.length_map, ← cn_filter]
  refine cn_congr fun c _ => ?_
  simp only [Function.comp, decide_eq_true_iff]
  omega
theorem filt_hi : ((numsOf as).filter fun l => decide (l ≥ 128)).length = cn (fun c : UInt8 => ¬ c.toNat < 128) as := by
  unfold numsOf
  rw [List.filter_map, List.length_map, ← cn_filter]
  refine cn_congr fun c _ => ?_
  simp only [Function.comp, decide_eq_true_iff]
  omega
theorem oct_count (hn : as.Nodup) (Q : Nat → Bool) (n : Nat) (h56 : n < 56) : cn (fun w => ∃ x, encT (.b x) = w ∧ Q x.length = true) (wordsF as n) = octF Q n (numsOf as) := by
  rcases n with _ | _ | _ | n
  · refine cn_none fun w hw => ?_
    rintro ⟨x, e, _⟩
    have := encT_pos (.b x)
    rw [e, words_len hw] at this
    omega
  · have e1 : cn (fun w => ∃ x, encT (.b x) = w ∧ Q x.length = true) (wordsF as 1) = cn (fun w => (∃ x, w = UInt8.ofNat 128 :: x ∧ (Q 0 = true ∧ True)) ∨ (Q 1 = true ∧ ∃ c, w = [c] ∧ c.toNat < 128)) (wordsF as 1) := by
      refine cn_congr fun w hw => ?_
      have hl := words_len hw
      constructor
      · rintro ⟨x, e, q⟩
        have hx : x.length < 56 := by
          have : x.length ≤ (encT (.b x)).length := by rw [encT]; split <;> simp
          rw [e] at this
          omega
        rw [encB1 hx] at e
        split at e
        · rename_i hc
          match x, hc with
          | [c], hc => exact .inr ⟨q, c, e.symm, hc.2⟩
        · have : x.length = 0 := by rw [← e] at hl; simpa using hl
          match x, this with
          | [], _ => exact .inl ⟨[], e.symm, q, trivial⟩
      · rintro (⟨x, rfl, q, _⟩ | ⟨q, c, rfl, hc⟩)
        · have : x.length = 0 := by simpa using hl
          match x, this with
          | [], _ => exact ⟨[], by rw [encB1 (by decide), if_neg (by decide)]; rfl, q⟩
        · exact ⟨[c], by rw [encB1 (by simp), if_pos ⟨rfl, hc⟩], q⟩
    rw [e1, cn_or, cn_head hn, cn_and, cn_and, words_one, cn_map]
    · have eo : octF Q (0 + 1) (numsOf as) = (if hasL (numsOf as) ((128 : Nat) : Int) && Q 0 then 1 else 0) + (if Q 1 then ((numsOf as).filter fun l => decide (l < 128)).length else 0) := by rw [octF, if_pos rfl]; rfl
      rw [eo, has_iff 128 (by decide), filt_lo]
      congr 1
      · by_cases q1 : UInt8.ofNat 128 ∈ as <;> by_cases q2 : Q 0 = true <;> simp [q1, q2, wordsF, cn_cons, cn_nil]
      · by_cases q2 : Q 1 = true
        · rw [if_pos q2, if_pos q2]
          refine cn_congr fun c _ => ?_
          simp
        · rw [if_neg q2, if_neg q2]
    · rintro w hw ⟨x, e, _⟩ ⟨_, c, e2, hc⟩
      rw [e2] at e
      injection e with e3 e4
      rw [e3] at hc
      exact absurd hc (by decide)
  · have e1 : cn (fun w => ∃ x, encT (.b x) = w ∧ Q x.length = true) (wordsF as 2) = cn (fun w => ∃ x, w = UInt8.ofNat 129 :: x ∧ (Q 1 = true ∧ ∃ c, x = [c] ∧ ¬ c.toNat < 128)) (wordsF as 2) := by
      refine cn_congr fun w hw => ?_
      have hl := words_len hw
      constructor
      · rintro ⟨x, e, q⟩
        have hx : x.length < 56 := by
          have : x.length ≤ (encT (.b x)).length := by rw [encT]; split <;> simp
          rw [e] at this
          omega
        rw [encB1 hx] at e
        split at e
        · rename_i hc
          rw [e] at hc
          omega
        · rename_i hc
          have : x.length = 1 := by rw [← e] at hl; simpa using hl
          match x, this with
          | [c], _ => exact ⟨[c], e.symm, q, c, rfl, fun q => hc ⟨rfl, q⟩⟩
      · rintro ⟨x, rfl, q, c, rfl, hc⟩
        exact ⟨[c], by rw [encB1 (by simp), if_neg (fun h => hc h.2)]; rfl, q⟩
    have eo : octF Q (0 + 1 + 1) (numsOf as) = (if hasL (numsOf as) ((129 : Nat) : Int) && Q 1 then ((numsOf as).filter fun l => decide (l ≥ 128)).length else 0) := by rw [octF, if_neg (by decide), if_pos rfl]; rfl
    rw [e1, cn_head hn, cn_and, words_one, cn_map, eo, has_iff 129 (by decide), filt_hi]
    have e2 : cn (fun a : UInt8 => ∃ c, [a] = [c] ∧ ¬ c.toNat < 128) as = cn (fun c : UInt8 => ¬ c.toNat < 128) as := cn_congr fun c _ => by simp
    rw [e2]
    by_cases q1 : UInt8.ofNat 129 ∈ as <;> by_cases q2 : Q 1 = true <;> simp [q1, q2]
  · have e1 : cn (fun w => ∃ x, encT (.b x) = w ∧ Q x.length = true) (wordsF as (n + 3)) = cn (fun w => ∃ x, w = UInt8.ofNat (127 + (n + 3)) :: x ∧ (Q (n + 2) = true ∧ True)) (wordsF as (n + 3)) := by
      refine cn_congr fun w hw => ?_
      have hl := words_len hw
      constructor
      · rintro ⟨x, e, q⟩
        have hx : x.length < 56 := by
          have : x.length ≤ (encT (.b x)).length := by rw [encT]; split <;> simp
          rw [e] at this
          omega
        rw [encB1 hx] at e
        split at e
        · rename_i hc
          rw [e] at hc
          omega
        · have : x.length = n + 2 := by rw [← e] at hl; simpa using hl
          exact ⟨x, by rw [← e, this]; congr 2; omega, this ▸ q, trivial⟩
      · rintro ⟨x, rfl, q, _⟩
        have : x.length = n + 2 := by simpa using hl
        exact ⟨x, by rw [encB1 (by omega), if_neg (fun h => by omega), this]; congr 2; omega, this ▸ q⟩
    have eo : octF Q (n + 1 + 1 + 1) (numsOf as) = (if hasL (numsOf as) ((127 + (n + 3) : Nat) : Int) && Q (n + 2) then (numsOf as).length ^ (n + 2) else 0) := by
      rw [octF, if_neg (by omega), if_neg (by omega), if_pos (by omega), show ((127 : Int) + ((n + 1 + 1 + 1 : Nat) : Int)) = ((127 + (n + 3) : Nat) : Int) from by omega]; rfl
    rw [e1, cn_head hn, cn_and, eo, has_iff _ (by omega), cn_all (fun _ _ => trivial), words_count]
    by_cases q1 : UInt8.ofNat (127 + (n + 3)) ∈ as <;> by_cases q2 : Q (n + 2) = true <;> simp [q1, q2]
theorem lst_count (hn : as.Nodup) (K : Option SK) (n : Nat) (h56 : n < 56) : cn (fun w => ∃ ts, encT (.l ts) = w ∧ accL K 0 ts = true) (wordsF as n) = lstF (fun m => cn (rowsOk K 0) (wordsF as m)) n (numsOf as) := by
  rcases n with _ | n
  · refine cn_none fun w hw => ?_
    rintro ⟨x, e, _⟩
    have := encT_pos (.l x)
    rw [e, words_len hw] at this
    omega
  · have e1 : cn (fun w => ∃ ts, encT (.l ts) = w ∧ accL K 0 ts = true) (wordsF as (n + 1)) = cn (fun w => ∃ x, w = UInt8.ofNat (191 + (n + 1)) :: x ∧ rowsOk K 0 x) (wordsF as (n + 1)) := by
      refine cn_congr fun w hw => ?_
      have hl := words_len hw
      constructor
      · rintro ⟨ts, e, q⟩
        have hle : (encTs ts).length ≤ (encT (.l ts)).length := by rw [encT, List.length_append]; omega
        rw [e, hl] at hle
        rw [encL1 (by omega)] at e
        have : (encTs ts).length = n := by rw [← e] at hl; simpa using hl
        exact ⟨encTs ts, by rw [← e, this]; congr 2; omega, ts, rfl, q⟩
      · rintro ⟨x, rfl, ts, rfl, q⟩
        have : (encTs ts).length = n := by simpa using hl
        exact ⟨ts, by rw [encL1 (by omega), this]; congr 2; omega, q⟩
    rw [e1, cn_head hn, lstF, show ((191 : Int) + ((n + 1 : Nat) : Int)) = ((191 + (n + 1) : Nat) : Int) from by omega, has_iff _ (by omega), Nat.add_sub_cancel]
    by_cases q1 : UInt8.ofNat (191 + (n + 1)) ∈ as <;> simp [q1]
theorem row_step (K : Option SK) (p n : Nat) (h : n < 56) (h0 : 0 < n) : cn (rowsOk K p) (wordsF as n) = if placeOk K p = true then sumTo (fun i => cn (accE (partF K p)) (wordsF as (i + 1)) * cn (rowsOk K (p + 1)) (wordsF as (n - (i + 1)))) n else 0 := by
  by_cases hp : placeOk K p = true
  · rw [if_pos hp]
    have e1 : cn (rowsOk K p) (wordsF as n) = cn (fun w => ∃ i, i < n ∧ (accE (partF K p) (w.take (i + 1)) ∧ rowsOk K (p + 1) (w.drop (i + 1)))) (wordsF as n) := by
      refine cn_congr fun w hw => ?_
      have hl := words_len hw
      constructor
      · rintro ⟨ts, e, q⟩
        match ts, e, q with
        | [], e, q => rw [encTs] at e; rw [← e] at hl; simp at hl; omega
        | t :: ts, e, q =>
          rw [encTs] at e
          rw [accL] at q
          simp only [Bool.and_eq_true] at q
          have hpos := encT_pos t
          have hlen : (encT t).length ≤ n := by rw [← hl, ← e, List.length_append]; omega
          refine ⟨(encT t).length - 1, by omega, ?_⟩
          rw [show (encT t).length - 1 + 1 = (encT t).length by omega, ← e, List.take_left, List.drop_left]
          exact ⟨⟨t, rfl, q.1.2⟩, ts, rfl, q.2⟩
      · rintro ⟨i, hi, ⟨t, e1, q1⟩, ts, e2, q2⟩
        refine ⟨t :: ts, by rw [encTs, e1, e2, List.take_append_drop], ?_⟩
        rw [accL, hp, q1, q2]
        rfl
    rw [e1, cn_sum]
    · refine sumTo_congr fun i hi => ?_
      have := cn_prod as (accE (partF K p)) (rowsOk K (p + 1)) (i + 1) (n - (i + 1))
      rw [show i + 1 + (n - (i + 1)) = n by omega] at this
      exact this
    · rintro w hw i j hi hj ⟨⟨t, e1, q1⟩, _⟩ ⟨⟨t', e1', q1'⟩, _⟩
      have hl := words_len hw
      have a1 : encT t ++ w.drop (i + 1) = w := by rw [e1, List.take_append_drop]
      have a2 : encT t' ++ w.drop (j + 1) = w := by rw [e1', List.take_append_drop]
      have b1 : (encT t).length = i + 1 := by rw [e1, List.length_take]; omega
      have b2 : (encT t').length = j + 1 := by rw [e1', List.length_take]; omega
      have := (prefix_free (by rw [a1]; omega) (a1.trans a2.symm)).1
      rw [this, b2] at b1
      omega
  · rw [if_neg hp]
    refine cn_none fun w hw => ?_
    rintro ⟨ts, e, q⟩
    match ts, e, q with
    | [], e, q =>
      have hl := words_len hw
      rw [encTs] at e; rw [← e] at hl; simp at hl; omega
    | t :: ts, e, q =>
      rw [accL] at q
      simp only [Bool.and_eq_true] at q
      exact hp q.1.1
theorem row_zero (K : Option SK) (p : Nat) : cn (rowsOk K p) (wordsF as 0) = if endOk K p = true then 1 else 0 := by
  classical
  rw [wordsF, cn_cons, cn_nil]
  have : rowsOk K p [] ↔ endOk K p = true := by
    constructor
    · rintro ⟨ts, e, q⟩
      match ts, e, q with
      | [], e, q => exact q
      | t :: ts, e, q =>
        have h1 := encT_pos t
        rw [encTs] at e
        have h2 := congrArg List.length e
        rw [List.length_append, List.length_nil] at h2
        omega
    · intro h
      exact ⟨[], rfl, h⟩
  simp only [this]
  rfl
/-- a word is text or a row -/
theorem accE_split (hn : as.Nodup) (K : Option SK) (Q : Nat → Bool) (n : Nat) (h56 : n < 56) (hb : ∀ x, accA K (.b x) = Q x.length) (hl : ∀ ts, accA K (.l ts) = accL K 0 ts) :
    cn (accE K) (wordsF as n) = octF Q n (numsOf as) + lstF (fun m => cn (rowsOk K 0) (wordsF as m)) n (numsOf as) := by
  rw [← oct_count hn Q n h56, ← lst_count hn K n h56, ← cn_or]
  · refine cn_congr fun w _ => ?_
    constructor
    · rintro ⟨t, e, q⟩
      match t, e, q with
      | .b x, e, q => exact .inl ⟨x, e, by rw [← hb]; exact q⟩
      | .l ts, e, q => exact .inr ⟨ts, e, by rw [← hl]; exact q⟩
    · rintro (⟨x, e, q⟩ | ⟨ts, e, q⟩)
      · exact ⟨.b x, e, by rw [hb]; exact q⟩
      · exact ⟨.l ts, e, by rw [hl]; exact q⟩
  · rintro w hw ⟨x, e, _⟩ ⟨ts, e', _⟩
    have hz := words_len hw
    have := enc_inj' (t := .b x) (t' := .l ts) (by rw [e]; omega) (e.trans e'.symm)
    cases this
theorem octF_no {n : Nat} {ls : List Int} : octF (fun _ => false) n ls = 0 := by
  unfold octF
  simp
theorem truth_count (hn : as.Nodup) (n : Nat) (h56 : n < 56) : cn (accE (some .truth)) (wordsF as n) = if n = 1 then (if hasL (numsOf as) 128 then 1 else 0) + (if hasL (numsOf as) 1 then 1 else 0) else 0 := by
  by_cases h1 : n = 1
  · subst h1
    rw [if_pos rfl]
    have e1 : cn (accE (some .truth)) (wordsF as 1) = cn (fun w => (∃ x, w = UInt8.ofNat 128 :: x ∧ True) ∨ (∃ x, w = UInt8.ofNat 1 :: x ∧ True)) (wordsF as 1) := by
      refine cn_congr fun w hw => ?_
      have hl := words_len hw
      constructor
      · rintro ⟨t, e, q⟩
        match t, e, q with
        | .l ts, e, q => cases q
        | .b x, e, q =>
          rw [accA, accS] at q
          simp only [Bool.or_eq_true, beq_iff_eq] at q
          rcases q with rfl | rfl
          · exact .inl ⟨[], e.symm, trivial⟩
          · exact .inr ⟨[], e.symm, trivial⟩
      · have hx : ∀ {c : UInt8} {x : List UInt8}, (c :: x).length = 1 → x = [] := fun {c x} h => by
          match x, h with
          | [], _ => rfl
          | _ :: _, h => simp at h
        rintro (⟨x, rfl, _⟩ | ⟨x, rfl, _⟩)
        · obtain rfl := hx hl
          exact ⟨.b [], by rw [encB1 (by decide), if_neg (by decide)]; rfl, rfl⟩
        · obtain rfl := hx hl
          exact ⟨.b [1], by rw [encB1 (by decide), if_pos (by decide)]; rfl, rfl⟩
    rw [e1, cn_or, cn_head hn, cn_head hn, cn_all (fun _ _ => trivial), show ((128 : Int)) = ((128 : Nat) : Int) from rfl, show ((1 : Int)) = ((1 : Nat) : Int) from rfl, has_iff _ (by decide), has_iff _ (by decide)]
    · simp [wordsF]
    · rintro w _ ⟨x, e, _⟩ ⟨y, e', _⟩
      rw [e] at e'
      injection e' with a b
      exact absurd a (by decide)
  · rw [if_neg h1]
    refine cn_none fun w hw => ?_
    rintro ⟨t, e, q⟩
    have hl := words_len hw
    match t, e, q with
    | .l ts, e, q => cases q
    | .b x, e, q =>
      rw [accA, accS] at q
      simp only [Bool.or_eq_true, beq_iff_eq] at q
      rcases q with rfl | rfl
      · rw [encB1 (by decide), if_neg (by decide)] at e
        rw [← e] at hl
        simp at hl
        omega
      · rw [encB1 (by decide), if_pos (by decide)] at e
        rw [← e] at hl
        simp at hl
        omega
def isRow : Option SK → Prop
  | none => True
  | some (.many _ _) => True
  | some (.pair _ _) => True
  | _ => False
theorem cnt_of (hn : as.Nodup) (f : Nat) (hr : ∀ K, isRow K → ∀ left place, left ≤ f → left < 56 → cn (rowsOk K place) (wordsF as left) = rowsF f K left place (numsOf as)) (K : Option SK) (n : Nat) (hf : n ≤ f + 1) (h56 : n < 56) :
    cn (accE K) (wordsF as n) = cntF (fun K l => rowsF f K l 0 (numsOf as)) K n (numsOf as) := by
  have hl : ∀ K', isRow K' → lstF (fun m => cn (rowsOk K' 0) (wordsF as m)) n (numsOf as) = lstF (fun m => rowsF f K' m 0 (numsOf as)) n (numsOf as) := fun K' hK => by
    unfold lstF
    dsimp only
    split
    · rw [hr K' hK _ _ (by omega) (by omega)]
    · rfl
  match K with
  | none => rw [accE_split hn none (fun _ => true) n h56 (fun _ => rfl) (fun ts => (accL_none 0 ts).symm), hl none trivial]; rfl
  | some .truth => rw [truth_count hn n h56]; rfl
  | some (.oct lo hi e) =>
    have : cn (accE (some (.oct lo hi e))) (wordsF as n) = cn (fun w => ∃ x, encT (.b x) = w ∧ fitsB lo hi e x.length = true) (wordsF as n) := cn_congr fun w _ => by
      constructor
      · rintro ⟨t, e, q⟩
        match t, e, q with
        | .l ts, e, q => cases q
        | .b x, e, q => exact ⟨x, e, q⟩
      · rintro ⟨x, e, q⟩
        exact ⟨.b x, e, q⟩
    rw [this, oct_count hn _ n h56]
    rfl
  | some (.many m k) =>
    rw [accE_split hn _ (fun _ => false) n h56 (fun _ => rfl) (fun ts => ?_), hl (some (.many m k)) trivial, octF_no, Nat.zero_add]
    · rfl
    · rw [accL_many ts 0 (by omega), Nat.zero_add]; rfl
  | some (.pair a b) =>
    rw [accE_split hn _ (fun _ => false) n h56 (fun _ => rfl) (fun ts => ?_), hl (some (.pair a b)) trivial, octF_no, Nat.zero_add]
    · rfl
    · rw [accL_pair]; rfl
theorem rowc_ok (hn : as.Nodup) : ∀ (f : Nat) (K : Option SK), isRow K → ∀ left place, left ≤ f → left < 56 → cn (rowsOk K place) (wordsF as left) = rowsF f K left place (numsOf as)
  | 0, K, _, left, place, h, _ => by
    obtain rfl : left = 0 := by omega
    rw [row_zero, rowsF]
    simp
  | f + 1, K, hK, left, place, h, h56 => by
    rw [rowsF]
    by_cases h0 : left = 0
    · subst h0
      rw [row_zero, if_pos rfl]
    · rw [if_neg h0, row_step K place left h56 (by omega)]
      split
      · refine sumTo_congr fun i hi => ?_
        rw [cnt_of hn f (rowc_ok hn f) _ _ (by omega) (by omega), rowc_ok hn f K hK _ _ (by omega) (by omega)]
      · rfl
/-- the words that are read are as many as the script counts -/
theorem cntc_ok (hn : as.Nodup) (f : Nat) (K : Option SK) (n : Nat) (hf : n ≤ f + 1) (h56 : n < 56) : cn (accE K) (wordsF as n) = cntF (fun K l => rowsF f K l 0 (numsOf as)) K n (numsOf as) := cnt_of hn f (rowc_ok hn f) K n hf h56
end
end

section
section
variable {prog : Program} {w : World} {A : Around} {E : Value → Shared → Prop} {gs : Array GenState} {dr : Drawn} {tk : Nat} {os : OsState} {h g : Heap} {L : Addr} {mm : Str → Option Value} {news : Ledger} {env : Env}
/-- [x for x in list if test]: only how many stay matters -/
theorem comp_filter {iter c : Expr} {x : Str} {px px' : Pos} {cscope : Scope} {cl : List (Str × Addr)} {pos : Pos} {ax : Addr} {vs : List Value} {n : Nat} {Q : Value → Shared → Prop} (p : Value → Bool)
    (hs : ∀ x, foldedSetIterable iter env x = pure x) (hclos : closureFor cscope env = pure cl) (hkind : cscope.kind = .function) (hnames : ∀ y ∈ cscope.names, y.2 = .local → cscope.names.lookup y.1 = some .local)
    (hcell : ∀ y ∈ cscope.names, y.2 ≠ .cell) (hx : cscope.names.lookup x = some .local) (hxd : (x == ("__debug__" : Str)) = false)
    (hh : A.handled = none) (hz : vs.length ≤ 100000) (F : Fr g L h mm) (N : News g L h news) (hax : h.get? ax = some (lob vs n))
    (hit : ∀ Q' : Value → Shared → Prop, Q' (.ref ax) ⟨h, gs, dr, tk, os⟩ → wpAny (model prog w) A (eval iter env) Q' E ⟨h, gs, dr, tk, os⟩)
    (test : ∀ (v : Value) (s₂ : Shared) (C : Addr) (mC : Str → Option Value) (E' : Value → Shared → Prop), v ∈ vs → s₂.heap.Ns C mC → mC x = some v →
      wpAny (model prog w) A (isTrue c (compEnvC cscope cl C env) (eval c (compEnvC cscope cl C env))) (fun ok s₃ => ok = p v ∧ Keeps s₂ s₃) E' s₂)
    (H : ∀ D ys k h' tk', ys.length = (vs.filter p).length → Fr g L h' mm → News g L h' ((D, lob ys k) :: news) → Q (.ref D) ⟨h', gs, dr, tk', os⟩) :
    wpAny (model prog w) A (eval (.ListComp (.Name x px') [⟨.Name x px, iter, [c], 0⟩] cscope pos) env) Q E ⟨h, gs, dr, tk, os⟩ := by
  rw [eval_ListComp]
  refine wpAny_comprehension_free (use := none) rfl hs hclos hkind hnames (hit _ ?_)
  refine wpAny_pyIter_list (s := ⟨h, gs, dr, tk, os⟩) (isl_of hax) ?_
  have hI : ∀ p ∈ news, p.1 ≠ h.objs.size := news_lt N
  have haI : ax ≠ h.objs.size := Nat.ne_of_lt (Heap.lt_size hax)
  have k1 : Ke h (h.push { cls := .type "list_iterator", data := .fields #[.ref ax, .int 0 0] }) := fun b o e => Heap.get?_push_of_some _ e
  have g1 : (h.push { cls := .type "list_iterator", data := .fields #[.ref ax, .int 0 0] }).get? h.objs.size = some { cls := .type "list_iterator", data := .fields #[.ref ax, .int 0 0] } := Heap.get?_push_size _ rfl
  have z1 : (h.push { cls := .type "list_iterator", data := .fields #[.ref ax, .int 0 0] }).objs.size = h.objs.size + 1 := Heap.size_push ..
  dsimp only
  generalize hH1 : h.push { cls := .type "list_iterator", data := .fields #[.ref ax, .int 0 0] } = H1 at k1 g1 z1 ⊢
  refine wpAny_newObj_type (s := ⟨H1, gs, dr, tk, os⟩) (wpAny_newFunctionEnv hcell (by intro y hy; simp at hy) (fun h₁ hns₁ hsb₁ => ?_) hkind)
  dsimp only at hns₁ hsb₁ ⊢
  have k2 : Ke H1 (H1.push { cls := .type "list", dict := none, data := .seq ([] : List Value).toArray }) := fun b o e => Heap.get?_push_of_some _ e
  have g2 : (H1.push { cls := .type "list", dict := none, data := .seq ([] : List Value).toArray }).get? H1.objs.size = some (lob [] 0) := Heap.get?_push_size _ rfl
  have z2 : (H1.push { cls := .type "list", dict := none, data := .seq ([] : List Value).toArray }).objs.size = H1.objs.size + 1 := Heap.size_push ..
  generalize hH2 : H1.push { cls := .type "list", dict := none, data := .seq ([] : List Value).toArray } = H2 at hns₁ hsb₁ k2 g2 z2 ⊢
  have hLlt : @LT.lt Nat _ L h.objs.size := F.ns.lt
  have old : ∀ b o, h.get? b = some o → h₁.get? b = some o := fun b o e => hsb₁.extBut b o (by have := Heap.lt_size e; rw [z2, z1]; exact Nat.ne_of_lt (Nat.lt_succ_of_lt (Nat.lt_succ_of_lt this))) (Heap.get?_push_of_some _ (k2 _ _ (k1 _ _ e)))
  have freshg : ∀ a, h.objs.size ≤ a → g.get? a = none := fun a ha => by
    cases e : g.get? a with
    | none => rfl
    | some o' => exact absurd (Heap.lt_size (F.keep _ _ e)) (Nat.not_lt.mpr ha)
  have c1 : (H2.objs.size : Nat) = h.objs.size + 2 := by rw [z2, z1]
  have c2 : (H1.objs.size : Nat) = h.objs.size + 1 := z1
  have hDC : H1.objs.size ≠ H2.objs.size := fun e => by rw [c1, c2] at e; exact absurd e (by omega)
  have hDI : H1.objs.size ≠ h.objs.size := fun e => by rw [c2] at e; exact absurd e (by omega)
  have hCI : H2.objs.size ≠ h.objs.size := fun e => by rw [c1] at e; exact absurd e (by omega)
  have hlax : @LT.lt Nat _ ax h.objs.size := Heap.lt_size hax
  have hDa : H1.objs.size ≠ ax := fun e => by rw [← e, c2] at hlax; exact absurd hlax (by omega)
  have hCa : H2.objs.size ≠ ax := fun e => by rw [← e, c1] at hlax; exact absurd hlax (by omega)
  have hit1 : h₁.get? h.objs.size = some { cls := .type "list_iterator", data := .fields #[.ref ax, .int 0 0] } := hsb₁.extBut _ _ (Ne.symm hCI) (Heap.get?_push_of_some _ (k2 _ _ g1))
  have hacc : h₁.get? H1.objs.size = some (lob [] 0) := hsb₁.extBut _ _ hDC (Heap.get?_push_of_some _ g2)
  have loop : ∀ tk', codeAny (model prog w) A (.compLoop (.ListComp (.Name x px') [⟨.Name x px, iter, [c], 0⟩] cscope pos) 0 (.ref h.objs.size) (.ref H1.objs.size) (compEnvC cscope cl H2.objs.size env)) (compPost (model prog w) A E none Q (.ref H1.objs.size) H2.objs.size) ⟨h₁, gs, dr, tk', os⟩ := by
    intro tk'
    refine codeAny_compLoop_walk (cenv := compEnvC cscope cl H2.objs.size env) (s := ⟨h₁, gs, dr, tk', os⟩) (Walks.list hh h.objs.size ax haI vs.toArray) p (fun _ _ => True) (lookup_relabel_local hx) (by simp [compEnvC, relabel, hkind]) hDC (by simp [hDI, hDa]) (by show H2.objs.size ∉ _; simp [hCI, hCa]) ⟨⟨_, hit1, rfl, rfl⟩, _, old _ _ hax, rfl, n, rfl⟩ ⟨0, hacc⟩ hns₁ ?_ ?_ ?_ (by rw [sizeLine_eq]; simp; omega)
    · intro i v s₂ m₂ hv hn hm _ _
      refine wpAny_tests_one (test v s₂ _ m₂ _ ?_ hn hm)
      have : vs[i]? = some v := by simpa using hv
      exact List.mem_of_getElem? this
    · intro i v s₂ m₂ hv _ hn hm _ _
      refine xe_name (h := s₂.heap) (gs := s₂.gens) (env := compEnvC cscope cl H2.objs.size env) hn hm hkind (lookup_relabel_local hx) hxd ?_
      exact ⟨trivial, s₂.heap, s₂.toks, rfl, fun _ _ e => e⟩
    · intro h' tk₂ m' ys us hn' _ hpl hul hus hpr kp
      obtain ⟨k, hk⟩ := hpl
      have keep : ∀ b o, h.get? b = some o → h'.get? b = some o := fun b o e => by
        have hb : @LT.lt Nat _ b h.objs.size := Heap.lt_size e
        refine kp b o (fun q => ?_) (fun q => ?_) (fun q => ?_) (old _ _ e)
        · replace q : b = H2.objs.size := q
          rw [q, c1] at hb
          exact absurd hb (by omega)
        · rw [List.mem_singleton.mp q] at hb
          exact Nat.lt_irrefl _ hb
        · rw [q, c2] at hb
          exact absurd hb (by omega)
      have huv : us = vs := by
        refine List.ext_getElem? fun i => ?_
        by_cases hi : i < us.length
        · have e1 : us[i]? = some us[i] := List.getElem?_eq_getElem hi
          have := hus i _ e1
          rw [e1]
          simpa using this.symm
        · rw [List.getElem?_eq_none (by omega), List.getElem?_eq_none (by simp at hul; omega)]
      have hyl : ys.toList.length = (vs.filter p).length := by rw [← huv]; exact hpr.length.symm
      have hlt : ∀ p ∈ news, @LT.lt Nat _ p.1 h.objs.size := fun p hp => Heap.lt_size (N p hp).1
      refine comp_end (ys := ys.toList) (k := k) (F.keeps keep) (fun q hq => ?_) (fun q hq => ?_) (fun q => ?_) (freshg _ (by rw [c1]; omega)) hn' fun h'' F'' N'' => H _ _ _ h'' _ hyl F'' N''
      · rcases List.mem_cons.mp hq with rfl | hq
        · exact ⟨hk, (fun e => by rw [← e, c2] at hLlt; exact absurd hLlt (by omega)), freshg _ (by rw [c2]; omega)⟩
        · exact news_ke N keep q hq
      · rcases List.mem_cons.mp hq with rfl | hq
        · exact hDC
        · have := hlt q hq
          intro e
          rw [e, c1] at this
          exact absurd this (by omega)
      · rw [← q, c1] at hLlt
        exact absurd hLlt (by omega)
  exact codeAny_compStart_list (loop _) (wpAny_pyIter_listiter (i := 0) (l := ax) ⟨_, hit1, rfl, rfl⟩ (loop _))
end
end

section
section
variable {prog : Program} {w : World} {A : Around} {R : Result → Shared → Prop} {s : Shared}
theorem compTurn_two0 (elt t1 i1 t2 i2 : Expr) (scope : Scope) (pos : Pos) (it acc : Value) (env : Env) :
    compTurn (.ListComp elt [⟨t1, i1, [], 0⟩, ⟨t2, i2, [], 0⟩] scope pos) 0 it acc env = (standAt i1.pos >>= fun _ => pyNext it >>= fun r => match r with
      | none => pure (.done .next)
      | some v => letOwnedTupleGo t1 it v >>= fun _ => assign t1 env v >>= fun _ =>
        eval i2 env >>= fun x => standAt i2.pos >>= fun _ => foldedSetIterable i2 env x >>= fun x => holding [x] (pyIter x) >>= fun j => runOwn (.compStart (.ListComp elt [⟨t1, i1, [], 0⟩, ⟨t2, i2, [], 0⟩] scope pos) 1 j acc env) env >>= fun _ =>
          again (.compLoop (.ListComp elt [⟨t1, i1, [], 0⟩, ⟨t2, i2, [], 0⟩] scope pos) 0 it acc env)) := by rfl
theorem compTurn_two1 (elt t1 i1 t2 i2 : Expr) (scope : Scope) (pos : Pos) (it acc : Value) (env : Env) :
    compTurn (.ListComp elt [⟨t1, i1, [], 0⟩, ⟨t2, i2, [], 0⟩] scope pos) 1 it acc env = (standAt i2.pos >>= fun _ => pyNext it >>= fun r => match r with
      | none => pure (.done .next)
      | some v => letOwnedTupleGo t2 it v >>= fun _ => assign t2 env v >>= fun _ =>
        (eval elt env >>= fun x => call (.builtin "list.append") [acc, x] >>= fun _ => pure ()) >>= fun _ =>
          again (.compLoop (.ListComp elt [⟨t1, i1, [], 0⟩, ⟨t2, i2, [], 0⟩] scope pos) 1 it acc env)) := by rfl
theorem comp_two_in {elt t1 i1 t2 i2 : Expr} {scope : Scope} {pos : Pos} {it acc : Value} {env : Env} (I : Nat → Shared → Prop)
    (turn : ∀ n s, I n s → ∀ E', wpAny (model prog w) A (pyNext it) (fun r s₁ => match r with
      | none => R (.ok .next) s₁
      | some v => wpAny (model prog w) A (assign t2 env v) (fun _ s₂ => wpAny (model prog w) A (eval elt env) (fun x s₃ =>
          wpAny (model prog w) A (call (.builtin "list.append") [acc, x]) (fun _ s₄ => ∃ m, m < n ∧ I m s₄) E' s₃) E' s₂) E' s₁) E' s)
    (n : Nat) (h : I n s) (ht : ∀ v, letOwnedTupleGo t2 it v = pure () := by intro _; rfl) :
    codeAny (model prog w) A (.compLoop (.ListComp elt [⟨t1, i1, [], 0⟩, ⟨t2, i2, [], 0⟩] scope pos) 1 it acc env) R s := by
  refine codeAny_loop rfl I (fun n s hI => ?_) n h
  show wpAny _ _ ((compTurn (.ListComp elt [⟨t1, i1, [], 0⟩, ⟨t2, i2, [], 0⟩] scope pos) 1 it acc env).onRaise (fun x => do noteFrame x env; theTreesLotGoes x)) _ _ s
  refine wpAny_noted ?_
  rw [compTurn_two1]
  refine wpAny_bind (wpAny_standAt (wpAny_bind (wpAny_mono (turn n s hI _) (fun r s₁ h₁ => ?_) fun _ _ h' => h')))
  cases r with
  | none => exact wpAny_pure h₁
  | some v =>
    refine wpAny_bind (wpAny_of_eq (ht v) ?_)
    exact wpAny_bind (wpAny_mono h₁ (fun _ s₂ h₂ => wpAny_bind (wpAny_bind (wpAny_mono h₂ (fun x s₃ h₃ => wpAny_bind (wpAny_mono h₃
      (fun _ s₄ h₄ => wpAny_pure (wpAny_pure ⟨rfl, h₄⟩)) fun _ _ h' => h')) fun _ _ h' => h'))) fun _ _ h' => h')
theorem comp_two_start {elt t1 i1 t2 i2 : Expr} {scope : Scope} {pos : Pos} {it acc : Value} {env : Env} {d : Nat} (hd : d = 0 ∨ d = 1)
    (h0 : codeAny (model prog w) A (.compLoop (.ListComp elt [⟨t1, i1, [], 0⟩, ⟨t2, i2, [], 0⟩] scope pos) d it acc env) R s)
    (h : ∀ E', wpAny (model prog w) A (pyIter it) (fun it' s' => codeAny (model prog w) A (.compLoop (.ListComp elt [⟨t1, i1, [], 0⟩, ⟨t2, i2, [], 0⟩] scope pos) d it' acc env) R s') E' s) :
    codeAny (model prog w) A (.compStart (.ListComp elt [⟨t1, i1, [], 0⟩, ⟨t2, i2, [], 0⟩] scope pos) d it acc env) R s := by
  refine codeAny_of_tree ?_
  show wpAny _ _ ((compStart (.ListComp elt [⟨t1, i1, [], 0⟩, ⟨t2, i2, [], 0⟩] scope pos) d it acc env).onRaise (fun x => do noteFrame x env; standAt theWindowsPlace)) _ _ s
  refine wpAny_notedAt ?_
  unfold compStart
  rcases hd with rfl | rfl <;>
  · show wpAny _ _ (ask >>= _) _ _ s
    refine wpAny_bind (wpAny_askSetting (wpAny_ite ?_))
    split
    · first
        | exact wpAny_bind (wpAny_pure (wpAny_pure (And.intro rfl h0)))
        | exact wpAny_pure (And.intro rfl h0)
    · first
        | exact wpAny_bind (wpAny_rule (wpAny_bind (wpAny_standAt (wpAny_bind (wpAny_mono (h _) (fun it' s' h' => wpAny_pure (And.intro rfl h')) fun _ _ x => x)))))
theorem comp_two_out {elt t1 i1 t2 i2 : Expr} {scope : Scope} {pos : Pos} {it acc : Value} {env : Env} (I : Nat → Shared → Prop)
    (hs : ∀ x, foldedSetIterable i2 env x = pure x)
    (turn : ∀ n s, I n s → ∀ E', wpAny (model prog w) A (pyNext it) (fun r s₁ => match r with
      | none => R (.ok .next) s₁
      | some v => wpAny (model prog w) A (assign t1 env v) (fun _ s₂ => wpAny (model prog w) A (eval i2 env) (fun x s₃ =>
          wpAny (model prog w) A (pyIter x) (fun j s₄ => codeAny (model prog w) A (.compStart (.ListComp elt [⟨t1, i1, [], 0⟩, ⟨t2, i2, [], 0⟩] scope pos) 1 j acc env) (fun r s₅ => match r with | .ok _ => ∃ m, m < n ∧ I m s₅ | .error _ => False) s₄) E' s₃) E' s₂) E' s₁) E' s)
    (n : Nat) (h : I n s) (ht : ∀ v, letOwnedTupleGo t1 it v = pure () := by intro _; rfl) :
    codeAny (model prog w) A (.compLoop (.ListComp elt [⟨t1, i1, [], 0⟩, ⟨t2, i2, [], 0⟩] scope pos) 0 it acc env) R s := by
  refine codeAny_loop rfl I (fun n s hI => ?_) n h
  show wpAny _ _ ((compTurn (.ListComp elt [⟨t1, i1, [], 0⟩, ⟨t2, i2, [], 0⟩] scope pos) 0 it acc env).onRaise (fun x => do noteFrame x env; theTreesLotGoes x)) _ _ s
  refine wpAny_noted ?_
  rw [compTurn_two0]
  refine wpAny_bind (wpAny_standAt (wpAny_bind (wpAny_mono (turn n s hI _) (fun r s₁ h₁ => ?_) fun _ _ h' => h')))
  cases r with
  | none => exact wpAny_pure h₁
  | some v =>
    refine wpAny_bind (wpAny_of_eq (ht v) ?_)
    refine wpAny_bind (wpAny_mono h₁ (fun _ s₂ h₂ => wpAny_bind (wpAny_mono h₂ (fun x s₃ h₃ => wpAny_bind (wpAny_standAt (wpAny_bind (wpAny_of_eq (hs x) ?_)))) fun _ _ h' => h')) fun _ _ h' => h')
    refine wpAny_bind (wpAny_holding (wpAny_mono h₃ (fun j s₄ h₄ => wpAny_bind ?_) fun _ _ h' => h'))
    refine wpAny_runOwn (codeAny_mono (R := fun r s₅ => match r with | .ok _ => ∃ m, m < n ∧ I m s₅ | .error _ => False) h₄ fun r s₅ h₅ => ?_)
    cases r with
    | ok f => exact wpAny_pure ⟨rfl, h₅⟩
    | error e => exact h₅.elim
end
end

section
section
variable {w : World} {A : Around} {E : Value → Shared → Prop} {gs : Array GenState} {dr : Drawn} {tk : Nat} {os : OsState} {h : Heap} {Q : Value → Shared → Prop}
theorem x_powS {n m : Nat} {t u : Tok} {prog : Program} (hn : n ≤ 100) (hm : m ≤ 100) (H : ∀ t' tk', Q (.int ((n ^ m : Nat) : Int) t') ⟨h, gs, dr, tk', os⟩) : wpAny (model prog w) A (binaryOp .Pow (.int (n : Int) t) (.int (m : Int) u)) Q E ⟨h, gs, dr, tk, os⟩ :=
  pow_int_small (by omega) (by omega) (by omega) (by rw [Int.toNat_natCast, show ((n : Int) ^ m) = ((n ^ m : Nat) : Int) by simp]; exact H _ _)
theorem count_truth {size : Nat} {T : Ledger} {v : Value} {t : Tok} {a : Addr} {ws : List Value} {n' : Nat} {ls : List Int} (B : Base w h) (hd : A.depth + 1 < recursionLimit) (hh : A.handled = none) (R : KRep T v .truth) (hT : ∀ p ∈ T, h.get? p.1 = some p.2)
    (hls : h.get? a = some (lob ws n')) (hi : IntsAre ws ls) (hsz : size < 50) (f : Option SK → Nat → Nat)
    (H : ∀ h' tk' t' (f : Option SK → Nat → Nat), Ke h h' → Q (.int ((cntF f (some .truth) size ls : Nat) : Int) t') ⟨h', gs, dr, tk', os⟩) : wpAny (model pw w) A (call (.ref 1797) [v, .int size t, .ref a]) Q E ⟨h, gs, dr, tk, os⟩ := by
  obtain ⟨u, s, rfl, hm⟩ := R
  have hg := hT _ hm
  refine x_enter B (by omega) (by rfl) (by rfl) (by rfl) (by rfl) (by rfl) (binds := [(Str.ofString "kind", _), (Str.ofString "size", _), (Str.ofString "letters", _)]) (by rfl) (locs (by rfl)) (by rfl) (by rfl) (by rfl) (by decide) ?_
  intro h₁ L tk' _ F N
  have hh' : (A.deeper (envOf (Str.ofString "_law_count") (fdS (sAt 46)) L 1797 (Value.ref 1796))).handled = none := hh
  show wpAny _ _ (execs (fdB (sAt 46)) _) _ _ _
  refine wpAny_execs_cons ?_
  repeat' tb_start
  refine x_titem (F.keep _ _ hg) (by decide) (by decide) (by rfl) (by with_unfolding_all rfl) (fun _ => by with_unfolding_all rfl) ?_
  repeat' tb_start
  all_goals first
    | (exfalso; omega)
    | (refine in_list_ints (s := ⟨_, gs, dr, _, os⟩) (isl_of (F.keep _ _ hls)) hi ?_; repeat' tb_start)
    | skip
  all_goals first
    | (exfalso; omega)
    | (refine in_list_ints (s := ⟨_, gs, dr, _, os⟩) (isl_of (F.keep _ _ hls)) hi ?_; repeat' tb_start)
    | skip
  all_goals first
    | (exfalso; omega)
    | (refine Eq.mp (congrArg (fun b => Q (.int b _) _) ?_) (H _ _ _ f F.keep); clear H F N hT hg; simp only [cntF, hasL]; rw [if_pos (by omega)]; simp only [*]; rfl)
    | (refine Eq.mp (congrArg (fun b => Q (.int b _) _) ?_) (H _ _ _ f F.keep); clear H F N hT hg; simp only [cntF, hasL]; rw [if_neg (by omega)]; rfl)
    | skip
end
end

set_option hygiene true
section
variable {M : Model} {A : Around} {E : Value → Shared → Prop} {s : Shared} {name : Str} {scope cscope : Scope} {L a C : Addr} {cd : Value} {cl : List (Str × Addr)} {env : Env}
theorem gc_eval {e : Expr} {Q : Value → Shared → Prop} (h : wpAny M A (eval e (envOfC name scope L a cd)) Q E s) : wpAny M A (eval e (envOfC name scope L a cd)) Q E s := h
theorem gp_eval {e : Expr} {Q : Value → Shared → Prop} (h : wpAny M A (eval e (compEnvC cscope cl C env)) Q E s) : wpAny M A (eval e (compEnvC cscope cl C env)) Q E s := h
theorem gs_tail {v sl : Expr} {a i : Value} {Q : Value → Shared → Prop} (h : wpAny M A (subscriptTail v sl a i) Q E s) : wpAny M A (subscriptTail v sl a i) Q E s := h
theorem gu_op {o : UnaryOp} {a : Value} {Q : Value → Shared → Prop} (h : wpAny M A (unaryOp o a) Q E s) : wpAny M A (unaryOp o a) Q E s := h
end
set_option hygiene false
local macro_rules | `(tactic| tb_start) => `(tactic| first
  | ((with_reducible refine' gc_eval ?_); first
    | ((with_reducible refine' xe_name ?hn ?hv ?hk ?hl ?hd ?_); (case hn => exact F.ns); (case hv => rfl); (case hk => rfl); (case hl => rfl); (case hd => decide))
    | ((with_reducible refine' xe_cell ?hc ?hk ?hl ?hd ?N ?hm ?ho ?_); (case hc => rfl); (case hk => rfl); (case hl => rfl); (case hd => decide); (case N => exact N); (case hm => tb_rel); (case ho => assumption))
    | ((with_reducible refine' xe_call ?B ?hv ?hg ?hk ?hl ?hd ?ho ?hdat ?he ?_); (case B => exact Base.keeps (by assumption) F.keep); (case hv => rfl); (case hg => rfl); (case hk => rfl); (case hl => rfl); (case hd => decide); (case ho => rfl); (case hdat => rfl); (case he => rfl))
    | ((with_reducible refine' xe_callb ?B ?hb ?hv ?hg ?hbu ?hk ?hl ?hd ?hn ?he ?hp ?_); (case B => exact Base.keeps (by assumption) F.keep); (case hb => rfl); (case hv => tb_rel); (case hg => rfl); (case hbu => rfl); (case hk => rfl); (case hl => rfl); (case hd => decide); (case hn => decide); (case he => rfl); (case hp => rfl))
    | ((with_reducible refine' xe_callt ?B ?hb ?hv ?hg ?hbu ?hk ?hl ?hd ?hn ?he ?hp ?_); (case B => exact Base.keeps (by assumption) F.keep); (case hb => rfl); (case hv => tb_rel); (case hg => rfl); (case hbu => rfl); (case hk => rfl); (case hl => rfl); (case hd => decide); (case hn => decide); (case he => rfl); (case hp => rfl))
    | ((with_reducible refine' xe_glob ?B ?hv ?hg ?hk ?hl ?hd ?_); (case B => exact Base.keeps (by assumption) F.keep); (case hv => rfl); (case hg => rfl); (case hk => rfl); (case hl => rfl); (case hd => decide))
    | ((with_reducible refine' xe_blt ?B ?hb ?hv ?hg ?hbu ?hk ?hl ?hd ?hn ?_); (case B => exact Base.keeps (by assumption) F.keep); (case hb => rfl); (case hv => tb_rel); (case hg => rfl); (case hbu => rfl); (case hk => rfl); (case hl => rfl); (case hd => decide); (case hn => decide)))
  | ((with_reducible refine' gp_eval ?_); first
    | ((with_reducible refine' xe_name ?hn ?hv ?hk ?hl ?hd ?_); (case hn => exact hn); (case hv => exact hm); (case hk => rfl); (case hl => rfl); (case hd => decide))
    | ((with_reducible refine' xe_cell ?hc ?hk ?hl ?hd ?N ?hm ?ho ?_); (case hc => rfl); (case hk => rfl); (case hl => rfl); (case hd => decide); (case N => exact N); (case hm => tb_rel); (case ho => assumption))
    | ((with_reducible refine' xe_call ?B ?hv ?hg ?hk ?hl ?hd ?ho ?hdat ?he ?_); (case B => exact Base.keeps (by assumption) F.keep); (case hv => rfl); (case hg => rfl); (case hk => rfl); (case hl => rfl); (case hd => decide); (case ho => rfl); (case hdat => rfl); (case he => rfl)))
  | ((with_reducible refine' g_eval ?_); first
    | (with_reducible refine' UnaryOp_ ?_)
    | (with_reducible refine' wpAny_IfExp ?_))
  | ((with_reducible refine' g_exec ?_); ((with_reducible refine' wpAny_Assign_Subscript ?_ ?hs); (case hs => rfl)))
  | ((with_reducible refine' gs_tail ?_); ((with_reducible refine' x_llast ?hg ?hx ?hs ?_); (case hg => first | exact News.get N (by tb_rel) | exact Fr.keep F _ _ (by assumption)); (case hx => assumption); (case hs => with_unfolding_all rfl)))
  | ((with_reducible refine' gs_tail ?_); ((with_reducible refine' x_tget ?hg ?h0 ?hf ?hx ?hs ?_); (case hg => first | exact News.get N (by tb_rel) | exact Fr.keep F _ _ (by assumption)); (case h0 => first | decide | omega); (case hf => first | decide | omega); (case hx => first | assumption | rfl); (case hs => with_unfolding_all rfl)))
  | ((with_reducible refine' gu_op ?_); (with_reducible refine' x_neg ?_); intro _ _)
  | ((with_reducible refine' xe_store (news := _) ?F ?N ?hk ?hl ?_); (case F => exact F); (case N => exact N); (case hk => rfl); (case hl => rfl); (clear F N); intro _ _ F N)
  | ((with_reducible refine' g_bin ?_); first
    | ((with_reducible refine' x_fdivE ?hj ?_); (case hj => omega); intro _ _)
    | ((with_reducible refine' x_mode ?hj ?_); (case hj => omega); intro _ _)
    | ((with_reducible refine' x_ladd ?F ?N ?hl ?hb ?hz ?_); (case F => exact F); (case N => exact N); (case hl => first | exact isl_of (News.get N (by tb_rel)) | exact isl_of (Fr.keep F _ _ (by assumption))); (case hb => first | exact isl_of (News.get N (by tb_rel)) | exact isl_of (Fr.keep F _ _ (by assumption))); (case hz => simp only [List.length_append, List.length_take, List.length_drop, List.length_cons, List.length_nil]; omega); (clear F N); intro _ _ _ F N))
  | ((with_reducible refine' x_lsl ?F ?N ?hl ?pl ?pu ?hz ?hs ?ht ?hc ?_); (case F => exact F); (case N => exact N); (case hl => first | exact isl_of (News.get N (by tb_rel)) | exact isl_of (Fr.keep F _ _ (by assumption))); (case pl => first | exact .int _ _ | exact .none); (case pu => first | exact .int _ _ | exact .none); (case hz => omega); (case hs => intro _; with_unfolding_all rfl); (case ht => intro _; with_unfolding_all rfl); (case hc => first | exact pick_upto (by omega) | exact pick_from (by omega)); (clear F N); intro _ _ _ F N)
  | ((with_reducible refine' g_cmp ?_); first
    | (with_reducible refine' x_ne ?_)
    | (with_reducible refine' x_bne ?_)
    | (with_reducible refine' x_boolne ?_)
    | (with_reducible refine' x_bltt ?_))
  | ((with_reducible refine' g_call ?_); first
    | ((with_reducible refine' x_isb1 ?B ?_); (case B => exact Base.keeps (by assumption) F.keep); intro _)
    | ((with_reducible refine' x_isl1 ?B ?hax ?_); (case B => exact Base.keeps (by assumption) F.keep); (case hax => first | exact News.get N (by tb_rel) | exact Fr.keep F _ _ (by assumption)); intro _)
    | ((with_reducible refine' x_min ?hh ?F ?N ?_); (case hh => assumption); (case F => exact F); (case N => exact N); (clear F N); intro _ _ _ F N)
    | ((with_reducible refine' x_range ?F ?N ?_); (case F => exact F); (case N => exact N); (clear F N); intro _ _ _ _ _ _ F N)
    | ((with_reducible refine' x_bytes1 ?F ?N ?hl ?h0 ?h1 ?hh ?_); (case F => exact F); (case N => exact N); (case hl => exact News.get N (by tb_rel)); (case h0 => omega); (case h1 => omega); (case hh => assumption); (clear F N); intro _ _ _ F N))
  | (fail "no step"))

section
def isOct : Option SK → Prop
  | none => True
  | some (.oct _ _ _) => True
  | _ => False
/-- the choice by size in _law_count -/
def thenOf : Stmt → List Stmt | .If _ b _ _ => b | _ => []
def stmtC : Stmt := (thenOf ((fdB (sAt 46)).getD 2 (.Pass default))).getD 0 (.Pass default)
def keepLo : Value → Bool | .int l _ => decide (l < 128) | _ => false
def keepHi : Value → Bool | .int l _ => decide (l ≥ 128) | _ => false
theorem keepLo_len : ∀ {vs : List Value} {ls : List Int}, IntsAre vs ls → (vs.filter keepLo).length = (ls.filter fun l => decide (l < 128)).length
  | _, _, .nil => rfl
  | _, _, .cons k t r => by
    rw [List.filter_cons, List.filter_cons]
    have ih := keepLo_len r
    by_cases h : k < 128
    · rw [if_pos (by simpa [keepLo] using h), if_pos (by simpa using h), List.length_cons, List.length_cons, ih]
    · rw [if_neg (by simpa [keepLo] using h), if_neg (by simpa using h), ih]
theorem keepHi_len : ∀ {vs : List Value} {ls : List Int}, IntsAre vs ls → (vs.filter keepHi).length = (ls.filter fun l => decide (l ≥ 128)).length
  | _, _, .nil => rfl
  | _, _, .cons k t r => by
    rw [List.filter_cons, List.filter_cons]
    have ih := keepHi_len r
    by_cases h : k ≥ 128
    · rw [if_pos (by simpa [keepHi] using h), if_pos (by simpa using h), List.length_cons, List.length_cons, ih]
    · rw [if_neg (by simpa [keepHi] using h), if_neg (by simpa using h), ih]
theorem ints_mem : ∀ {vs : List Value} {ls : List Int} {v : Value}, IntsAre vs ls → v ∈ vs → ∃ l t, v = .int l t
  | _, _, v, .cons k t r, h => by
    rcases List.mem_cons.mp h with rfl | h
    · exact ⟨_, _, rfl⟩
    · exact ints_mem r h
section
variable {w : World} {A : Around} {E : Value → Shared → Prop} {gs : Array GenState} {dr : Drawn} {tk : Nat} {os : OsState} {h hb : Heap} {Q : Value → Shared → Prop}
theorem fitsK_call {K : Option SK} {n : Nat} {T : Ledger} {v : Value} {t : Tok} (hK : isOct K) (B : Base w h) (hd : A.depth + 1 < recursionLimit) (hh : A.handled = none) (R : ARep T v K) (hT : ∀ p ∈ T, h.get? p.1 = some p.2) (hn : n < 1000000)
    (H : ∀ h' tk', Ke h h' → Q (.bool (fitsA K n)) ⟨h', gs, dr, tk', os⟩) : wpAny (model pw w) A (call (.ref 1792) [v, .int n t]) Q E ⟨h, gs, dr, tk, os⟩ := by
  match K, hK, R, H with
  | none, _, R, H => exact fitsA_call B hd R hT H
  | some (.oct lo hi e), _, R, H => exact fits_call B hd hh R hT hn H
abbrev envN (L : Addr) : Env := envOf (Str.ofString "_law_count") (fdS (sAt 46)) L 1797 (Value.ref 1796)
theorem octs_seg {K : Option SK} {size : Nat} {L : Addr} {T : Ledger} {v : Value} {t tf : Tok} {a : Addr} {ws : List Value} {n' : Nat} {ls : List Int} {ρ : List (Str × Value)} (hK : isOct K) (B : Base w hb) (hd : A.depth + 2 < recursionLimit) (hh : A.handled = none) (R : ARep T v K) (hT : ∀ p ∈ T, hb.get? p.1 = some p.2)
    (hls : hb.get? a = some (lob ws n')) (hi : IntsAre ws ls) (hl5 : ls.length ≤ 5) (hsz : size < 50)
    (F : Fr hb L h (look ([(Str.ofString "found", .int 0 tf), (Str.ofString "letters", .ref a), (Str.ofString "size", .int size t), (Str.ofString "kind", v)] ++ ρ))) (N : News hb L h []) :
    wpAny (model pw w) (A.deeper (envN L)) (exec stmtC (envN L)) (fun f s => f = .next ∧ ∃ h' tk' m x t' ρ', s = ⟨h', gs, dr, tk', os⟩ ∧ x = ((octF (fitsA K) size ls : Nat) : Int) ∧ Fr hb L h' m ∧ News hb L h' [] ∧ look ([(Str.ofString "found", .int x t'), (Str.ofString "letters", .ref a), (Str.ofString "size", .int size t), (Str.ofString "kind", v)] ++ ρ') = m) E ⟨h, gs, dr, tk, os⟩ := by
  have hh' : (A.deeper (envN L)).handled = none := hh
  have hdd : (A.deeper (envN L)).depth = A.depth + 1 := rfl
  have hwl := hi.length
  have hyl' : True := trivial
  show wpAny _ _ (exec (.If _ _ _ _) _) _ _ _
  refine wpAny_If ?_
  repeat' tb_start
  · obtain rfl : size = 1 := by omega
    refine in_list_ints (s := ⟨_, gs, dr, _, os⟩) (isl_of (F.keep _ _ hls)) hi ?_
    repeat' tb_start
    · refine fitsK_call (n := 0) hK (B.keeps F.keep) (by rw [hdd]; omega) hh' R (fun p hp => F.keep _ _ (hT p hp)) (by omega) fun h₃ tk₃ k₃ => ?_
      replace N := news_ke N k₃
      replace F := F.keeps k₃
      repeat' tb_start
      all_goals
        refine fitsK_call (n := 1) hK (B.keeps F.keep) (by rw [hdd]; omega) hh' R (fun p hp => F.keep _ _ (hT p hp)) (by omega) fun h₄ tk₄ k₄ => ?_
        replace N := news_ke N k₄
        replace F := F.keeps k₄
        repeat' tb_start
        · refine comp_filter (cl := []) keepLo (fun _ => rfl) (by rfl) (by rfl) (by decide) (by decide) (by rfl) (by decide) hh' (by omega) F N (F.keep _ _ hls) ?_ ?_ ?_
          · intro Q' hq
            repeat' tb_start
            exact hq
          · intro v s₂ C mC E' hv hn hm
            obtain ⟨h₂, gs₂, dr₂, tk₂, os₂⟩ := s₂
            obtain ⟨l, tl, rfl⟩ := ints_mem hi hv
            refine wpAny_isTrue_Compare1 ?_
            repeat' tb_start
            exact ⟨rfl, h₂, _, rfl, fun _ _ e => e⟩
          · intro D ys k h₅ tk₅ hyl F₅ N₅
            clear F N hyl'
            have F := F₅
            have N := N₅
            clear F₅ N₅
            have hyl' : ys.length = (ls.filter fun l => decide (l < 128)).length := hyl.trans (keepLo_len hi)
            have hyb : ys.length ≤ 1000000 := by rw [hyl']; have := List.length_filter_le (fun l : Int => decide (l < 128)) ls; omega
            repeat' tb_start
            (refine ⟨rfl, _, _, _, _, _, _, rfl, ?_, F, news_sub N (fun _ q => nomatch q), look_front (Has.all (by tb_rel))⟩; clear F N; (try simp only [hyl']); simp [octF, hasL, *])
        · (refine ⟨rfl, _, _, _, _, _, _, rfl, ?_, F, news_sub N (fun _ q => nomatch q), look_front (Has.all (by tb_rel))⟩; clear F N; (try simp only [hyl']); simp [octF, hasL, *])
    · refine fitsK_call (n := 1) hK (B.keeps F.keep) (by rw [hdd]; omega) hh' R (fun p hp => F.keep _ _ (hT p hp)) (by omega) fun h₄ tk₄ k₄ => ?_
      replace N := news_ke N k₄
      replace F := F.keeps k₄
      repeat' tb_start
      · refine comp_filter (cl := []) keepLo (fun _ => rfl) (by rfl) (by rfl) (by decide) (by decide) (by rfl) (by decide) hh' (by omega) F N (F.keep _ _ hls) ?_ ?_ ?_
        · intro Q' hq
          repeat' tb_start
          exact hq
        · intro v s₂ C mC E' hv hn hm
          obtain ⟨h₂, gs₂, dr₂, tk₂, os₂⟩ := s₂
          obtain ⟨l, tl, rfl⟩ := ints_mem hi hv
          refine wpAny_isTrue_Compare1 ?_
          repeat' tb_start
          exact ⟨rfl, h₂, _, rfl, fun _ _ e => e⟩
        · intro D ys k h₅ tk₅ hyl F₅ N₅
          clear F N hyl'
          have F := F₅
          have N := N₅
          clear F₅ N₅
          have hyl' : ys.length = (ls.filter fun l => decide (l < 128)).length := hyl.trans (keepLo_len hi)
          have hyb : ys.length ≤ 1000000 := by rw [hyl']; have := List.length_filter_le (fun l : Int => decide (l < 128)) ls; omega
          repeat' tb_start
          (refine ⟨rfl, _, _, _, _, _, _, rfl, ?_, F, news_sub N (fun _ q => nomatch q), look_front (Has.all (by tb_rel))⟩; clear F N; (try simp only [hyl']); simp [octF, hasL, *])
      · (refine ⟨rfl, _, _, _, _, _, _, rfl, ?_, F, news_sub N (fun _ q => nomatch q), look_front (Has.all (by tb_rel))⟩; clear F N; (try simp only [hyl']); simp [octF, hasL, *])
  · obtain rfl : size = 2 := by omega
    refine in_list_ints (s := ⟨_, gs, dr, _, os⟩) (isl_of (F.keep _ _ hls)) hi ?_
    repeat' tb_start
    · refine fitsK_call (n := 1) hK (B.keeps F.keep) (by rw [hdd]; omega) hh' R (fun p hp => F.keep _ _ (hT p hp)) (by omega) fun h₃ tk₃ k₃ => ?_
      replace N := news_ke N k₃
      replace F := F.keeps k₃
      repeat' tb_start
      · refine comp_filter (cl := []) keepHi (fun _ => rfl) (by rfl) (by rfl) (by decide) (by decide) (by rfl) (by decide) hh' (by omega) F N (F.keep _ _ hls) ?_ ?_ ?_
        · intro Q' hq
          repeat' tb_start
          exact hq
        · intro v s₂ C mC E' hv hn hm
          obtain ⟨h₂, gs₂, dr₂, tk₂, os₂⟩ := s₂
          obtain ⟨l, tl, rfl⟩ := ints_mem hi hv
          refine wpAny_isTrue_Compare1 ?_
          repeat' tb_start
          exact ⟨rfl, h₂, _, rfl, fun _ _ e => e⟩
        · intro D ys k h₅ tk₅ hyl F₅ N₅
          clear F N hyl'
          have F := F₅
          have N := N₅
          clear F₅ N₅
          have hyl' : ys.length = (ls.filter fun l => decide (l ≥ 128)).length := hyl.trans (keepHi_len hi)
          have hyb : ys.length ≤ 1000000 := by rw [hyl']; have := List.length_filter_le (fun l : Int => decide (l ≥ 128)) ls; omega
          repeat' tb_start
          (refine ⟨rfl, _, _, _, _, _, _, rfl, ?_, F, news_sub N (fun _ q => nomatch q), look_front (Has.all (by tb_rel))⟩; clear F N; (try simp only [hyl']); simp [octF, hasL, *])
      · (refine ⟨rfl, _, _, _, _, _, _, rfl, ?_, F, news_sub N (fun _ q => nomatch q), look_front (Has.all (by tb_rel))⟩; clear F N; (try simp only [hyl']); simp [octF, hasL, *])
    · (refine ⟨rfl, _, _, _, _, _, _, rfl, ?_, F, news_sub N (fun _ q => nomatch q), look_front (Has.all (by tb_rel))⟩; clear F N; (try simp only [hyl']); simp [octF, hasL, *])
  · have e1 : size ≠ 1 := by omega
    have e2 : size ≠ 2 := by omega
    have e3 : 2 < size := by omega
    refine in_list_ints (s := ⟨_, gs, dr, _, os⟩) (isl_of (F.keep _ _ hls)) hi ?_
    repeat' tb_start
    · have es : ((size : Int) - 1) = ((size - 1 : Nat) : Int) := by omega
      rw [es]
      refine fitsK_call (n := size - 1) hK (B.keeps F.keep) (by rw [hdd]; omega) hh' R (fun p hp => F.keep _ _ (hT p hp)) (by omega) fun h₃ tk₃ k₃ => ?_
      replace N := news_ke N k₃
      replace F := F.keeps k₃
      repeat' tb_start
      · rw [es]
        refine x_powS (by omega) (by omega) fun t' tk' => ?_
        repeat' tb_start
        (refine ⟨rfl, _, _, _, _, _, _, rfl, ?_, F, news_sub N (fun _ q => nomatch q), look_front (Has.all (by tb_rel))⟩; clear F N; (try simp only [hyl']); simp [octF, hasL, *])
      · (refine ⟨rfl, _, _, _, _, _, _, rfl, ?_, F, news_sub N (fun _ q => nomatch q), look_front (Has.all (by tb_rel))⟩; clear F N; (try simp only [hyl']); simp [octF, hasL, *])
    · (refine ⟨rfl, _, _, _, _, _, _, rfl, ?_, F, news_sub N (fun _ q => nomatch q), look_front (Has.all (by tb_rel))⟩; clear F N; (try simp only [hyl']); simp [octF, hasL, *])
  · have e1 : size ≠ 1 := by omega
    have e2 : size ≠ 2 := by omega
    have e3 : ¬ 2 < size := by omega
    (refine ⟨rfl, _, _, _, _, _, _, rfl, ?_, F, news_sub N (fun _ q => nomatch q), look_front (Has.all (by tb_rel))⟩; clear F N; (try simp only [hyl']); simp [octF, hasL, *])
end
end

section
/-- rows answers as the plain function -/
def RowsCall (f : Nat) : Prop := ∀ {w : World} {A : Around} {E : Value → Shared → Prop} {gs : Array GenState} {dr : Drawn} {tk : Nat} {os : OsState} {h : Heap} {Q : Value → Shared → Prop} {K : Option SK} {T : Ledger} {v : Value} {t1 t2 : Tok} {a : Addr} {ws : List Value} {n' : Nat} {ls : List Int} {left place : Nat},
  Base w h → A.depth + 2 * f + 5 < recursionLimit → A.handled = none → isRow K → ARep T v K → (∀ p ∈ T, h.get? p.1 = some p.2) → h.get? a = some (lob ws n') → IntsAre ws ls → ls.length ≤ 5 → (∃ as : List UInt8, as.Nodup ∧ ls = numsOf as) → left ≤ f → left < 20 → ((∃ k l, K = some (.pair k l)) → place ≤ 2) →
  (∀ h' tk' t', Ke h h' → Q (.int ((rowsF f K left place ls : Nat) : Int) t') ⟨h', gs, dr, tk', os⟩) → wpAny (model pw w) A (call (.ref 1804) [v, .int left t1, .int place t2, .ref a]) Q E ⟨h, gs, dr, tk, os⟩
section
variable {w : World} {A : Around} {E : Value → Shared → Prop} {gs : Array GenState} {dr : Drawn} {tk : Nat} {os : OsState} {h hb : Heap} {Q : Value → Shared → Prop}
theorem cnt_tail {f : Nat} (RC : RowsCall f) {K : Option SK} {size : Nat} {L : Addr} {T : Ledger} {v : Value} {t tf : Tok} {a : Addr} {ws : List Value} {n' : Nat} {ls : List Int} {ρ : List (Str × Value)} {x : Int} {E : Value → Shared → Prop} (hK : isRow K) (B : Base w hb) (hd : A.depth + 1 + 2 * f + 5 < recursionLimit) (hh : A.handled = none) (R : ARep T v K) (hT : ∀ p ∈ T, hb.get? p.1 = some p.2)
    (hls : hb.get? a = some (lob ws n')) (hi : IntsAre ws ls) (hl5 : ls.length ≤ 5) (hN : ∃ as : List UInt8, as.Nodup ∧ ls = numsOf as) (hsz : size ≤ f + 1) (hs50 : size < 20)
    (F : Fr hb L h (look ([(Str.ofString "found", .int x tf), (Str.ofString "letters", .ref a), (Str.ofString "size", .int size t), (Str.ofString "kind", v)] ++ ρ))) (N : News hb L h [])
    (H : ∀ h' tk' t', Ke hb h' → Q (.int (x + ((lstF (fun m => rowsF f K m 0 ls) size ls : Nat) : Int)) t') ⟨h', gs, dr, tk', os⟩) :
    wpAny (model pw w) (A.deeper (envN L)) (execs ((fdB (sAt 46)).drop 3) (envN L)) (fun fl s' => Q (match fl with | .ret v => v | _ => .none) s') E ⟨h, gs, dr, tk, os⟩ := by
  have hh' : (A.deeper (envN L)).handled = none := hh
  have hdd : (A.deeper (envN L)).depth = A.depth + 1 := rfl
  have hwl := hi.length
  show wpAny _ _ (execs (.If _ _ _ _ :: _) _) _ _ _
  refine wpAny_execs_cons ?_
  repeat' tb_start
  · refine in_list_ints (s := ⟨_, gs, dr, _, os⟩) (isl_of (F.keep _ _ hls)) hi ?_
    repeat' tb_start
    · have es : ((size : Int) - 1) = ((size - 1 : Nat) : Int) := by omega
      rw [es]
      refine RC (place := 0) (B.keeps F.keep) (by rw [hdd]; omega) hh' hK R (fun p hp => F.keep _ _ (hT p hp)) (F.keep _ _ hls) hi hl5 hN (by omega) (by omega) (fun _ => by omega) fun h₃ tk₃ t₃ k₃ => ?_
      replace N := news_ke N k₃
      replace F := F.keeps k₃
      repeat' tb_start
      refine Eq.mp (congrArg (fun b => Q (.int b _) _) ?_) (H _ _ _ F.keep)
      clear H F N
      have e1 : 0 < size := by omega
      simp [lstF, hasL, *]
    · refine Eq.mp (congrArg (fun b => Q (.int b _) _) ?_) (H _ _ _ F.keep)
      clear H F N
      simp [lstF, hasL, *]
  · refine Eq.mp (congrArg (fun b => Q (.int b _) _) ?_) (H _ _ _ F.keep)
    clear H F N
    have e1 : size = 0 := by omega
    simp [lstF, hasL, *]
end
end

set_option hygiene true
local macro_rules | `(tactic| tb_start) => `(tactic| first
  | (with_reducible refine' wpAny_allTrue_Or_cons ?_)
  | (with_reducible refine' wpAny_allTrue_Or_nil ?_)
  | (fail "no step"))
section
variable {w : World} {A : Around} {E : Value → Shared → Prop} {gs : Array GenState} {dr : Drawn} {tk : Nat} {os : OsState} {h hb : Heap} {Q : Value → Shared → Prop}
theorem count_none {f : Nat} (RC : RowsCall f)  {size : Nat} {T : Ledger} {v : Value} {t : Tok} {a : Addr} {ws : List Value} {n' : Nat} {ls : List Int} (B : Base w h) (hd : A.depth + 1 + 2 * f + 5 < recursionLimit) (hh : A.handled = none) (R : ARep T v none) (hT : ∀ p ∈ T, h.get? p.1 = some p.2)
    (hls : h.get? a = some (lob ws n')) (hi : IntsAre ws ls) (hl5 : ls.length ≤ 5) (hN : ∃ as : List UInt8, as.Nodup ∧ ls = numsOf as) (hsz : size ≤ f + 1) (hs50 : size < 20)
    (H : ∀ h' tk' t', Ke h h' → Q (.int ((cntF (fun K m => rowsF f K m 0 ls) none size ls : Nat) : Int) t') ⟨h', gs, dr, tk', os⟩) : wpAny (model pw w) A (call (.ref 1797) [v, .int size t, .ref a]) Q E ⟨h, gs, dr, tk, os⟩ := by
  have R0 := R
  obtain ⟨u, s, rfl, hm⟩ := R
  refine x_enter B (by omega) (by rfl) (by rfl) (by rfl) (by rfl) (by rfl) (binds := [(Str.ofString "kind", _), (Str.ofString "size", _), (Str.ofString "letters", _)]) (by rfl) (locs (by rfl)) (by rfl) (by rfl) (by rfl) (by decide) ?_
  intro h₁ L tk' _ F N
  have hh' : (A.deeper (envN L)).handled = none := hh
  have hdd : (A.deeper (envN L)).depth = A.depth + 1 := rfl
  show wpAny _ _ (execs (fdB (sAt 46)) _) _ _ _
  refine wpAny_execs_cons (wpAny_mono (Q := fun fl s => fl = .next ∧ ∃ h' tk' t', s = ⟨h', gs, dr, tk', os⟩ ∧ Fr h L h' (look ([(Str.ofString "found", .int 0 t'), (Str.ofString "letters", .ref a), (Str.ofString "size", .int size t), (Str.ofString "kind", .ref u)] ++ [])) ∧ News h L h' []) ?_ ?_ fun _ _ e => e)
  · repeat' tb_start
    exact ⟨rfl, _, _, _, rfl, F, N⟩
  rintro fl s2 ⟨rfl, h₂, tk₂, tf, rfl, F₂, N₂⟩
  clear F N
  have F := F₂
  have N := N₂
  clear F₂ N₂
  dsimp only
  refine wpAny_execs_cons (wpAny_mono (Q := fun fl s => fl = .next ∧ ∃ h' tk' t', s = ⟨h', gs, dr, tk', os⟩ ∧ Fr h L h' (look ([(Str.ofString "found", .int 0 t'), (Str.ofString "letters", .ref a), (Str.ofString "size", .int size t), (Str.ofString "kind", .ref u)] ++ [])) ∧ News h L h' []) ?_ ?_ fun _ _ e => e)
  · refine wpAny_If ?_
    repeat' tb_start
    refine x_titem (F.keep _ _ (hT _ hm)) (by decide) (by decide) (by rfl) (by with_unfolding_all rfl) (fun _ => by with_unfolding_all rfl) ?_
    repeat' tb_start
    exact ⟨rfl, _, _, _, rfl, F, N⟩
  rintro fl s2 ⟨rfl, h₂, tk₂, tf, rfl, F₂, N₂⟩
  clear F N
  have F := F₂
  have N := N₂
  clear F₂ N₂
  dsimp only
  refine wpAny_execs_cons (wpAny_mono (Q := fun fl s => (match fl with | .next => ∀ E1, wpAny (model pw w) (A.deeper (envN L)) (execs ((fdB (sAt 46)).drop 3) (envN L)) (fun fl s1 => Q (match fl with | .ret v => v | _ => .none) s1) E1 s | .ret v => Q v s | _ => False)) ?_ ?_ fun _ _ e => e)
  · refine wpAny_If (wpAny_mono (Q := fun c s => c = true ∧ ∃ h' tk' t', s = ⟨h', gs, dr, tk', os⟩ ∧ Fr h L h' (look ([(Str.ofString "found", .int 0 t'), (Str.ofString "letters", .ref a), (Str.ofString "size", .int size t), (Str.ofString "kind", .ref u)] ++ [])) ∧ News h L h' []) ?_ ?_ fun _ _ e => e)
    · repeat' tb_start
      refine x_titem (F.keep _ _ (hT _ hm)) (by decide) (by decide) (by rfl) (by with_unfolding_all rfl) (fun _ => by with_unfolding_all rfl) ?_
      repeat' tb_start
      exact ⟨rfl, _, _, _, rfl, F, N⟩
    rintro c s2 ⟨rfl, h₂, tk₂, tf, rfl, F₂, N₂⟩
    clear F N
    have F := F₂
    have N := N₂
    clear F₂ N₂
    rw [if_pos rfl]
    refine wpAny_execs_cons (wpAny_mono (Q := fun fl s => fl = .next ∧ ∃ h' tk' m x t' ρ', s = ⟨h', gs, dr, tk', os⟩ ∧ x = ((octF (fitsA none) size ls : Nat) : Int) ∧ Fr h L h' m ∧ News h L h' [] ∧ look ([(Str.ofString "found", .int x t'), (Str.ofString "letters", .ref a), (Str.ofString "size", .int size t), (Str.ofString "kind", .ref u)] ++ ρ') = m) ?_ ?_ fun _ _ e => e)
    · exact octs_seg (K := none) trivial B (by omega) hh R0 hT hls hi hl5 (by omega) F N
    rintro fl s2 ⟨rfl, h₂, tk₂, m, x, tx, ρ', rfl, hx, F₂, N₂, rfl⟩
    clear F N
    have F := F₂
    have N := N₂
    clear F₂ N₂
    dsimp only
    refine wpAny_execs_cons ?_
    repeat' tb_start
    refine x_titem (F.keep _ _ (hT _ hm)) (by decide) (by decide) (by rfl) (by with_unfolding_all rfl) (fun _ => by with_unfolding_all rfl) ?_
    repeat' tb_start
    intro E1
    refine cnt_tail RC (K := none) trivial B hd hh R0 hT hls hi hl5 hN hsz hs50 F N fun h₃ tk₃ t₃ k₃ => ?_
    rw [hx]
    exact H _ _ _ k₃
  · intro fl s2 h2
    cases fl
    all_goals first | exact h2.elim | exact h2 _ | exact h2
theorem count_oct {f : Nat} (RC : RowsCall f) {b1 b2 : Nat} {e : Bool} {size : Nat} {T : Ledger} {v : Value} {t : Tok} {a : Addr} {ws : List Value} {n' : Nat} {ls : List Int} (B : Base w h) (hd : A.depth + 1 + 2 * f + 5 < recursionLimit) (hh : A.handled = none) (R : ARep T v (some (.oct b1 b2 e))) (hT : ∀ p ∈ T, h.get? p.1 = some p.2)
    (hls : h.get? a = some (lob ws n')) (hi : IntsAre ws ls) (hl5 : ls.length ≤ 5) (hN : ∃ as : List UInt8, as.Nodup ∧ ls = numsOf as) (hsz : size ≤ f + 1) (hs50 : size < 20)
    (H : ∀ h' tk' t', Ke h h' → Q (.int ((cntF (fun K m => rowsF f K m 0 ls) (some (.oct b1 b2 e)) size ls : Nat) : Int) t') ⟨h', gs, dr, tk', os⟩) : wpAny (model pw w) A (call (.ref 1797) [v, .int size t, .ref a]) Q E ⟨h, gs, dr, tk, os⟩ := by
  have R0 := R
  obtain ⟨u, s, t1, t2, rfl, hm⟩ := R
  refine x_enter B (by omega) (by rfl) (by rfl) (by rfl) (by rfl) (by rfl) (binds := [(Str.ofString "kind", _), (Str.ofString "size", _), (Str.ofString "letters", _)]) (by rfl) (locs (by rfl)) (by rfl) (by rfl) (by rfl) (by decide) ?_
  intro h₁ L tk' _ F N
  have hh' : (A.deeper (envN L)).handled = none := hh
  have hdd : (A.deeper (envN L)).depth = A.depth + 1 := rfl
  show wpAny _ _ (execs (fdB (sAt 46)) _) _ _ _
  refine wpAny_execs_cons (wpAny_mono (Q := fun fl s => fl = .next ∧ ∃ h' tk' t', s = ⟨h', gs, dr, tk', os⟩ ∧ Fr h L h' (look ([(Str.ofString "found", .int 0 t'), (Str.ofString "letters", .ref a), (Str.ofString "size", .int size t), (Str.ofString "kind", .ref u)] ++ [])) ∧ News h L h' []) ?_ ?_ fun _ _ e => e)
  · repeat' tb_start
    exact ⟨rfl, _, _, _, rfl, F, N⟩
  rintro fl s2 ⟨rfl, h₂, tk₂, tf, rfl, F₂, N₂⟩
  clear F N
  have F := F₂
  have N := N₂
  clear F₂ N₂
  dsimp only
  refine wpAny_execs_cons (wpAny_mono (Q := fun fl s => fl = .next ∧ ∃ h' tk' t', s = ⟨h', gs, dr, tk', os⟩ ∧ Fr h L h' (look ([(Str.ofString "found", .int 0 t'), (Str.ofString "letters", .ref a), (Str.ofString "size", .int size t), (Str.ofString "kind", .ref u)] ++ [])) ∧ News h L h' []) ?_ ?_ fun _ _ e => e)
  · refine wpAny_If ?_
    repeat' tb_start
    refine x_titem (F.keep _ _ (hT _ hm)) (by decide) (by decide) (by rfl) (by with_unfolding_all rfl) (fun _ => by with_unfolding_all rfl) ?_
    repeat' tb_start
    exact ⟨rfl, _, _, _, rfl, F, N⟩
  rintro fl s2 ⟨rfl, h₂, tk₂, tf, rfl, F₂, N₂⟩
  clear F N
  have F := F₂
  have N := N₂
  clear F₂ N₂
  dsimp only
  refine wpAny_execs_cons (wpAny_mono (Q := fun fl s => (match fl with | .next => False | .ret v => Q v s | _ => False)) ?_ ?_ fun _ _ e => e)
  · refine wpAny_If (wpAny_mono (Q := fun c s => c = true ∧ ∃ h' tk' t', s = ⟨h', gs, dr, tk', os⟩ ∧ Fr h L h' (look ([(Str.ofString "found", .int 0 t'), (Str.ofString "letters", .ref a), (Str.ofString "size", .int size t), (Str.ofString "kind", .ref u)] ++ [])) ∧ News h L h' []) ?_ ?_ fun _ _ e => e)
    · repeat' tb_start
      refine x_titem (F.keep _ _ (hT _ hm)) (by decide) (by decide) (by rfl) (by with_unfolding_all rfl) (fun _ => by with_unfolding_all rfl) ?_
      repeat' tb_start
      refine x_titem (F.keep _ _ (hT _ hm)) (by decide) (by decide) (by rfl) (by with_unfolding_all rfl) (fun _ => by with_unfolding_all rfl) ?_
      repeat' tb_start
      exact ⟨rfl, _, _, _, rfl, F, N⟩
    rintro c s2 ⟨rfl, h₂, tk₂, tf, rfl, F₂, N₂⟩
    clear F N
    have F := F₂
    have N := N₂
    clear F₂ N₂
    rw [if_pos rfl]
    refine wpAny_execs_cons (wpAny_mono (Q := fun fl s => fl = .next ∧ ∃ h' tk' m x t' ρ', s = ⟨h', gs, dr, tk', os⟩ ∧ x = ((octF (fitsA (some (.oct b1 b2 e))) size ls : Nat) : Int) ∧ Fr h L h' m ∧ News h L h' [] ∧ look ([(Str.ofString "found", .int x t'), (Str.ofString "letters", .ref a), (Str.ofString "size", .int size t), (Str.ofString "kind", .ref u)] ++ ρ') = m) ?_ ?_ fun _ _ e => e)
    · exact octs_seg (K := (some (.oct b1 b2 e))) trivial B (by omega) hh R0 hT hls hi hl5 (by omega) F N
    rintro fl s2 ⟨rfl, h₂, tk₂, m, x, tx, ρ', rfl, hx, F₂, N₂, rfl⟩
    clear F N
    have F := F₂
    have N := N₂
    clear F₂ N₂
    dsimp only
    refine wpAny_execs_cons ?_
    repeat' tb_start
    refine x_titem (F.keep _ _ (hT _ hm)) (by decide) (by decide) (by rfl) (by with_unfolding_all rfl) (fun _ => by with_unfolding_all rfl) ?_
    repeat' tb_start
    rw [hx]
    exact H _ _ _ F.keep
  · intro fl s2 h2
    cases fl
    all_goals first | exact h2.elim | exact h2
theorem count_many {f : Nat} (RC : RowsCall f) {m : Nat} {k : SK} {size : Nat} {T : Ledger} {v : Value} {t : Tok} {a : Addr} {ws : List Value} {n' : Nat} {ls : List Int} (B : Base w h) (hd : A.depth + 1 + 2 * f + 5 < recursionLimit) (hh : A.handled = none) (R : ARep T v (some (.many m k))) (hT : ∀ p ∈ T, h.get? p.1 = some p.2)
    (hls : h.get? a = some (lob ws n')) (hi : IntsAre ws ls) (hl5 : ls.length ≤ 5) (hN : ∃ as : List UInt8, as.Nodup ∧ ls = numsOf as) (hsz : size ≤ f + 1) (hs50 : size < 20)
    (H : ∀ h' tk' t', Ke h h' → Q (.int ((cntF (fun K m => rowsF f K m 0 ls) (some (.many m k)) size ls : Nat) : Int) t') ⟨h', gs, dr, tk', os⟩) : wpAny (model pw w) A (call (.ref 1797) [v, .int size t, .ref a]) Q E ⟨h, gs, dr, tk, os⟩ := by
  have R0 := R
  obtain ⟨u, s, t1, v1, rfl, hm, _⟩ := R
  refine x_enter B (by omega) (by rfl) (by rfl) (by rfl) (by rfl) (by rfl) (binds := [(Str.ofString "kind", _), (Str.ofString "size", _), (Str.ofString "letters", _)]) (by rfl) (locs (by rfl)) (by rfl) (by rfl) (by rfl) (by decide) ?_
  intro h₁ L tk' _ F N
  have hh' : (A.deeper (envN L)).handled = none := hh
  have hdd : (A.deeper (envN L)).depth = A.depth + 1 := rfl
  show wpAny _ _ (execs (fdB (sAt 46)) _) _ _ _
  refine wpAny_execs_cons (wpAny_mono (Q := fun fl s => fl = .next ∧ ∃ h' tk' t', s = ⟨h', gs, dr, tk', os⟩ ∧ Fr h L h' (look ([(Str.ofString "found", .int 0 t'), (Str.ofString "letters", .ref a), (Str.ofString "size", .int size t), (Str.ofString "kind", .ref u)] ++ [])) ∧ News h L h' []) ?_ ?_ fun _ _ e => e)
  · repeat' tb_start
    exact ⟨rfl, _, _, _, rfl, F, N⟩
  rintro fl s2 ⟨rfl, h₂, tk₂, tf, rfl, F₂, N₂⟩
  clear F N
  have F := F₂
  have N := N₂
  clear F₂ N₂
  dsimp only
  refine wpAny_execs_cons (wpAny_mono (Q := fun fl s => fl = .next ∧ ∃ h' tk' t', s = ⟨h', gs, dr, tk', os⟩ ∧ Fr h L h' (look ([(Str.ofString "found", .int 0 t'), (Str.ofString "letters", .ref a), (Str.ofString "size", .int size t), (Str.ofString "kind", .ref u)] ++ [])) ∧ News h L h' []) ?_ ?_ fun _ _ e => e)
  · refine wpAny_If ?_
    repeat' tb_start
    refine x_titem (F.keep _ _ (hT _ hm)) (by decide) (by decide) (by rfl) (by with_unfolding_all rfl) (fun _ => by with_unfolding_all rfl) ?_
    repeat' tb_start
    exact ⟨rfl, _, _, _, rfl, F, N⟩
  rintro fl s2 ⟨rfl, h₂, tk₂, tf, rfl, F₂, N₂⟩
  clear F N
  have F := F₂
  have N := N₂
  clear F₂ N₂
  dsimp only
  refine wpAny_execs_cons (wpAny_mono (Q := fun fl s => fl = .next ∧ ∃ h' tk' t', s = ⟨h', gs, dr, tk', os⟩ ∧ Fr h L h' (look ([(Str.ofString "found", .int 0 t'), (Str.ofString "letters", .ref a), (Str.ofString "size", .int size t), (Str.ofString "kind", .ref u)] ++ [])) ∧ News h L h' []) ?_ ?_ fun _ _ e => e)
  · refine wpAny_If ?_
    repeat' tb_start
    refine x_titem (F.keep _ _ (hT _ hm)) (by decide) (by decide) (by rfl) (by with_unfolding_all rfl) (fun _ => by with_unfolding_all rfl) ?_
    repeat' tb_start
    refine x_titem (F.keep _ _ (hT _ hm)) (by decide) (by decide) (by rfl) (by with_unfolding_all rfl) (fun _ => by with_unfolding_all rfl) ?_
    repeat' tb_start
    exact ⟨rfl, _, _, _, rfl, F, N⟩
  rintro fl s2 ⟨rfl, h₂, tk₂, tf, rfl, F₂, N₂⟩
  refine cnt_tail RC (K := (some (.many m k))) trivial B hd hh R0 hT hls hi hl5 hN hsz hs50 F₂ N₂ fun h₃ tk₃ t₃ k₃ => ?_
  rw [Int.zero_add]
  exact H _ _ _ k₃
theorem count_pair {f : Nat} (RC : RowsCall f) {k l : SK} {size : Nat} {T : Ledger} {v : Value} {t : Tok} {a : Addr} {ws : List Value} {n' : Nat} {ls : List Int} (B : Base w h) (hd : A.depth + 1 + 2 * f + 5 < recursionLimit) (hh : A.handled = none) (R : ARep T v (some (.pair k l))) (hT : ∀ p ∈ T, h.get? p.1 = some p.2)
    (hls : h.get? a = some (lob ws n')) (hi : IntsAre ws ls) (hl5 : ls.length ≤ 5) (hN : ∃ as : List UInt8, as.Nodup ∧ ls = numsOf as) (hsz : size ≤ f + 1) (hs50 : size < 20)
    (H : ∀ h' tk' t', Ke h h' → Q (.int ((cntF (fun K m => rowsF f K m 0 ls) (some (.pair k l)) size ls : Nat) : Int) t') ⟨h', gs, dr, tk', os⟩) : wpAny (model pw w) A (call (.ref 1797) [v, .int size t, .ref a]) Q E ⟨h, gs, dr, tk, os⟩ := by
  have R0 := R
  obtain ⟨u, s, v1, v2, rfl, hm, _⟩ := R
  refine x_enter B (by omega) (by rfl) (by rfl) (by rfl) (by rfl) (by rfl) (binds := [(Str.ofString "kind", _), (Str.ofString "size", _), (Str.ofString "letters", _)]) (by rfl) (locs (by rfl)) (by rfl) (by rfl) (by rfl) (by decide) ?_
  intro h₁ L tk' _ F N
  have hh' : (A.deeper (envN L)).handled = none := hh
  have hdd : (A.deeper (envN L)).depth = A.depth + 1 := rfl
  show wpAny _ _ (execs (fdB (sAt 46)) _) _ _ _
  refine wpAny_execs_cons (wpAny_mono (Q := fun fl s => fl = .next ∧ ∃ h' tk' t', s = ⟨h', gs, dr, tk', os⟩ ∧ Fr h L h' (look ([(Str.ofString "found", .int 0 t'), (Str.ofString "letters", .ref a), (Str.ofString "size", .int size t), (Str.ofString "kind", .ref u)] ++ [])) ∧ News h L h' []) ?_ ?_ fun _ _ e => e)
  · repeat' tb_start
    exact ⟨rfl, _, _, _, rfl, F, N⟩
  rintro fl s2 ⟨rfl, h₂, tk₂, tf, rfl, F₂, N₂⟩
  clear F N
  have F := F₂
  have N := N₂
  clear F₂ N₂
  dsimp only
  refine wpAny_execs_cons (wpAny_mono (Q := fun fl s => fl = .next ∧ ∃ h' tk' t', s = ⟨h', gs, dr, tk', os⟩ ∧ Fr h L h' (look ([(Str.ofString "found", .int 0 t'), (Str.ofString "letters", .ref a), (Str.ofString "size", .int size t), (Str.ofString "kind", .ref u)] ++ [])) ∧ News h L h' []) ?_ ?_ fun _ _ e => e)
  · refine wpAny_If ?_
    repeat' tb_start
    refine x_titem (F.keep _ _ (hT _ hm)) (by decide) (by decide) (by rfl) (by with_unfolding_all rfl) (fun _ => by with_unfolding_all rfl) ?_
    repeat' tb_start
    exact ⟨rfl, _, _, _, rfl, F, N⟩
  rintro fl s2 ⟨rfl, h₂, tk₂, tf, rfl, F₂, N₂⟩
  clear F N
  have F := F₂
  have N := N₂
  clear F₂ N₂
  dsimp only
  refine wpAny_execs_cons (wpAny_mono (Q := fun fl s => fl = .next ∧ ∃ h' tk' t', s = ⟨h', gs, dr, tk', os⟩ ∧ Fr h L h' (look ([(Str.ofString "found", .int 0 t'), (Str.ofString "letters", .ref a), (Str.ofString "size", .int size t), (Str.ofString "kind", .ref u)] ++ [])) ∧ News h L h' []) ?_ ?_ fun _ _ e => e)
  · refine wpAny_If ?_
    repeat' tb_start
    refine x_titem (F.keep _ _ (hT _ hm)) (by decide) (by decide) (by rfl) (by with_unfolding_all rfl) (fun _ => by with_unfolding_all rfl) ?_
    repeat' tb_start
    refine x_titem (F.keep _ _ (hT _ hm)) (by decide) (by decide) (by rfl) (by with_unfolding_all rfl) (fun _ => by with_unfolding_all rfl) ?_
    repeat' tb_start
    exact ⟨rfl, _, _, _, rfl, F, N⟩
  rintro fl s2 ⟨rfl, h₂, tk₂, tf, rfl, F₂, N₂⟩
  refine cnt_tail RC (K := (some (.pair k l))) trivial B hd hh R0 hT hls hi hl5 hN hsz hs50 F₂ N₂ fun h₃ tk₃ t₃ k₃ => ?_
  rw [Int.zero_add]
  exact H _ _ _ k₃
end

section
section
variable {prog : Program} {w : World} {A : Around} {E : Value → Shared → Prop} {gs : Array GenState} {dr : Drawn} {tk : Nat} {os : OsState} {h g : Heap} {L : Addr} {mm : Str → Option Value} {news : Ledger} {Q : Value → Shared → Prop} {t u : Tok}
theorem x_range2 {i j : Int} (F : Fr g L h mm) (N : News g L h news) (H : ∀ h' u' tk' t2, (∀ p ∈ news, p.1 ≠ u') → Fr g L h' mm → News g L h' ((u', { cls := .type "range", data := .fields #[.int i t, .int j u, .int 1 t2] }) :: news) → Q (.ref u') ⟨h', gs, dr, tk', os⟩) :
    wpAny (model prog w) A (call (.type "range") [.int i t, .int j u]) Q E ⟨h, gs, dr, tk, os⟩ := by
  refine call_range_2 (s := ⟨h, gs, dr, tk, os⟩) ?_
  refine H _ _ (tk + 1) tk (news_lt N) (F.push _) ?_
  exact News.push F N _
/-- a for loop over the numbers from 1 to n -/
theorem x_iter_range1 {r : Addr} {n : Nat} {t1 t2 t3 : Tok} {env : Env} {target : Expr} {body : List Stmt} {R : Result → Shared → Prop} (hh : A.handled = none) (hn : n ≤ 1000000) (J : Nat → (Str → Option Value) → Ledger → Array GenState → Prop) (h0 : J 0 mm news gs) (F : Fr g L h mm) (N : News g L h news)
    (hr : h.get? r = some { cls := .type "range", data := .fields #[.int 1 t1, .int ((n : Int) + 1) t2, .int 1 t3] })
    (turn : ∀ (i : Nat) u m news gs' h tk own I, i < n → J i m news gs' → Fr g L h m → News g L h (own ++ news) → (∀ p ∈ own, p.1 = I) → (∃ o, (I, o) ∈ own) → (∀ p ∈ news, p.1 ≠ I) →
      wpAny (model prog w) A (assign target env (.int ((i + 1 : Nat) : Int) u)) (fun _ s₂ => wpAny (model prog w) A (execs body env) (fun f s₃ => match f with
          | .next | .cont => ∃ m' news' gs'' h' tk', s₃ = ⟨h', gs'', dr, tk', os⟩ ∧ J (i + 1) m' news' gs'' ∧ Fr g L h' m' ∧ News g L h' (own ++ news') ∧ ∀ p ∈ news', p.1 ≠ I
          | .brk => R (.ok .next) s₃
          | .ret v => R (.ok (.ret v)) s₃) (notedBy (model prog w) A env fun e s' => R (.error e) s') s₂) (notedBy (model prog w) A env fun e s' => R (.error e) s') ⟨h, gs', dr, tk, os⟩)
    (done : ∀ m' news' gs' h' tk', J n m' news' gs' → Fr g L h' m' → News g L h' news' → R (.ok .next) ⟨h', gs', dr, tk', os⟩)
    (ht : ∀ I v, letOwnedTupleGo target (.ref I) v = pure ()) :
    wpAny (model prog w) A (pyIter (.ref r)) (fun it s₂ => codeAny (model prog w) A (.forLoop target it body [] env) R s₂) E ⟨h, gs, dr, tk, os⟩ := by
  refine wpAny_pyIter_range (s := ⟨h, gs, dr, tk, os⟩) (a := 1) (b := (n : Int) + 1) (c := 1) hr (small_one (by omega) (by omega) (by omega) (by omega)) ?_
  have hsz : Builtin.Range.rangeSize 1 ((n : Int) + 1) 1 = (n : Int) := by rw [rangeSize_one]; split <;> omega
  have hI : ∀ p ∈ news, p.1 ≠ h.objs.size := news_lt N
  have hLI : L ≠ h.objs.size := Nat.ne_of_lt F.ns.lt
  refine loop_own (Walks.range hh h.objs.size 1 1 n) (by simpa using hLI) (fun b hb => ?_) (fun i h' st b hb => ?_) J h0 (F.push _) (fun p hp => ⟨Heap.get?_push_of_some _ (N p hp).1, (N p hp).2⟩) (fun p hp => by simpa using hI p hp) (by show IsRangeIter _ _ _ _ _; rw [hsz]; simpa using Heap.get?_push_size _ rfl) ?_ (fun m' news' gs' h' tk' hJ F' N' => done m' news' gs' h' tk' hJ F' N') (ht _)
  · rw [List.mem_singleton.mp hb]
    cases q : g.get? h.objs.size with
    | none => rfl
    | some o => exact absurd (Heap.lt_size (F.keep _ _ q)) (Nat.lt_irrefl _)
  · rw [List.mem_singleton.mp hb]
    exact ⟨_, st⟩
  · rintro i v m news gs' h' tk' own hi ⟨u, rfl⟩ hJ F' N' hown hnw hlive
    have := turn i u m news gs' h' tk' own h.objs.size hi hJ F' N' (fun p hp => by simpa using hown p hp) (hlive _ (by simp)) (fun p hp => by simpa using hnw p hp)
    rw [show (1 : Int) + (i : Int) * 1 = ((i + 1 : Nat) : Int) by omega]
    refine wpAny_mono this (fun _ s₂ h₂ => wpAny_mono h₂ (fun f s₃ h₃ => ?_) fun _ _ z => z) fun _ _ z => z
    cases f with
    | next => obtain ⟨m', news', gs'', h'', tk'', e, a, b, c, d⟩ := h₃; exact ⟨m', news', gs'', h'', tk'', e, a, b, c, fun p hp => by simpa using d p hp⟩
    | cont => obtain ⟨m', news', gs'', h'', tk'', e, a, b, c, d⟩ := h₃; exact ⟨m', news', gs'', h'', tk'', e, a, b, c, fun p hp => by simpa using d p hp⟩
    | brk => exact h₃
    | ret v => exact h₃
end
/-- count answers as the plain function -/
theorem count_call {f : Nat} (RC : RowsCall f) {w : World} {A : Around} {E : Value → Shared → Prop} {gs : Array GenState} {dr : Drawn} {tk : Nat} {os : OsState} {h : Heap} {Q : Value → Shared → Prop} {K : Option SK} {size : Nat} {T : Ledger} {v : Value} {t : Tok} {a : Addr} {ws : List Value} {n' : Nat} {ls : List Int} (B : Base w h) (hd : A.depth + 1 + 2 * f + 5 < recursionLimit) (hh : A.handled = none) (R : ARep T v K) (hT : ∀ p ∈ T, h.get? p.1 = some p.2)
    (hls : h.get? a = some (lob ws n')) (hi : IntsAre ws ls) (hl5 : ls.length ≤ 5) (hN : ∃ as : List UInt8, as.Nodup ∧ ls = numsOf as) (hsz : size ≤ f + 1) (hs50 : size < 20)
    (H : ∀ h' tk' t', Ke h h' → Q (.int ((cntF (fun K m => rowsF f K m 0 ls) K size ls : Nat) : Int) t') ⟨h', gs, dr, tk', os⟩) : wpAny (model pw w) A (call (.ref 1797) [v, .int size t, .ref a]) Q E ⟨h, gs, dr, tk, os⟩ := by
  match K, R, H with
  | none, R, H => exact count_none RC B hd hh R hT hls hi hl5 hN hsz hs50 H
  | some .truth, R, H => exact count_truth B (by omega) hh R hT hls hi (by omega) (fun K m => rowsF f K m 0 ls) (fun h' tk' t' g k => by have := H h' tk' t' k; exact this)
  | some (.oct b1 b2 e), R, H => exact count_oct RC B hd hh R hT hls hi hl5 hN hsz hs50 H
  | some (.many m k), R, H => exact count_many RC B hd hh R hT hls hi hl5 hN hsz hs50 H
  | some (.pair k l), R, H => exact count_pair RC B hd hh R hT hls hi hl5 hN hsz hs50 H
theorem cnt_small {as : List UInt8} (hn : as.Nodup) (h5 : as.length ≤ 5) (f : Nat) (K : Option SK) (n : Nat) (hf : n ≤ f + 1) (h20 : n ≤ 20) : cntF (fun K l => rowsF f K l 0 (numsOf as)) K n (numsOf as) < 2 ^ 64 := by
  rw [← cntc_ok hn f K n hf (by omega)]
  have h1 : cn (accE K) (wordsF as n) ≤ (wordsF as n).length := List.countP_le_length
  rw [words_count] at h1
  have h2 : as.length ^ n ≤ 5 ^ n := Nat.pow_le_pow_left h5 n
  have h3 : 5 ^ n ≤ 5 ^ 20 := Nat.pow_le_pow_right (by decide) h20
  have h4 : (5 : Nat) ^ 20 < 2 ^ 64 := by decide
  omega
abbrev envR (L : Addr) : Env := envOf (Str.ofString "_law_rows") (fdS (sAt 47)) L 1804 (Value.ref 1803)
section
variable {w : World} {A : Around} {E : Value → Shared → Prop} {gs : Array GenState} {dr : Drawn} {tk : Nat} {os : OsState} {h hb : Heap} {Q : Value → Shared → Prop}
theorem rows_tail {f : Nat} {K : Option SK} {left place : Nat} {L : Addr} {T : Ledger} {v pv : Value} {t1 t2 : Tok} {a : Addr} {ws : List Value} {n' : Nat} {ls : List Int} {ρ : List (Str × Value)} (RC : 0 < left → RowsCall f) (hK : isRow K) (B : Base w hb) (hd : 0 < left → A.depth + 2 * (f + 1) + 5 < recursionLimit) (hh : A.handled = none) (R : ARep T v K) (Rp : ARep T pv (partF K place)) (hT : ∀ p ∈ T, hb.get? p.1 = some p.2)
    (hls : hb.get? a = some (lob ws n')) (hi : IntsAre ws ls) (hl5 : ls.length ≤ 5) (hN : ∃ as : List UInt8, as.Nodup ∧ ls = numsOf as) (hlf : left ≤ f + 1) (hl50 : left < 20) (hp2 : (∃ k l, K = some (.pair k l)) → place + 1 ≤ 2)
    (F : Fr hb L h (look ([(Str.ofString "part", pv), (Str.ofString "letters", .ref a), (Str.ofString "place", .int place t2), (Str.ofString "left", .int left t1), (Str.ofString "kind", v)] ++ ρ))) (N : News hb L h [])
    (H : ∀ h' tk' t', Ke hb h' → Q (.int ((sumTo (fun i => cntF (fun K' l => rowsF f K' l 0 ls) (partF K place) (i + 1) ls * rowsF f K (left - (i + 1)) (place + 1) ls) left : Nat) : Int) t') ⟨h', gs, dr, tk', os⟩) :
    wpAny (model pw w) (A.deeper (envR L)) (execs ((fdB (sAt 47)).drop 1) (envR L)) (fun fl s' => Q (match fl with | .ret v => v | _ => .none) s') E ⟨h, gs, dr, tk, os⟩ := by
  have hh' : (A.deeper (envR L)).handled = none := hh
  have hdd : (A.deeper (envR L)).depth = A.depth + 1 := rfl
  have hwl := hi.length
  show wpAny _ _ (execs (.Assign _ _ _ :: _) _) _ _ _
  refine wpAny_execs_cons ?_
  repeat' tb_start
  refine wpAny_For ?_ (by intro _; rfl)
  repeat' tb_start
  refine x_range2 F N fun h₃ r₃ tk₃ t₃ _ F₃ N₃ => ?_
  clear F N
  have F := F₃
  have N := N₃
  clear F₃ N₃
  repeat' tb_start
  have hr := (N _ (.head _)).1
  replace N := news_sub (T := []) N (fun _ q => nomatch q)
  obtain ⟨G, hG⟩ : ∃ G : Nat → Nat, G = fun i => cntF (fun K' l => rowsF f K' l 0 ls) (partF K place) (i + 1) ls * rowsF f K (left - (i + 1)) (place + 1) ls := ⟨_, rfl⟩
  rw [← hG] at H
  refine x_iter_range1 (n := left) hh' (by omega) (fun i m nw gs' => gs' = gs ∧ nw = [] ∧ ∃ x tx ρ', x = ((sumTo G i : Nat) : Int) ∧ look ([(Str.ofString "ways", .int x tx), (Str.ofString "part", pv), (Str.ofString "letters", .ref a), (Str.ofString "place", .int place t2), (Str.ofString "left", .int left t1), (Str.ofString "kind", v)] ++ ρ') = m) ?_ F N hr ?_ ?_ (fun _ _ => by with_unfolding_all rfl)
  · exact ⟨rfl, rfl, _, _, _, rfl, look_front (Has.all (by tb_rel))⟩
  · clear F N
    rintro i u m nw gs'' h₅ tk₅ own I hil ⟨rfl, rfl, x, tx, ρ', hx, rfl⟩ F N hown hlive hnI
    repeat' tb_start
    have hd9 := hd (by omega)
    refine count_call (RC (by omega)) (B.keeps F.keep) (by rw [hdd]; omega) hh' Rp (fun p hp => F.keep _ _ (hT p hp)) (F.keep _ _ hls) hi hl5 hN (by omega) (by omega) fun h₆ tk₆ t₆ k₆ => ?_
    replace N := news_ke N k₆
    replace F := F.keeps k₆
    have hGi : G i = cntF (fun K' l => rowsF f K' l 0 ls) (partF K place) (i + 1) ls * rowsF f K (left - (i + 1)) (place + 1) ls := by rw [hG]
    have hsm : cntF (fun K' l => rowsF f K' l 0 ls) (partF K place) (i + 1) ls < 2 ^ 64 := by
      obtain ⟨as, hn, rfl⟩ := hN
      exact cnt_small hn (by simpa using hl5) f _ _ (by omega) (by omega)
    generalize cntF (fun K' l => rowsF f K' l 0 ls) (partF K place) (i + 1) ls = few at hGi hsm F
    repeat' tb_start
    · have e1 : ((left : Int) - ((i + 1 : Nat) : Int)) = ((left - (i + 1) : Nat) : Int) := by omega
      have e2 : ((place : Int) + 1) = ((place + 1 : Nat) : Int) := by omega
      rw [e1, e2]
      refine RC (by omega) (B.keeps F.keep) (by rw [hdd]; omega) hh' hK R (fun p hp => F.keep _ _ (hT p hp)) (F.keep _ _ hls) hi hl5 hN (by omega) (by omega) hp2 fun h₇ tk₇ t₇ k₇ => ?_
      replace N := news_ke N k₇
      replace F := F.keeps k₇
      repeat' tb_start
      refine PyProof.Rows.mul_int ?_ (IntMulOk.of_left (intBits_le (by omega)))
      repeat' tb_start
      refine ⟨_, _, _, _, _, rfl, ⟨rfl, rfl, _, _, _, ?_, look_front (Has.all (by tb_rel))⟩, F, N, fun p hp => nomatch hp⟩
      rw [hx, sumTo, hGi]
      simp
    · refine ⟨_, _, _, _, _, rfl, ⟨rfl, rfl, _, _, _, ?_, look_front (Has.all (by tb_rel))⟩, F, N, fun p hp => nomatch hp⟩
      have : few = 0 := by omega
      rw [hx, sumTo, hGi, this]
      simp
  · clear F N
    rintro m nw gs'' h₅ tk₅ ⟨rfl, rfl, x, tx, ρ', hx, rfl⟩ F N
    repeat' tb_start
    rw [hx]
    exact H _ _ _ F.keep
end
end

section
section
variable {w : World} {A : Around} {E : Value → Shared → Prop} {gs : Array GenState} {dr : Drawn} {tk : Nat} {os : OsState} {h hb : Heap} {Q : Value → Shared → Prop}
theorem rows_none {f : Nat}  {T : Ledger} {v : Value} {t1 t2 : Tok} {a : Addr} {ws : List Value} {n' : Nat} {ls : List Int} {left place : Nat} (RC : 0 < left → RowsCall f) (B : Base w h) (hd0 : A.depth + 1 < recursionLimit) (hd : 0 < left → A.depth + 2 * (f + 1) + 5 < recursionLimit) (hh : A.handled = none) (R : ARep T v none) (hT : ∀ p ∈ T, h.get? p.1 = some p.2)
    (hls : h.get? a = some (lob ws n')) (hi : IntsAre ws ls) (hl5 : ls.length ≤ 5) (hN : ∃ as : List UInt8, as.Nodup ∧ ls = numsOf as) (hlf : left ≤ f + 1) (hl50 : left < 20)
    (H : ∀ h' tk' t', Ke h h' → Q (.int ((rowsF (f + 1) none left place ls : Nat) : Int) t') ⟨h', gs, dr, tk', os⟩) : wpAny (model pw w) A (call (.ref 1804) [v, .int left t1, .int place t2, .ref a]) Q E ⟨h, gs, dr, tk, os⟩ := by
  have R0 := R
  obtain ⟨u, s, rfl, hm⟩ := R
  refine x_enter B (by omega) (by rfl) (by rfl) (by rfl) (by rfl) (by rfl) (binds := [(Str.ofString "kind", _), (Str.ofString "left", _), (Str.ofString "place", _), (Str.ofString "letters", _)]) (by rfl) (locs (by rfl)) (by rfl) (by rfl) (by rfl) (by decide) ?_
  intro h₁ L tk' _ F N
  have hh' : (A.deeper (envR L)).handled = none := hh
  have hdd : (A.deeper (envR L)).depth = A.depth + 1 := rfl
  show wpAny _ _ (execs (fdB (sAt 47)) _) _ _ _
  refine wpAny_execs_cons (wpAny_mono (Q := fun fl s => match fl with | .next => ((left = 0 → endOk none place = false) ∧ placeOk none place = true ∧ ∃ h' tk' pv, s = ⟨h', gs, dr, tk', os⟩ ∧ ARep T pv (partF none place) ∧ Fr h L h' (look ([(Str.ofString "part", pv), (Str.ofString "letters", .ref a), (Str.ofString "place", .int place t2), (Str.ofString "left", .int left t1), (Str.ofString "kind", .ref u)] ++ [])) ∧ News h L h' []) | .ret x => Q x s | _ => False) ?_ ?_ fun _ _ e => e)
  · refine wpAny_If ?_
    repeat' tb_start
    refine x_titem (F.keep _ _ (hT _ hm)) (by decide) (by decide) (by rfl) (by with_unfolding_all rfl) (fun _ => by with_unfolding_all rfl) ?_
    repeat' tb_start
    · refine Eq.mp (congrArg (fun b => Q (.int b _) _) ?_) (H _ _ _ F.keep)
      rw [rowsF, if_pos (by omega)]
      rfl
    · refine x_titem (F.keep _ _ (hT _ hm)) (by decide) (by decide) (by rfl) (by with_unfolding_all rfl) (fun _ => by with_unfolding_all rfl) ?_
      repeat' tb_start
      refine x_titem (F.keep _ _ (hT _ hm)) (by decide) (by decide) (by rfl) (by with_unfolding_all rfl) (fun _ => by with_unfolding_all rfl) ?_
      repeat' tb_start
      exact ⟨fun h0 => absurd h0 (by omega), rfl, _, _, _, rfl, R0, F, N⟩
  · intro fl s2 h2
    cases fl
    case next =>
      obtain ⟨q1, q2, h₂, tk₂, pv, rfl, Rp, F₂, N₂⟩ := h2
      refine rows_tail RC (K := none) trivial B hd hh R0 Rp hT hls hi hl5 hN hlf hl50 ?_ F₂ N₂ fun h₃ tk₃ t₃ k₃ => ?_
      · rintro ⟨k', l', e⟩; first | (cases e; done) | (have q3 : place < 2 := by simpa [placeOk] using q2); omega
      · have := H h₃ tk₃ t₃ k₃
        rw [rowsF] at this
        by_cases h0 : left = 0
        · rw [if_pos h0, if_neg (by rw [q1 h0]; decide)] at this
          rw [h0]
          exact this
        · rw [if_neg h0, if_pos q2] at this
          exact this
    all_goals first | exact h2.elim | exact h2
theorem rows_many {f : Nat} {m : Nat} {k : SK} {T : Ledger} {v : Value} {t1 t2 : Tok} {a : Addr} {ws : List Value} {n' : Nat} {ls : List Int} {left place : Nat} (RC : 0 < left → RowsCall f) (B : Base w h) (hd0 : A.depth + 1 < recursionLimit) (hd : 0 < left → A.depth + 2 * (f + 1) + 5 < recursionLimit) (hh : A.handled = none) (R : ARep T v (some (.many m k))) (hT : ∀ p ∈ T, h.get? p.1 = some p.2)
    (hls : h.get? a = some (lob ws n')) (hi : IntsAre ws ls) (hl5 : ls.length ≤ 5) (hN : ∃ as : List UInt8, as.Nodup ∧ ls = numsOf as) (hlf : left ≤ f + 1) (hl50 : left < 20)
    (H : ∀ h' tk' t', Ke h h' → Q (.int ((rowsF (f + 1) (some (.many m k)) left place ls : Nat) : Int) t') ⟨h', gs, dr, tk', os⟩) : wpAny (model pw w) A (call (.ref 1804) [v, .int left t1, .int place t2, .ref a]) Q E ⟨h, gs, dr, tk, os⟩ := by
  have R0 := R
  obtain ⟨u, s, t3, v1, rfl, hm, R1⟩ := R
  refine x_enter B (by omega) (by rfl) (by rfl) (by rfl) (by rfl) (by rfl) (binds := [(Str.ofString "kind", _), (Str.ofString "left", _), (Str.ofString "place", _), (Str.ofString "letters", _)]) (by rfl) (locs (by rfl)) (by rfl) (by rfl) (by rfl) (by decide) ?_
  intro h₁ L tk' _ F N
  have hh' : (A.deeper (envR L)).handled = none := hh
  have hdd : (A.deeper (envR L)).depth = A.depth + 1 := rfl
  show wpAny _ _ (execs (fdB (sAt 47)) _) _ _ _
  refine wpAny_execs_cons (wpAny_mono (Q := fun fl s => match fl with | .next => ((left = 0 → endOk (some (.many m k)) place = false) ∧ placeOk (some (.many m k)) place = true ∧ ∃ h' tk' pv, s = ⟨h', gs, dr, tk', os⟩ ∧ ARep T pv (partF (some (.many m k)) place) ∧ Fr h L h' (look ([(Str.ofString "part", pv), (Str.ofString "letters", .ref a), (Str.ofString "place", .int place t2), (Str.ofString "left", .int left t1), (Str.ofString "kind", .ref u)] ++ [])) ∧ News h L h' []) | .ret x => Q x s | _ => False) ?_ ?_ fun _ _ e => e)
  · refine wpAny_If ?_
    repeat' tb_start
    refine x_titem (F.keep _ _ (hT _ hm)) (by decide) (by decide) (by rfl) (by with_unfolding_all rfl) (fun _ => by with_unfolding_all rfl) ?_
    repeat' tb_start
    · refine Eq.mp (congrArg (fun b => Q (.int b _) _) ?_) (H _ _ _ F.keep)
      rw [rowsF, if_pos (by omega)]
      rfl
    · refine x_titem (F.keep _ _ (hT _ hm)) (by decide) (by decide) (by rfl) (by with_unfolding_all rfl) (fun _ => by with_unfolding_all rfl) ?_
      repeat' tb_start
      refine x_titem (F.keep _ _ (hT _ hm)) (by decide) (by decide) (by rfl) (by with_unfolding_all rfl) (fun _ => by with_unfolding_all rfl) ?_
      repeat' tb_start
      · refine x_titem (F.keep _ _ (hT _ hm)) (by decide) (by decide) (by rfl) (by with_unfolding_all rfl) (fun _ => by with_unfolding_all rfl) ?_
        repeat' tb_start
        · refine Eq.mp (congrArg (fun b => Q (.int b _) _) ?_) (H _ _ _ F.keep)
          rw [rowsF, if_neg (by omega), if_neg (by simp [placeOk]; omega)]
          rfl
        · refine x_titem (F.keep _ _ (hT _ hm)) (by decide) (by decide) (by rfl) (by with_unfolding_all rfl) (fun _ => by with_unfolding_all rfl) ?_
          repeat' tb_start
          refine x_titem (F.keep _ _ (hT _ hm)) (by decide) (by decide) (by rfl) (by with_unfolding_all rfl) (fun _ => by with_unfolding_all rfl) ?_
          repeat' tb_start
          exact ⟨fun h0 => absurd h0 (by omega), by simp [placeOk]; omega, _, _, _, rfl, R1, F, N⟩
      · refine x_titem (F.keep _ _ (hT _ hm)) (by decide) (by decide) (by rfl) (by with_unfolding_all rfl) (fun _ => by with_unfolding_all rfl) ?_
        repeat' tb_start
        refine x_titem (F.keep _ _ (hT _ hm)) (by decide) (by decide) (by rfl) (by with_unfolding_all rfl) (fun _ => by with_unfolding_all rfl) ?_
        repeat' tb_start
        exact ⟨fun h0 => absurd h0 (by omega), by simp [placeOk]; omega, _, _, _, rfl, R1, F, N⟩
  · intro fl s2 h2
    cases fl
    case next =>
      obtain ⟨q1, q2, h₂, tk₂, pv, rfl, Rp, F₂, N₂⟩ := h2
      refine rows_tail RC (K := (some (.many m k))) trivial B hd hh R0 Rp hT hls hi hl5 hN hlf hl50 ?_ F₂ N₂ fun h₃ tk₃ t₃ k₃ => ?_
      · rintro ⟨k', l', e⟩; first | (cases e; done) | (have q3 : place < 2 := by simpa [placeOk] using q2); omega
      · have := H h₃ tk₃ t₃ k₃
        rw [rowsF] at this
        by_cases h0 : left = 0
        · rw [if_pos h0, if_neg (by rw [q1 h0]; decide)] at this
          rw [h0]
          exact this
        · rw [if_neg h0, if_pos q2] at this
          exact this
    all_goals first | exact h2.elim | exact h2
theorem rows_pair {f : Nat} {k l : SK} {T : Ledger} {v : Value} {t1 t2 : Tok} {a : Addr} {ws : List Value} {n' : Nat} {ls : List Int} {left place : Nat} (RC : 0 < left → RowsCall f) (B : Base w h) (hd0 : A.depth + 1 < recursionLimit) (hd : 0 < left → A.depth + 2 * (f + 1) + 5 < recursionLimit) (hh : A.handled = none) (R : ARep T v (some (.pair k l))) (hT : ∀ p ∈ T, h.get? p.1 = some p.2)
    (hls : h.get? a = some (lob ws n')) (hi : IntsAre ws ls) (hl5 : ls.length ≤ 5) (hN : ∃ as : List UInt8, as.Nodup ∧ ls = numsOf as) (hlf : left ≤ f + 1) (hl50 : left < 20) (hp2 : place ≤ 2)
    (H : ∀ h' tk' t', Ke h h' → Q (.int ((rowsF (f + 1) (some (.pair k l)) left place ls : Nat) : Int) t') ⟨h', gs, dr, tk', os⟩) : wpAny (model pw w) A (call (.ref 1804) [v, .int left t1, .int place t2, .ref a]) Q E ⟨h, gs, dr, tk, os⟩ := by
  have R0 := R
  obtain ⟨u, s, v1, v2, rfl, hm, R1, R2⟩ := R
  refine x_enter B (by omega) (by rfl) (by rfl) (by rfl) (by rfl) (by rfl) (binds := [(Str.ofString "kind", _), (Str.ofString "left", _), (Str.ofString "place", _), (Str.ofString "letters", _)]) (by rfl) (locs (by rfl)) (by rfl) (by rfl) (by rfl) (by decide) ?_
  intro h₁ L tk' _ F N
  have hh' : (A.deeper (envR L)).handled = none := hh
  have hdd : (A.deeper (envR L)).depth = A.depth + 1 := rfl
  show wpAny _ _ (execs (fdB (sAt 47)) _) _ _ _
  refine wpAny_execs_cons (wpAny_mono (Q := fun fl s => match fl with | .next => ((left = 0 → endOk (some (.pair k l)) place = false) ∧ placeOk (some (.pair k l)) place = true ∧ ∃ h' tk' pv, s = ⟨h', gs, dr, tk', os⟩ ∧ ARep T pv (partF (some (.pair k l)) place) ∧ Fr h L h' (look ([(Str.ofString "part", pv), (Str.ofString "letters", .ref a), (Str.ofString "place", .int place t2), (Str.ofString "left", .int left t1), (Str.ofString "kind", .ref u)] ++ [])) ∧ News h L h' []) | .ret x => Q x s | _ => False) ?_ ?_ fun _ _ e => e)
  · refine wpAny_If ?_
    repeat' tb_start
    refine x_titem (F.keep _ _ (hT _ hm)) (by decide) (by decide) (by rfl) (by with_unfolding_all rfl) (fun _ => by with_unfolding_all rfl) ?_
    repeat' tb_start
    · refine Eq.mp (congrArg (fun b => Q (.int b _) _) ?_) (H _ _ _ F.keep)
      obtain rfl : place = 2 := by omega
      rw [rowsF, if_pos (by omega)]
      rfl
    · refine Eq.mp (congrArg (fun b => Q (.int b _) _) ?_) (H _ _ _ F.keep)
      obtain rfl : place = 2 := by omega
      rw [rowsF, if_neg (by omega), if_neg (by simp [placeOk])]
      rfl
    · obtain rfl | rfl : place = 0 ∨ place = 1 := by omega
      · refine x_titem (F.keep _ _ (hT _ hm)) (by decide) (by decide) (by rfl) (by with_unfolding_all rfl) (fun _ => by with_unfolding_all rfl) ?_
        repeat' tb_start
        exact ⟨fun h0 => rfl, rfl, _, _, _, rfl, R1, F, N⟩
      · refine x_titem (F.keep _ _ (hT _ hm)) (by decide) (by decide) (by rfl) (by with_unfolding_all rfl) (fun _ => by with_unfolding_all rfl) ?_
        repeat' tb_start
        exact ⟨fun h0 => rfl, rfl, _, _, _, rfl, R2, F, N⟩
  · intro fl s2 h2
    cases fl
    case next =>
      obtain ⟨q1, q2, h₂, tk₂, pv, rfl, Rp, F₂, N₂⟩ := h2
      refine rows_tail RC (K := (some (.pair k l))) trivial B hd hh R0 Rp hT hls hi hl5 hN hlf hl50 ?_ F₂ N₂ fun h₃ tk₃ t₃ k₃ => ?_
      · rintro ⟨k', l', e⟩; first | (cases e; done) | (have q3 : place < 2 := by simpa [placeOk] using q2); omega
      · have := H h₃ tk₃ t₃ k₃
        rw [rowsF] at this
        by_cases h0 : left = 0
        · rw [if_pos h0, if_neg (by rw [q1 h0]; decide)] at this
          rw [h0]
          exact this
        · rw [if_neg h0, if_pos q2] at this
          exact this
    all_goals first | exact h2.elim | exact h2
/-- rows answers as the plain function -/
theorem rows_call : ∀ f, RowsCall f
  | 0 => by
    rename_i w A E gs dr tk os h Q K T v t1 t2 a ws n' ls left place
    intro B hd hh hK R hT hls hi hl5 hN hlf hl20 hp2 H
    obtain rfl : left = 0 := by omega
    have H' : ∀ h' tk' t', Ke h h' → Q (.int ((rowsF (0 + 1) K 0 place ls : Nat) : Int) t') ⟨h', gs, dr, tk', os⟩ := fun h' tk' t' k => by
      have := H h' tk' t' k
      rw [rowsF] at this
      rw [rowsF]
      simpa using this
    match K, hK, R, hp2, H' with
    | none, _, R, _, H' => exact rows_none (fun q => absurd q (by omega)) B (by omega) (fun q => absurd q (by omega)) hh R hT hls hi hl5 hN (by omega) hl20 H'
    | some (.many m k), _, R, _, H' => exact rows_many (fun q => absurd q (by omega)) B (by omega) (fun q => absurd q (by omega)) hh R hT hls hi hl5 hN (by omega) hl20 H'
    | some (.pair k l), _, R, hp2, H' => exact rows_pair (fun q => absurd q (by omega)) B (by omega) (fun q => absurd q (by omega)) hh R hT hls hi hl5 hN (by omega) hl20 (hp2 ⟨k, l, rfl⟩) H'
  | f + 1 => by
    rename_i w A E gs dr tk os h Q K T v t1 t2 a ws n' ls left place
    intro B hd hh hK R hT hls hi hl5 hN hlf hl20 hp2 H
    match K, hK, R, hp2, H with
    | none, _, R, _, H => exact rows_none (fun _ => rows_call f) B (by omega) (fun _ => hd) hh R hT hls hi hl5 hN hlf hl20 H
    | some (.many m k), _, R, _, H => exact rows_many (fun _ => rows_call f) B (by omega) (fun _ => hd) hh R hT hls hi hl5 hN hlf hl20 H
    | some (.pair k l), _, R, hp2, H => exact rows_pair (fun _ => rows_call f) B (by omega) (fun _ => hd) hh R hT hls hi hl5 hN hlf hl20 (hp2 ⟨k, l, rfl⟩) H
end
end

section
theorem accE_iff {K : Option SK} {o : List UInt8} (h : o.length ≤ 7) : accE K o ↔ ∃ t, rawF (itemF o 1500 (8 + 1) 0) o.length true = .ok t ∧ accA K t = true := by
  constructor
  · rintro ⟨t, e, q⟩
    refine ⟨t, ?_, q⟩
    have hb := read_back 1500 (by decide) 8 t (deepm (deep_len t) (by rw [e]; omega)) (by rw [e]; omega) [] []
    rw [List.nil_append, List.append_nil, e] at hb
    have hb' : itemF o 1500 (8 + 1) 0 = .ok t o ((o.length : Nat) : Int) := by simpa using hb
    rw [hb']
    unfold rawF
    dsimp only
    rw [if_neg (by simp)]
  · rintro ⟨t, e, q⟩
    exact ⟨t, (back (by omega) e).2.1, q⟩
/-- the reader that belongs to a kind -/
def SV (T : Ledger) : Option SK → Value → Prop
  | none, v => v = .none
  | some k, v => ∃ x, v = .ref x ∧ SRep T x k ∧ SKS k ∧ k.dep ≤ 2
section
variable {w : World} {A : Around} {E : Value → Shared → Prop} {gs : Array GenState} {dr : Drawn} {tk : Nat} {os : OsState} {h hb : Heap} {outer : List Env} {Q : Value → Shared → Prop}
theorem reads_call {o : List UInt8} {t1 : Tok} {K : Option SK} {v : Value} {T : Ledger} {o17 : Obj} {ps : Array Value} (B₀ : Base w hb) (Kb : Below A hb outer h) (hd : A.depth + 120 < recursionLimit) (hu : A.units + 150 < cLine) (hh : A.handled = none)
    (S : SV T K v) (hT : Stands h T) (h17 : h.get? 1702 = some o17) (ht17 : TabO o17 ps) (ho : o.length ≤ 7)
    (Hyes : accE K o → ∀ h' gs' o' t' tk', (∀ b ob, b ≠ 1702 → h.get? b = some ob → h'.get? b = some ob) → h'.get? 1702 = some o' → (∃ ps', TabO o' ps') → GExt gs gs' → Q (.int 1 t') ⟨h', gs', dr, tk', os⟩)
    (Hno : ¬ accE K o → ∀ h' t' tk', Kp outer h h' → Q (.int 0 t') ⟨h', gs, dr, tk', os⟩) :
    wpAny (model pw w) A (call (.ref 1811) [.bytes o.toArray t1, v]) Q E ⟨h, gs, dr, tk, os⟩ := by
  have hnd : itemF o 1500 (8 + 1) 0 ≠ .deep := item_deep o 1500 (by omega) 9 0 (by omega) (by omega) (by omega)
  match K, S, Hyes, Hno with
  | none, S, Hyes, Hno =>
    rw [show v = .none from S]
    refine readsN_call (N₁ := 1500) (f := 8) (kd := 9) (by decide) B₀ Kb (by omega) hu hh h17 ht17 (by omega) _ rfl hnd (fun t e => ⟨(back (by omega) e).2.1, (back (by omega) e).2.2⟩) (fun t e => Hyes ((accE_iff ho).mpr ⟨t, e, rfl⟩)) (fun q => Hno fun ⟨t, e⟩ => ?_)
    obtain ⟨t', e', _⟩ := (accE_iff (K := none) ho).mp ⟨t, e⟩
    exact q t' e'
  | some k, ⟨x, hx, S₂, hs, hkd⟩, Hyes, Hno =>
    subst hx
    refine readsS_call (N₁ := 1500) (f := 8) (kd := 9) (by decide) B₀ Kb (by omega) hu hh hs hkd S₂ hT h17 ht17 (by omega) _ rfl hnd (fun t e => back (by omega) e) (fun t e q => Hyes ((accE_iff ho).mpr ⟨t, e, q⟩)) (fun q => Hno fun e => ?_)
    obtain ⟨t', e', q'⟩ := (accE_iff (K := some k) ho).mp e
    rw [show accA (some k) t' = accS k t' from rfl, q t' e'] at q'
    cases q'
/-- what a caught exception leaves to the frame at the bottom -/
theorem kp_bottom {g h' : Heap} {L : Addr} {mm : Str → Option Value} {news : Ledger} {e : Env} (he : e.frame = some L) (F : Fr g L h mm) (N : News g L h news) (kp : Kp [e] h h') : Fr g L h' mm ∧ News g L h' news := by
  have hfs : fs [e] = [L] := by rw [fs_cons he]; rfl
  have keep : ∀ b o, b ≠ L → h.get? b = some o → h'.get? b = some o := fun b o hb q => kp.stays b o (hideAll_get _ q (by rw [hfs]; simpa using hb))
  have low : ∀ b o, g.get? b = some o → b ≠ L := fun b o e => Nat.ne_of_lt (Nat.lt_of_lt_of_le (Heap.lt_size e) F.above)
  exact ⟨⟨kp.slots.ns F.ns, fun b o q => keep b o (low b o q) (F.keep b o q), F.above⟩, fun p hp => ⟨keep _ _ (N p hp).2.1 (N p hp).1, (N p hp).2⟩⟩
end
end

section
inductive BsAre : List Value → List (List UInt8) → Prop
  | nil : BsAre [] []
  | cons {vs bs} (x : List UInt8) (t : Tok) : BsAre vs bs → BsAre (.bytes x.toArray t :: vs) (x :: bs)
theorem BsAre.app1 : ∀ {vs : List Value} {bs : List (List UInt8)} {x : List UInt8} {t : Tok}, BsAre vs bs → BsAre (vs ++ [.bytes x.toArray t]) (bs ++ [x])
  | _, _, _, _, .nil => .cons _ _ .nil
  | _, _, _, _, .cons y u r => .cons y u r.app1
theorem BsAre.length : ∀ {vs : List Value} {bs : List (List UInt8)}, BsAre vs bs → vs.length = bs.length
  | _, _, .nil => rfl
  | _, _, .cons _ _ r => congrArg (· + 1) r.length
theorem BsAre.get : ∀ {vs : List Value} {bs : List (List UInt8)}, BsAre vs bs → ∀ {i : Nat} {v : Value}, vs[i]? = some v → ∃ x t, v = .bytes x.toArray t ∧ bs[i]? = some x
  | _, _, .cons x t r, 0, v, h => by simp at h; exact ⟨x, t, h.symm, rfl⟩
  | _, _, .cons x t r, i + 1, v, h => by simpa using r.get (i := i) (by simpa using h)
theorem nums_get {as : List UInt8} {vs : List Value} : ∀ (_ : IntsAre vs (numsOf as)) {i : Nat} {v : Value}, vs[i]? = some v → ∃ c t, v = .int ((c.toNat : Nat) : Int) t ∧ as[i]? = some c := by
  intro hi i v hv
  have hl := hi.length
  have hlt : i < vs.length := (List.getElem?_eq_some_iff.mp hv).1
  have hla : i < as.length := by rw [hl] at hlt; simpa using hlt
  obtain ⟨t, e⟩ := ints_get hi i (by rw [← hl]; exact hlt)
  rw [hv] at e
  cases e
  refine ⟨as[i], t, ?_, List.getElem?_eq_getElem hla⟩
  congr 1
  rw [List.getD_eq_getElem?_getD, List.getElem?_map, List.getElem?_eq_getElem hla]
  rfl
theorem take_next {α : Type} {l : List α} {i : Nat} {x : α} (h : l[i]? = some x) : l.take (i + 1) = l.take i ++ [x] := by rw [List.take_add_one, h]; rfl
section
variable {prog : Program} {w : World} {A : Around} {E : Value → Shared → Prop} {gs : Array GenState} {dr : Drawn} {tk : Nat} {os : OsState} {h g : Heap} {L : Addr} {mm : Str → Option Value} {news : Ledger} {env : Env}
variable {elt i1 i2 : Expr} {x1 x2 : Str} {p1 p2 : Pos} {cscope : Scope} {cl : List (Str × Addr)} {pos : Pos} {use : Option (Value → Sem Unit)}
/-- the inner loop: one word with each letter -/
theorem words_in {h0 : Heap} {I J D C la : Addr} {lvs : List Value} {nl : Nat} {as : List UInt8} {u : List UInt8} {R : Result → Shared → Prop} {ys : List Value} {bs : List (List UInt8)} {k : Nat} {mC : Str → Option Value} {oI : Obj} {t1 : Tok}
    (hh : A.handled = none) (hk : cscope.kind = .function) (hx2 : cscope.names.lookup x2 = some .local) (hx12 : x1 ≠ x2)
    (hIJ : I ≠ J) (hID : I ≠ D) (hIC : I ≠ C) (hJD : J ≠ D) (hJC : J ≠ C) (hDC : D ≠ C) (oI0 : h0.objs.size ≤ I) (oJ0 : h0.objs.size ≤ J) (oD0 : h0.objs.size ≤ D) (oC0 : h0.objs.size ≤ C)
    (hla0 : h0.get? la = some (lob lvs nl)) (hi : IntsAre lvs (numsOf as))
    (turn : ∀ h tk mC E' c t2, Ke h0 h → h.Ns C mC → mC x1 = some (.bytes u.toArray t1) → mC x2 = some (.int ((c : UInt8).toNat : Int) t2) → wpAny (model prog w) A (eval elt (compEnvC cscope cl C env)) (fun y s => ∃ h' tk' t', y = .bytes (u ++ [c]).toArray t' ∧ s = ⟨h', gs, dr, tk', os⟩ ∧ Ke h h') E' ⟨h, gs, dr, tk, os⟩)
    (K : Ke h0 h) (hI : h.get? I = some oI) (hJ : h.IsListIter J la 0) (hD : h.get? D = some (lob ys k)) (hC : h.Ns C mC) (hm1 : mC x1 = some (.bytes u.toArray t1)) (hys : BsAre ys bs) (hsz : ys.length + as.length ≤ 100000)
    (done : ∀ h' tk' ys' k' mC', Ke h0 h' → h'.get? I = some oI → h'.get? D = some (lob ys' k') → h'.Ns C mC' → BsAre ys' (bs ++ as.map fun c => u ++ [c]) → R (.ok .next) ⟨h', gs, dr, tk', os⟩) :
    codeAny (model prog w) A (.compLoop (.ListComp elt [⟨.Name x1 p1, i1, [], 0⟩, ⟨.Name x2 p2, i2, [], 0⟩] cscope pos) 1 (.ref J) (.ref D) (compEnvC cscope cl C env)) R ⟨h, gs, dr, tk, os⟩ := by
  have hlen : lvs.length = as.length := by rw [hi.length]; simp
  have above : ∀ b o, h0.get? b = some o → b ≠ I ∧ b ≠ J ∧ b ≠ D ∧ b ≠ C := fun b o e => by
    have := Heap.lt_size e
    exact ⟨Nat.ne_of_lt (Nat.lt_of_lt_of_le this oI0), Nat.ne_of_lt (Nat.lt_of_lt_of_le this oJ0), Nat.ne_of_lt (Nat.lt_of_lt_of_le this oD0), Nat.ne_of_lt (Nat.lt_of_lt_of_le this oC0)⟩
  refine comp_two_in (fun n s => ∃ j h' tk' ys' k' mC', n = lvs.length - j ∧ j ≤ lvs.length ∧ s = ⟨h', gs, dr, tk', os⟩ ∧ Ke h0 h' ∧ h'.get? I = some oI ∧ h'.IsListIter J la j ∧ h'.get? D = some (lob ys' k') ∧ h'.Ns C mC' ∧ mC' x1 = some (.bytes u.toArray t1) ∧ BsAre ys' (bs ++ (as.take j).map fun c => u ++ [c])) ?_ lvs.length
    ⟨0, h, tk, ys, k, mC, rfl, Nat.zero_le _, rfl, K, hI, hJ, hD, hC, hm1, by simpa using hys⟩
  rintro n s ⟨j, h1, tk1, ys1, k1, mC1, rfl, hj, rfl, K1, hI1, hJ1, hD1, hC1, hm11, hys1⟩ E'
  have hl1 : h1.IsList la lvs.toArray := isl_of (K1 _ _ hla0)
  rcases Nat.lt_or_ge j lvs.length with hlt | hge
  · obtain ⟨v, hv⟩ : ∃ v, lvs[j]? = some v := ⟨_, List.getElem?_eq_getElem hlt⟩
    obtain ⟨c, t2, rfl, hc⟩ := nums_get hi hv
    refine wpAny_pyNext_list_item (s := ⟨h1, gs, dr, tk1, os⟩) hJ1 hl1 (x := .int ((c.toNat : Nat) : Int) t2) (by simpa using hv) fun h2 hJ2 hs2 => ?_
    dsimp only
    refine wpAny_assign_Name (wpAny_storeName_local (s := ⟨h2, gs, dr, tk1, os⟩) (lookup_relabel_local hx2) (hC1.sameBut hs2 (Ne.symm hJC)) (fun h3 hC3 hs3 => ?_) (by simp [compEnvC, relabel, hk]))
    have k3 : Ke h0 h3 := fun b o e => hs3.extBut b o (above b o e).2.2.2 (hs2.extBut b o (above b o e).2.1 (K1 b o e))
    refine wpAny_mono (turn h3 _ _ E' c t2 k3 hC3 (by simp [hx12, hm11]) (by simp)) ?_ fun _ _ e => e
    rintro y s4 ⟨h4, tk4, t4, rfl, rfl, k4⟩
    have up : ∀ b o, b ≠ J → b ≠ C → h1.get? b = some o → h4.get? b = some o := fun b o a1 a2 e => k4 _ _ (hs3.extBut b o a2 (hs2.extBut b o a1 e))
    have hbl : ys1.length ≤ ys.length + as.length := by
      rw [hys1.length, List.length_append, List.length_map, List.length_take, hys.length]
      omega
    refine append_at (s := ⟨h4, gs, dr, tk4, os⟩) (hsz := by rw [List.size_toArray, sizeLine_eq]; omega) (up D _ (Ne.symm hJD) hDC hD1) fun h5 hs5 ho5 => ?_
    refine ⟨lvs.length - (j + 1), by omega, j + 1, h5, _, ys1 ++ [.bytes (u ++ [c]).toArray t4], k1 + 1, _, rfl, hlt, rfl, fun b o e => hs5.extBut b o (above b o e).2.2.1 (k4 _ _ (k3 b o e)), hs5.extBut _ _ hID (up I _ hIJ hIC hI1), ?_, ?_, ((hC3.at' fun o e => k4 _ _ e).at' fun o e => hs5.extBut _ _ (Ne.symm hDC) e), by simp [hx12, hm11], ?_⟩
    · exact ((hJ2.at fun o e => hs3.extBut _ _ hJC e).at fun o e => k4 _ _ e).at fun o e => hs5.extBut _ _ hJD e
    · rw [ho5]; simp [lob]
    · rw [take_next hc, List.map_append, ← List.append_assoc]
      exact hys1.app1
  · obtain rfl : j = lvs.length := Nat.le_antisymm hj hge
    refine wpAny_pyNext_list_end (s := ⟨h1, gs, dr, tk1, os⟩) hh hJ1 hl1 (by simp) fun h2 he2 => ?_
    refine done h2 _ ys1 k1 mC1 (fun b o e => he2 b o (above b o e).2.1 (K1 b o e)) (he2 _ _ hIJ hI1) (he2 _ _ (Ne.symm hJD) hD1) (hC1.at' fun o e => he2 _ _ (Ne.symm hJC) e) ?_
    rw [hlen, List.take_length] at hys1
    exact hys1
end
end

section
def growF (as : List UInt8) (W : List (List UInt8)) : List (List UInt8) := W.flatMap fun u => as.map fun c => u ++ [c]
theorem growF_take {as : List UInt8} {W : List (List UInt8)} {i : Nat} {u : List UInt8} (h : W[i]? = some u) : growF as (W.take (i + 1)) = growF as (W.take i) ++ as.map fun c => u ++ [c] := by
  unfold growF
  rw [take_next h, List.flatMap_append]
  simp
theorem growF_len (as : List UInt8) : ∀ W : List (List UInt8), (growF as W).length = W.length * as.length
  | [] => by simp [growF]
  | u :: W => by
    have := growF_len as W
    unfold growF at this ⊢
    rw [List.flatMap_cons, List.length_append, this, List.length_map, List.length_cons, Nat.add_mul]
    omega
section
variable {prog : Program} {w : World} {A : Around} {E : Value → Shared → Prop} {gs : Array GenState} {dr : Drawn} {tk : Nat} {os : OsState} {h g : Heap} {L : Addr} {mm : Str → Option Value} {news : Ledger} {env : Env}
variable {elt i1 i2 : Expr} {x1 x2 : Str} {p1 p2 : Pos} {cscope : Scope} {cl : List (Str × Addr)} {pos : Pos} {use : Option (Value → Sem Unit)}
/-- the outer loop: each word -/
theorem words_out {h0 : Heap} {I D C wa la : Addr} {wvs lvs : List Value} {nw nl : Nat} {as : List UInt8} {W : List (List UInt8)} {R : Result → Shared → Prop} {mC : Str → Option Value}
    (hh : A.handled = none) (hk : cscope.kind = .function) (hx1 : cscope.names.lookup x1 = some .local) (hx2 : cscope.names.lookup x2 = some .local) (hx12 : x1 ≠ x2) (hs2 : ∀ x, foldedSetIterable i2 (compEnvC cscope cl C env) x = pure x)
    (hID : I ≠ D) (hIC : I ≠ C) (hDC : D ≠ C) (oI0 : h0.objs.size ≤ I) (oD0 : h0.objs.size ≤ D) (oC0 : h0.objs.size ≤ C)
    (hwa0 : h0.get? wa = some (lob wvs nw)) (hW : BsAre wvs W) (hla0 : h0.get? la = some (lob lvs nl)) (hi : IntsAre lvs (numsOf as)) (hsz : W.length * as.length + as.length ≤ 100000)
    (hi2 : ∀ h tk mC E' Q', Ke h0 h → h.Ns C mC → Q' (.ref la) ⟨h, gs, dr, tk, os⟩ → wpAny (model prog w) A (eval i2 (compEnvC cscope cl C env)) Q' E' ⟨h, gs, dr, tk, os⟩)
    (turn : ∀ h tk mC E' u c t1 t2, u ∈ W → Ke h0 h → h.Ns C mC → mC x1 = some (.bytes (u : List UInt8).toArray t1) → mC x2 = some (.int ((c : UInt8).toNat : Int) t2) → wpAny (model prog w) A (eval elt (compEnvC cscope cl C env)) (fun y s => ∃ h' tk' t', y = .bytes (u ++ [c]).toArray t' ∧ s = ⟨h', gs, dr, tk', os⟩ ∧ Ke h h') E' ⟨h, gs, dr, tk, os⟩)
    (K : Ke h0 h) (hI : h.IsListIter I wa 0) (hD : h.get? D = some (lob [] 0)) (hC : h.Ns C mC)
    (done : ∀ h' tk' ys' k' mC', Ke h0 h' → h'.get? D = some (lob ys' k') → h'.Ns C mC' → BsAre ys' (growF as W) → R (.ok .next) ⟨h', gs, dr, tk', os⟩) :
    codeAny (model prog w) A (.compLoop (.ListComp elt [⟨.Name x1 p1, i1, [], 0⟩, ⟨.Name x2 p2, i2, [], 0⟩] cscope pos) 0 (.ref I) (.ref D) (compEnvC cscope cl C env)) R ⟨h, gs, dr, tk, os⟩ := by
  have hlen : wvs.length = W.length := hW.length
  have above : ∀ b o, h0.get? b = some o → b ≠ I ∧ b ≠ D ∧ b ≠ C := fun b o e => by
    have := Heap.lt_size e
    exact ⟨Nat.ne_of_lt (Nat.lt_of_lt_of_le this oI0), Nat.ne_of_lt (Nat.lt_of_lt_of_le this oD0), Nat.ne_of_lt (Nat.lt_of_lt_of_le this oC0)⟩
  refine comp_two_out (fun n s => ∃ j h' tk' ys' k' mC', n = wvs.length - j ∧ j ≤ wvs.length ∧ s = ⟨h', gs, dr, tk', os⟩ ∧ Ke h0 h' ∧ h'.IsListIter I wa j ∧ h'.get? D = some (lob ys' k') ∧ h'.Ns C mC' ∧ BsAre ys' (growF as (W.take j))) hs2 ?_ wvs.length
    ⟨0, h, tk, [], 0, mC, rfl, Nat.zero_le _, rfl, K, hI, hD, hC, .nil⟩
  rintro n s ⟨j, h1, tk1, ys1, k1, mC1, rfl, hj, rfl, K1, hI1, hD1, hC1, hys1⟩ E'
  have hl1 : h1.IsList wa wvs.toArray := isl_of (K1 _ _ hwa0)
  rcases Nat.lt_or_ge j wvs.length with hlt | hge
  · obtain ⟨v, hv⟩ : ∃ v, wvs[j]? = some v := ⟨_, List.getElem?_eq_getElem hlt⟩
    obtain ⟨u, t1, rfl, hu⟩ := hW.get hv
    refine wpAny_pyNext_list_item (s := ⟨h1, gs, dr, tk1, os⟩) hI1 hl1 (x := .bytes u.toArray t1) (by simpa using hv) fun h2 hI2 hsb2 => ?_
    dsimp only
    refine wpAny_assign_Name (wpAny_storeName_local (s := ⟨h2, gs, dr, tk1, os⟩) (lookup_relabel_local hx1) (hC1.sameBut hsb2 (Ne.symm hIC)) (fun h3 hC3 hs3 => ?_) (by simp [compEnvC, relabel, hk]))
    have k3 : Ke h0 h3 := fun b o e => hs3.extBut b o (above b o e).2.2 (hsb2.extBut b o (above b o e).1 (K1 b o e))
    have hI3 : h3.IsListIter I wa (j + 1) := hI2.at fun o e => hs3.extBut _ _ hIC e
    have hD3 : h3.get? D = some (lob ys1 k1) := hs3.extBut _ _ hDC (hsb2.extBut _ _ (Ne.symm hID) hD1)
    refine hi2 h3 _ _ _ _ k3 hC3 ?_
    refine wpAny_pyIter_list (s := ⟨h3, gs, dr, _, os⟩) (isl_of (k3 _ _ hla0)) ?_
    obtain ⟨oI, hoI, hoI2⟩ := hI3
    have hILt : I < h3.objs.size := Heap.lt_size hoI
    have hDLt : D < h3.objs.size := Heap.lt_size hD3
    have hCLt : C < h3.objs.size := by
      obtain ⟨o, _, _, e, _⟩ := hC3
      exact Heap.lt_size e
    have kp : Ke h3 (h3.push { cls := .type "list_iterator", data := .fields #[.ref la, .int 0 0] }) := fun b o e => Heap.get?_push_of_some _ e
    have gp : (h3.push { cls := .type "list_iterator", data := .fields #[.ref la, .int 0 0] }).get? h3.objs.size = some { cls := .type "list_iterator", data := .fields #[.ref la, .int 0 0] } := Heap.get?_push_size _ rfl
    dsimp only
    generalize h3.push { cls := .type "list_iterator", data := .fields #[.ref la, .int 0 0] } = H3 at kp gp ⊢
    have hbl : ys1.length + as.length ≤ 100000 := by
      rw [hys1.length, growF_len, List.length_take]
      have : min j W.length * as.length ≤ W.length * as.length := Nat.mul_le_mul_right _ (Nat.min_le_right _ _)
      omega
    have loop : ∀ tk', codeAny (model prog w) A (.compLoop (.ListComp elt [⟨.Name x1 p1, i1, [], 0⟩, ⟨.Name x2 p2, i2, [], 0⟩] cscope pos) 1 (.ref h3.objs.size) (.ref D) (compEnvC cscope cl C env)) (fun r s₅ => match r with | .ok _ => ∃ m, m < wvs.length - j ∧ (∃ j h' tk' ys' k' mC', m = wvs.length - j ∧ j ≤ wvs.length ∧ s₅ = ⟨h', gs, dr, tk', os⟩ ∧ Ke h0 h' ∧ h'.IsListIter I wa j ∧ h'.get? D = some (lob ys' k') ∧ h'.Ns C mC' ∧ BsAre ys' (growF as (W.take j))) | .error _ => False) ⟨H3, gs, dr, tk', os⟩ := by
      intro tk'
      refine words_in (t1 := t1) (u := u) hh hk hx2 hx12 (Nat.ne_of_lt hILt) hID hIC (Nat.ne_of_gt hDLt) (Nat.ne_of_gt hCLt) hDC oI0 (Nat.le_of_lt (Nat.lt_of_le_of_lt oI0 hILt)) oD0 oC0 hla0 hi (fun h tk mC E' c t2 => turn h tk mC E' u c t1 t2 (List.mem_of_getElem? hu)) (fun b o e => kp _ _ (k3 b o e)) (kp _ _ hoI) ⟨_, gp, rfl, rfl⟩ (kp _ _ hD3) (hC3.at' fun o e => kp _ _ e) (by simp) hys1 hbl fun h' tk' ys' k' mC' K' hI' hD' hC' hys' => ?_
      refine ⟨wvs.length - (j + 1), by omega, j + 1, h', tk', ys', k', mC', rfl, hlt, rfl, K', ⟨oI, hI', hoI2⟩, hD', hC', ?_⟩
      rw [growF_take hu]
      exact hys'
    exact comp_two_start (.inr rfl) (loop _) fun E' => wpAny_pyIter_listiter (i := 0) (l := la) ⟨_, gp, rfl, rfl⟩ (loop _)
  · obtain rfl : j = wvs.length := Nat.le_antisymm hj hge
    refine wpAny_pyNext_list_end (s := ⟨h1, gs, dr, tk1, os⟩) hh hI1 hl1 (by simp) fun h2 he2 => ?_
    refine done h2 _ ys1 k1 mC1 (fun b o e => he2 b o (above b o e).1 (K1 b o e)) (he2 _ _ (Ne.symm hID) hD1) (hC1.at' fun o e => he2 _ _ (Ne.symm hIC) e) ?_
    rw [hlen, List.take_length] at hys1
    exact hys1
/-- words = [word + bytes([letter]) for word in words for letter in letters] -/
theorem x_words {y : Str} {py spos : Pos} {wa la : Addr} {wvs lvs : List Value} {nw nl : Nat} {as : List UInt8} {W : List (List UInt8)} {ρ : List (Str × Value)} {name : Str} {scope : Scope} {a : Addr} {cd : Value} {Q : Flow → Shared → Prop}
    (hsw : swapsWith (.ListComp elt [⟨.Name x1 p1, i1, [], 0⟩, ⟨.Name x2 p2, i2, [], 0⟩] cscope pos) (some (.Name y py)) spos.line (envOfC name scope L a cd) = pure true)
    (hs1 : ∀ x, foldedSetIterable i1 (envOfC name scope L a cd) x = pure x) (hs2 : ∀ C x, foldedSetIterable i2 (compEnvC cscope cl C (envOfC name scope L a cd)) x = pure x) (hclos : closureFor cscope (envOfC name scope L a cd) = pure cl) (hk : cscope.kind = .function) (hnames : ∀ y ∈ cscope.names, y.2 = .local → cscope.names.lookup y.1 = some .local)
    (hcell : ∀ y ∈ cscope.names, y.2 ≠ .cell) (hx1 : cscope.names.lookup x1 = some .local) (hx2 : cscope.names.lookup x2 = some .local) (hx12 : x1 ≠ x2) (hks : scope.kind = .function) (hl : (envOfC name scope L a cd).kindOf y = some .local)
    (hh : A.handled = none) (F : Fr g L h (look ρ)) (N : News g L h news) (hwa : h.get? wa = some (lob wvs nw)) (hW : BsAre wvs W) (hla : h.get? la = some (lob lvs nl)) (hi : IntsAre lvs (numsOf as)) (hsz : W.length * as.length + as.length ≤ 100000)
    (hit : ∀ Q' : Value → Shared → Prop, Q' (.ref wa) ⟨h, gs, dr, tk, os⟩ → wpAny (model prog w) A (eval i1 (envOfC name scope L a cd)) Q' E ⟨h, gs, dr, tk, os⟩)
    (hi2 : ∀ h' tk C mC E' Q', Fr g L h' (look ρ) → News g L h' news → h'.Ns C mC → Q' (.ref la) ⟨h', gs, dr, tk, os⟩ → wpAny (model prog w) A (eval i2 (compEnvC cscope cl C (envOfC name scope L a cd))) Q' E' ⟨h', gs, dr, tk, os⟩)
    (turn : ∀ h' tk C mC E' u c t1 t2, u ∈ W → Fr g L h' (look ρ) → News g L h' news → h'.Ns C mC → mC x1 = some (.bytes (u : List UInt8).toArray t1) → mC x2 = some (.int ((c : UInt8).toNat : Int) t2) → wpAny (model prog w) A (eval elt (compEnvC cscope cl C (envOfC name scope L a cd))) (fun y s => ∃ h'' tk' t', y = .bytes (u ++ [c]).toArray t' ∧ s = ⟨h'', gs, dr, tk', os⟩ ∧ Ke h' h'') E' ⟨h', gs, dr, tk, os⟩)
    (H : ∀ h' tk' D ys k, (∀ p ∈ news, p.1 ≠ D) → Fr g L h' (look ((y, .ref D) :: ρ)) → News g L h' ((D, lob ys k) :: news) → BsAre ys (growF as W) → Q .next ⟨h', gs, dr, tk', os⟩) :
    wpAny (model prog w) A (exec (.Assign [.Name y py] (.ListComp elt [⟨.Name x1 p1, i1, [], 0⟩, ⟨.Name x2 p2, i2, [], 0⟩] cscope pos) spos) (envOfC name scope L a cd)) Q E ⟨h, gs, dr, tk, os⟩ := by
  rw [exec_Assign_Name_used _ _ _ _ hsw]
  refine wpAny_bind (wpAny_standAt (wpAny_bind ?_))
  show wpAny _ A (do let _ ← comprehension (.ListComp elt [⟨.Name x1 p1, i1, [], 0⟩, ⟨.Name x2 p2, i2, [], 0⟩] cscope pos) cscope (envOfC name scope L a cd) _ (newList []) false (eval i1 (envOfC name scope L a cd)) (some (assign (.Name y py) (envOfC name scope L a cd)))) _ _ _
  refine wpAny_bind (wpAny_mono (wpAny_comprehension_free (use := some (assign (.Name y py) (envOfC name scope L a cd))) (Q := fun _ s' => Q .next s') rfl hs1 hclos hk hnames (hit _ ?_)) (fun _ s' hq => wpAny_pure (wpAny_pure hq)) fun _ _ e => e)
  refine wpAny_pyIter_list (s := ⟨h, gs, dr, tk, os⟩) (isl_of hwa) ?_
  have hlt : ∀ p ∈ news, @LT.lt Nat _ p.1 h.objs.size := fun p hp => Heap.lt_size (N p hp).1
  have k1 : Ke h (h.push { cls := .type "list_iterator", data := .fields #[.ref wa, .int 0 0] }) := fun b o e => Heap.get?_push_of_some _ e
  have g1 : (h.push { cls := .type "list_iterator", data := .fields #[.ref wa, .int 0 0] }).get? h.objs.size = some { cls := .type "list_iterator", data := .fields #[.ref wa, .int 0 0] } := Heap.get?_push_size _ rfl
  have z1 : (h.push { cls := .type "list_iterator", data := .fields #[.ref wa, .int 0 0] }).objs.size = h.objs.size + 1 := Heap.size_push ..
  dsimp only
  generalize hH1 : h.push { cls := .type "list_iterator", data := .fields #[.ref wa, .int 0 0] } = H1 at k1 g1 z1 ⊢
  refine wpAny_newObj_type (s := ⟨H1, gs, dr, tk, os⟩) (wpAny_newFunctionEnv hcell (by intro y hy; simp at hy) (fun h₁ hns₁ hsb₁ => ?_) hk)
  dsimp only at hns₁ hsb₁ ⊢
  have k2 : Ke H1 (H1.push { cls := .type "list", dict := none, data := .seq ([] : List Value).toArray }) := fun b o e => Heap.get?_push_of_some _ e
  have g2 : (H1.push { cls := .type "list", dict := none, data := .seq ([] : List Value).toArray }).get? H1.objs.size = some (lob [] 0) := Heap.get?_push_size _ rfl
  have z2 : (H1.push { cls := .type "list", dict := none, data := .seq ([] : List Value).toArray }).objs.size = H1.objs.size + 1 := Heap.size_push ..
  generalize hH2 : H1.push { cls := .type "list", dict := none, data := .seq ([] : List Value).toArray } = H2 at hns₁ hsb₁ k2 g2 z2 ⊢
  have hLlt : @LT.lt Nat _ L h.objs.size := F.ns.lt
  have old : Ke h h₁ := fun b o e => hsb₁.extBut b o (by have := Heap.lt_size e; rw [z2, z1]; exact Nat.ne_of_lt (Nat.lt_succ_of_lt (Nat.lt_succ_of_lt this))) (Heap.get?_push_of_some _ (k2 _ _ (k1 _ _ e)))
  have freshg : ∀ a, h.objs.size ≤ a → g.get? a = none := fun a ha => by
    cases e : g.get? a with
    | none => rfl
    | some o' => exact absurd (Heap.lt_size (F.keep _ _ e)) (Nat.not_lt.mpr ha)
  have c1 : (H2.objs.size : Nat) = h.objs.size + 2 := by rw [z2, z1]
  have c2 : (H1.objs.size : Nat) = h.objs.size + 1 := z1
  have hDC : H1.objs.size ≠ H2.objs.size := fun e => by rw [c1, c2] at e; exact absurd e (by omega)
  have hDI : h.objs.size ≠ H1.objs.size := fun e => by rw [c2] at e; exact absurd e (by omega)
  have hCI : h.objs.size ≠ H2.objs.size := fun e => by rw [c1] at e; exact absurd e (by omega)
  have hit1 : h₁.get? h.objs.size = some { cls := .type "list_iterator", data := .fields #[.ref wa, .int 0 0] } := hsb₁.extBut _ _ hCI (Heap.get?_push_of_some _ (k2 _ _ g1))
  have hacc : h₁.get? H1.objs.size = some (lob [] 0) := hsb₁.extBut _ _ hDC (Heap.get?_push_of_some _ g2)
  have loop : ∀ tk', codeAny (model prog w) A (.compLoop (.ListComp elt [⟨.Name x1 p1, i1, [], 0⟩, ⟨.Name x2 p2, i2, [], 0⟩] cscope pos) 0 (.ref h.objs.size) (.ref H1.objs.size) (compEnvC cscope cl H2.objs.size (envOfC name scope L a cd))) (compPost (model prog w) A E (some (assign (.Name y py) (envOfC name scope L a cd))) (fun _ s' => Q .next s') (.ref H1.objs.size) H2.objs.size) ⟨h₁, gs, dr, tk', os⟩ := by
    intro tk'
    refine words_out (h0 := h) (W := W) hh hk hx1 hx2 hx12 (hs2 _) hDI hCI hDC (Nat.le_refl _) (by rw [c2]; omega) (by rw [c1]; omega) hwa hW hla hi hsz (fun h' tk mC E' Q' k hn q => hi2 h' tk _ mC E' Q' (F.keeps k) (news_ke N k) hn q) (fun h' tk mC E' u c t1 t2 hu k hn m1 m2 => turn h' tk _ mC E' u c t1 t2 hu (F.keeps k) (news_ke N k) hn m1 m2) old ⟨_, hit1, rfl, rfl⟩ hacc hns₁ fun h' tk' ys k mC' K' hD' hC' hys => ?_
    have F' := F.keeps K'
    have N' : News g L h' ((H1.objs.size, lob ys k) :: news) := fun p hp => by
      rcases List.mem_cons.mp hp with rfl | hp
      · exact ⟨hD', (fun e => by rw [← e, c2] at hLlt; exact absurd hLlt (by omega)), freshg _ (by rw [c2]; omega)⟩
      · exact news_ke N K' p hp
    have hCL : H2.objs.size ≠ L := fun q => by
      rw [← q, c1] at hLlt
      exact absurd hLlt (by omega)
    have hCg : g.get? H2.objs.size = none := freshg _ (by rw [c1]; omega)
    have hCn : News g L h' ((H2.objs.size, (h'.get? H2.objs.size).getD default) :: (H1.objs.size, lob ys k) :: news) := fun p hp => by
      rcases List.mem_cons.mp hp with rfl | hp
      · obtain ⟨o, _, _, q, _⟩ := hC'
        exact ⟨by rw [q]; rfl, hCL, hCg⟩
      · exact N' p hp
    show wpAny _ A (assign (.Name y py) (envOfC name scope L a cd) (.ref H1.objs.size)) _ _ _
    refine wpAny_assign_Name (xe_store F' hCn hks hl fun h₂ tk₂ F₂ N₂ => ?_)
    obtain ⟨o, ho⟩ : ∃ o, h'.get? H2.objs.size = some o := let ⟨o, _, _, q, _⟩ := hC'; ⟨o, q⟩
    have hC2 : h₂.get? H2.objs.size = some o := by have := (N₂ _ (.head _)).1; rw [ho] at this; exact this
    refine comp_end0 (P := fun s => Q .next s) (tk := tk₂) F₂ (N₂.tail') (fun p hp => ?_) hCL hCg (hC'.at' fun ob e => by rw [ho] at e; cases e; exact hC2) (fun h'' F'' N'' => H h'' tk₂ _ ys k (fun p hp e => by have := hlt p hp; rw [e, c2] at this; exact absurd this (by omega)) F'' N'' hys)
    rcases List.mem_cons.mp hp with rfl | hp
    · exact hDC
    · have := hlt p hp
      intro e
      rw [e, c1] at this
      exact absurd this (by omega)
  exact comp_two_start (.inl rfl) (loop _) fun E' => wpAny_pyIter_listiter (i := 0) (l := wa) ⟨_, hit1, rfl, rfl⟩ (loop _)
end
end

section
section
variable {prog : Program} {w : World} {A : Around} {E : Value → Shared → Prop} {gs : Array GenState} {dr : Drawn} {tk : Nat} {os : OsState} {h g : Heap} {L : Addr} {mm : Str → Option Value} {news : Ledger} {Q : Value → Shared → Prop}
/-- a slice of a list of ints -/
theorem x_slg {l : Addr} {vs : List Value} {ns : List Int} {k : Nat} {vl vu : Value} {lo hi : Option Int} {value slice : Expr} (F : Fr g L h mm) (N : News g L h news) (hl : Heap.IsList h l vs.toArray) (hi' : IntsAre vs ns) (pl : IsPart vl lo) (pu : IsPart vu hi) (hz : vs.length ≤ 1000) (hk : (slicePick vs.toArray lo hi none).size ≤ k)
    (hs : ∀ h : Heap, subscripted slice false (.ref l) (.ref h.objs.size) = operate [.ref h.objs.size, .ref l] (getItem (.ref l) (.ref h.objs.size))) (ht : ∀ r, letTemporaryGo value (.ref l) r = pure ())
    (H : ∀ h' u cells ms, IntsAre cells ms → cells.length ≤ k → (∀ p ∈ news, p.1 ≠ u) → Fr g L h' mm → News g L h' ((u, lob cells 0) :: news) → Q (.ref u) ⟨h', gs, dr, tk, os⟩) :
    SlQ (fun i s₂ => wpAny (model prog w) A (subscriptTail value slice (.ref l) i) Q E s₂) vl vu ⟨h, gs, dr, tk, os⟩ :=
  slice_list (s := ⟨h, gs, dr, tk, os⟩) (items := vs.toArray) F N hl pl pu (fun h' F' N' => by
    refine H h' _ (slicePick vs.toArray lo hi none).toList _ (hi'.pick lo hi none) (by simpa using hk) (fun p hp e => ?_) F' (by simpa [lob] using N')
    have z := (N p hp).1
    have := Heap.lt_size z
    rw [e] at this
    exact Nat.lt_irrefl _ (Nat.lt_of_succ_lt this)) (hs h) ht (by rw [List.size_toArray, sizeLine_eq]; omega)
theorem pick_size (vs : List Value) {a b : Nat} : (slicePick vs.toArray (some (a : Int)) (some (b : Int)) none).size ≤ b - a := by
  rw [slicePick_plain]
  simp only [Option.elim, clipAt_nat, List.size_toArray, List.length_take, List.length_drop]
  omega
theorem pick_size0 (vs : List Value) {b : Nat} : (slicePick vs.toArray none (some (b : Int)) none).size ≤ b := by
  rw [slicePick_plain]
  simp only [Option.elim, clipAt_nat, List.size_toArray, List.length_take, List.length_drop]
  omega
theorem ints_app : ∀ {vs ws : List Value} {ns ms : List Int}, IntsAre vs ns → IntsAre ws ms → IntsAre (vs ++ ws) (ns ++ ms)
  | _, _, _, _, .nil, b => b
  | _, _, _, _, .cons n t r, b => .cons n t (ints_app r b)
/-- a name that lives in a cell is bound -/
theorem xe_cstore {M : Model} {env : Env} {x : Str} {c : Addr} {oc : Obj} {v : Value} {v₀ : Option Value} {own rest : Ledger} {Q : Unit → Shared → Prop} (hk : env.scope.kind = .function) (hl : env.kindOf x = some .cell) (hc : env.cells.lookup x = some c)
    (F : Fr g L h mm) (N : News g L h (own ++ (c, oc) :: rest)) (ho : oc.data = .cell v₀) (off : ∀ p ∈ own ++ rest, p.1 ≠ c)
    (H : ∀ h' o', o'.data = .cell (some v) → Fr g L h' mm → News g L h' (own ++ (c, o') :: rest) → Q () ⟨h', gs, dr, tk, os⟩) : wpAny M A (storeName env x v) Q E ⟨h, gs, dr, tk, os⟩ := by
  have hcm := N (c, oc) (List.mem_append_right _ (.head _))
  refine wpAny_storeName_cell (s := ⟨h, gs, dr, tk, os⟩) hk hl hc ⟨oc, hcm.1, ho⟩ fun h' ic sb => ?_
  obtain ⟨o', ho', hd'⟩ := ic
  refine H h' o' hd' (F.change sb hcm.2.1 hcm.2.2) fun p hp => ?_
  rcases List.mem_append.mp hp with hp | hp
  · have := N p (List.mem_append_left _ hp)
    exact ⟨sb.extBut _ _ (off p (List.mem_append_left _ hp)) this.1, this.2⟩
  · rcases List.mem_cons.mp hp with rfl | hp
    · exact ⟨ho', hcm.2⟩
    · have := N p (List.mem_append_right _ (List.mem_cons_of_mem _ hp))
      exact ⟨sb.extBut _ _ (off p (List.mem_append_right _ hp)) this.1, this.2⟩
end
section
variable {w : World} {A : Around} {E : Value → Shared → Prop} {gs : Array GenState} {dr : Drawn} {tk : Nat} {os : OsState} {h : Heap} {Q : Value → Shared → Prop}
abbrev envL3 (L : Addr) : Env := envOfC (Str.ofString "law") (fdS (sAt 49)) L 1816 (Value.ref 1815)
theorem l3_rho (v : Value) (L : Addr) : (bindL (envL3 L).kindOf [(Str.ofString "script", v)] fun _ => none) = look [(Str.ofString "script", v)] := by
  show (fun y => if y = _ then some _ else (look []) y) = _
  exact look_cons [] _ _
theorem l3_kind (v : Value) (n : Nat) : ∀ x ∈ [(Str.ofString "script", v)], (fdS (sAt 49)).names.lookup x.1 = some .local ∨ ((fdS (sAt 49)).names.lookup x.1 = some .cell ∧ ((cellsFrom (n + 1) (fdS (sAt 49)).names []).lookup x.1).isSome = true) := by
  intro x hx
  rw [List.mem_singleton.mp hx]
  exact .inl rfl
theorem l3_enter {v : Value} (B : Base w h) (hdep : A.depth < recursionLimit)
    (H : ∀ h₁ L tk' oc, L = h.objs.size → Fr h L h₁ (look [(Str.ofString "script", v)]) → News h L h₁ [(L + 1, oc)] → oc.data = .cell none →
      wpAny (model pw w) (A.deeper (envL3 L)) (execs (fdB (sAt 49)) (envL3 L)) (fun fl s' => Q (match fl with | .ret v => v | _ => .none) s') (fun _ _ => False) ⟨h₁, gs, dr, tk', os⟩) :
    wpAny (model pw w) A (call (.ref 1816) [v]) Q E ⟨h, gs, dr, tk, os⟩ := by
  refine x_enterC B hdep (by rfl) (by rfl) (by rfl) (by rfl) (by rfl) (binds := [(Str.ofString "script", _)]) (lρ := [(Str.ofString "script", _)]) (by rfl) (l3_kind _ _) (by decide) (l3_rho _ _) (by rfl) (by rfl) (by rfl) ?_
  intro h₁ L tk' cells hL F N X
  obtain ⟨oc, rfl, hoc⟩ := CellsAre.one (n := Str.ofString "letters") (c := L + 1) X
  exact H h₁ L tk' oc hL F N hoc
end
end

section
theorem cn_yes {α : Type} {P : α → Prop} {l : List α} {a : α} (h : P a) : cn P (l ++ [a]) = cn P l + 1 := by
  classical
  rw [cn_append, cn_cons, if_pos h]
  rfl
theorem cn_no {α : Type} {P : α → Prop} {l : List α} {a : α} (h : ¬ P a) : cn P (l ++ [a]) = cn P l := by
  classical
  rw [cn_append, cn_cons, if_neg h]
  rfl
theorem words_small {as : List UInt8} (h5 : as.length ≤ 5) {i : Nat} (hi : i ≤ 4) : (wordsF as i).length ≤ 625 := by
  rw [words_count]
  have h2 : as.length ^ i ≤ 5 ^ i := Nat.pow_le_pow_left h5 i
  have h3 : 5 ^ i ≤ 5 ^ 4 := Nat.pow_le_pow_right (by decide) hi
  omega
/-- a frame with cells stands on what is below -/
theorem below_env {A : Around} {b₀ g h : Heap} {outer : List Env} {L : Addr} {m : Str → Option Value} {e : Env} (hl : e.frame = some L) (hk : e.scope.kind = .function) (K : Below A b₀ outer g) (F : Fr g L h m) : Below (A.deeper e) b₀ (e :: outer) h where
  stack := Around.frames_deeper K.stack
  stays := fun b o q => F.keep b o (K.stays b o q)
  frames := by
    have q : b₀.get? L = none := Option.eq_none_iff_forall_ne_some.mpr fun o q => absurd (Nat.lt_of_lt_of_le (Heap.lt_size (K.stays L o q)) F.above) (Nat.lt_irrefl _)
    exact .cons (by rw [hk]; decide) hl F.ns q (K.frames.of_keeps fun b o q _ => ⟨o, F.keep b o q, rfl⟩)
section
variable {w : World} {A : Around} {E : Value → Shared → Prop} {gs : Array GenState} {dr : Drawn} {tk : Nat} {os : OsState} {h hb : Heap} {Q : Value → Shared → Prop}
theorem law_loop {L ul wu : Addr} {lg : Nat} {tl tb : Tok} {K : Option SK} {kv sv : Value} {T : Ledger} {as : List UInt8} {lvs : List Value} {nl : Nat} {oc : Obj} {ρ : List (Str × Value)} (B₀ : Base w hb) (K0 : ∀ g, Below A g [] g) (hd : A.depth + 130 < recursionLimit) (hu : A.units + 170 < cLine) (hh : A.handled = none)
    (ht : hb.get? 1702 = some (ob1702 w.params)) (RA : ARep T kv K) (RS : SV T K sv) (hn : as.Nodup) (hi : IntsAre lvs (numsOf as)) (h5 : as.length ≤ 5) (hlg : lg = 3 ∨ lg = 4) (hoc : oc.data = .cell (some (.ref ul)))
    (F : Fr hb L h (look ([(Str.ofString "words", Value.ref wu), (Str.ofString "sedes", sv), (Str.ofString "kind", kv), (Str.ofString "longest", .int lg tl)] ++ ρ)))
    (N : News hb L h ((wu, lob [.bytes ([] : List UInt8).toArray tb] 0) :: (L + 1, oc) :: (ul, lob lvs nl) :: T))
    (H : ∀ h' tk' gs', OldK hb h' → GExt gs gs' → Q (.bool true) ⟨h', gs', dr, tk', os⟩) :
    wpAny (model pw w) (A.deeper (envL3 L)) (execs ((fdB (sAt 49)).drop 7) (envL3 L)) (fun fl s' => Q (match fl with | .ret v => v | _ => .none) s') E ⟨h, gs, dr, tk, os⟩ := by
  have hh' : (A.deeper (envL3 L)).handled = none := hh
  have hdd : (A.deeper (envL3 L)).depth = A.depth + 1 := rfl
  have hdu : (A.deeper (envL3 L)).units ≤ A.units + 10 := by show A.units + 3 ≤ _; omega
  have hll : lvs.length = as.length := by rw [hi.length]; simp
  have h1L : (1702 : Addr) ≠ L := Nat.ne_of_lt (Nat.lt_of_lt_of_le (Heap.lt_size ht) F.above)
  have hne0 : ∀ p ∈ (wu, lob [.bytes ([] : List UInt8).toArray tb] 0) :: (L + 1, oc) :: (ul, lob lvs nl) :: T, p.1 ≠ 1702 := fun p hp e => by
    have := (N p hp).2.2
    rw [e, ht] at this
    cases this
  have B : Base w (hideAll hb [1702]) := base_tab B₀
  have N' : News (hideAll hb [1702]) L h ((1702, ob1702 w.params) :: (wu, lob [.bytes ([] : List UInt8).toArray tb] 0) :: (L + 1, oc) :: (ul, lob lvs nl) :: T) := by
    intro p hp
    rcases List.mem_cons.mp hp with rfl | hp
    · exact ⟨F.keep _ _ ht, h1L, hideAll_none _ (.head _)⟩
    · obtain ⟨a, b, c⟩ := N p hp
      refine ⟨a, b, ?_⟩
      cases q : (hideAll hb [1702]).get? p.1 with
      | none => rfl
      | some o => have := (hide1 _ _ q).1; rw [c] at this; cases this
  have F' := fr_hide (S := 1702) F
  clear F N
  have F := F'
  have N := N'
  clear F' N'
  have KB : Below A (hideAll hb [1702]) [] (hideAll hb [1702]) := K0 _
  have hneT : ∀ p ∈ (L + 1, oc) :: (ul, lob lvs nl) :: T, p.1 ≠ 1702 := fun p hp => hne0 p (.tail _ hp)
  obtain ⟨R0, hR0⟩ : ∃ R0, R0 = (L + 1, oc) :: (ul, lob lvs nl) :: T := ⟨_, rfl⟩
  rw [← hR0] at N hneT
  have mc : (L + 1, oc) ∈ R0 := by rw [hR0]; exact .head _
  have mu : (ul, lob lvs nl) ∈ R0 := by rw [hR0]; exact .tail _ (.head _)
  have mT : ∀ p ∈ T, p ∈ R0 := fun p hp => by rw [hR0]; exact .tail _ (.tail _ hp)
  show wpAny _ _ (execs (.For _ _ _ _ _ :: _) _) _ _ _
  refine wpAny_execs_cons ?_
  refine wpAny_For ?_ (fun _ => rfl)
  repeat' tb_start
  have elg : ((lg : Int) + 1) = ((lg + 1 : Nat) : Int) := by omega
  rw [elg] at N
  have hr := (N _ (.head _)).1
  replace N := News.tail' N
  refine x_iter_range (n := lg + 1) hh' (by omega) (fun i m nw gs' => ∃ wu ρ' o17 ps wvs nwd, GExt gs gs' ∧ look ([(Str.ofString "words", Value.ref wu), (Str.ofString "sedes", sv), (Str.ofString "kind", kv), (Str.ofString "longest", .int lg tl)] ++ ρ') = m ∧ TabO o17 ps ∧ BsAre wvs (wordsF as i) ∧ wu ≠ 1702 ∧ nw = (1702, o17) :: (wu, lob wvs nwd) :: R0) ?_ F N hr ?_ ?_ (fun _ _ => by with_unfolding_all rfl)
  · exact ⟨wu, ρ, _, #[], _, _, GExt.refl _, rfl, ⟨rfl, trivial⟩, .cons _ _ .nil, hne0 _ (.head _), rfl⟩
  · clear F N hr
    rintro i u m nw gs₁ h₁ tk₁ own I hil ⟨wu, ρ', o17, ps, wvs, nwd, ge, rfl, hps, hW, hwu, rfl⟩ F N hown hlive hnI
    have hI17 : (1702 : Addr) ≠ I := hnI (1702, o17) (.head _)
    have hW5 := words_small h5 (show i ≤ 4 by omega)
    have hoff1 : ∀ p ∈ own, p.1 ≠ 1702 := fun p hp e => by
      rw [hown p hp] at e
      exact hnI (1702, o17) (.head _) e.symm
    repeat' tb_start
    refine wpAny_For ?_ (by intro _; rfl)
    repeat' tb_start
    refine x_iter_lst (ax := wu) (vs := wvs) (n := nwd) hh' (fun k m nw gs' => ∃ x tr ρ' o17 ps, GExt gs gs' ∧ x = ((cn (accE K) ((wordsF as i).take k) : Nat) : Int) ∧ look ([(Str.ofString "read", .int x tr), (Str.ofString "size", .int ((i : Nat) : Int) u), (Str.ofString "words", Value.ref wu), (Str.ofString "sedes", sv), (Str.ofString "kind", kv), (Str.ofString "longest", .int lg tl)] ++ ρ') = m ∧ TabO o17 ps ∧ nw = own ++ (1702, o17) :: (wu, lob wvs nwd) :: R0) ?_ F N (N.get (List.mem_append_right _ (.tail _ (.head _)))) ?_ ?_ (fun _ _ => by with_unfolding_all rfl)
    · exact ⟨_, _, _, o17, ps, ge, by rw [List.take_zero, cn_nil], look_front (Has.all (by tb_rel)), hps, rfl⟩
    · clear F N
      rintro k v m nw gs₂ h₂ tk₂ own2 I2 hvk ⟨x, tr, ρ'', o17, ps, ge2, hx, rfl, hps, rfl⟩ F N hown2 hlive2 hnI2
      obtain ⟨uw, tu, rfl, huw⟩ := hW.get hvk
      have hul : uw.length = i := words_len (List.mem_of_getElem? huw)
      have hoff2 : ∀ p ∈ own2, p.1 ≠ 1702 := fun p hp e => by
        have q1 := hown2 p hp
        have q2 := hnI2 (1702, o17) (List.mem_append_right _ (.head _))
        rw [e] at q1
        simp only [List.mem_cons, List.mem_nil_iff, or_false] at q1 q2
        rcases q1 with q | q
        · exact q2 q
        · exact hwu q.symm
      have m17 : (1702, o17) ∈ own2 ++ (own ++ (1702, o17) :: (wu, lob wvs nwd) :: R0) := List.mem_append_right _ (List.mem_append_right _ (.head _))
      repeat' tb_start
      refine reads_call (T := T) (K := K) B (below_env (e := envL3 L) rfl rfl KB F) (by rw [hdd]; omega) (by omega) hh' RS (fun p hp => ⟨hneT p (mT p hp), (N p (List.mem_append_right _ (List.mem_append_right _ (.tail _ (.tail _ (mT p hp)))))).1⟩) (N.get (a := 1702) m17) hps (by omega) (fun hacc h₃ gs₃ o₃ t₃ tk₃ kp₃ h17' hps₃ ge₃ => ?_) (fun hacc h₃ t₃ tk₃ kp₃ => ?_)
      · obtain ⟨ps₃, hps₃⟩ := hps₃
        have F₃ : Fr (hideAll hb [1702]) L h₃ _ := ⟨F.ns.at' fun ob e => kp₃ L ob h1L.symm e, fun b ob e => kp₃ b ob (hide1 b ob e).2 (F.keep b ob e), F.above⟩
        have N₃ : News (hideAll hb [1702]) L h₃ (own2 ++ (own ++ (1702, o₃) :: (wu, lob wvs nwd) :: R0)) := by
          intro p hp
          by_cases e : p.1 = 1702
          · have hz : (1702, o₃) ∈ own2 ++ (own ++ (1702, o₃) :: (wu, lob wvs nwd) :: R0) := List.mem_append_right _ (List.mem_append_right _ (.head _))
            rcases List.mem_append.mp hp with hp | hp
            · exact absurd e (hoff2 p hp)
            rcases List.mem_append.mp hp with hp | hp
            · exact absurd e (hoff1 p hp)
            rcases List.mem_cons.mp hp with rfl | hp
            · exact ⟨h17', (N (1702, o17) m17).2⟩
            rcases List.mem_cons.mp hp with rfl | hp
            · exact absurd e hwu
            · exact absurd e (hneT p hp)
          · have hz : p ∈ own2 ++ (own ++ (1702, o17) :: (wu, lob wvs nwd) :: R0) := by
              simp only [List.mem_append, List.mem_cons] at hp ⊢
              rcases hp with hp | hp | hp | hp
              · exact .inl hp
              · exact .inr (.inl hp)
              · exact absurd (congrArg Prod.fst hp) e
              · exact .inr (.inr (.inr hp))
            obtain ⟨a, b⟩ := N p hz
            exact ⟨kp₃ _ _ e a, b⟩
        clear F N
        have F := F₃
        have N := N₃
        clear F₃ N₃
        repeat' tb_start
        all_goals first
          | (exfalso; omega)
          | skip
        refine wpAny_loadName_local (s := ⟨_, _, dr, _, os⟩) (by rfl) (by rfl) F.ns (by rfl) ?_
        repeat' tb_start
        refine ⟨_, _, _, _, _, rfl, ⟨_, _, _, o₃, ps₃, ge2.trans ge₃, ?_, look_front (Has.all (by tb_rel)), hps₃, rfl⟩, F, N, fun p hp => ?_⟩
        · rw [take_next huw, cn_yes hacc, hx]
          simp
        · simp only [List.mem_append, List.mem_cons] at hp
          rcases hp with hp | rfl | rfl | hp
          · exact hnI2 p (List.mem_append_left _ hp)
          · exact hnI2 (1702, o17) (List.mem_append_right _ (.head _))
          · exact hnI2 (wu, lob wvs nwd) (List.mem_append_right _ (.tail _ (.head _)))
          · exact hnI2 p (List.mem_append_right _ (.tail _ (.tail _ hp)))
      · obtain ⟨F₃, N₃⟩ := kp_bottom (e := envL3 L) rfl F N kp₃
        clear F N
        have F := F₃
        have N := N₃
        clear F₃ N₃
        repeat' tb_start
        all_goals first
          | (exfalso; omega)
          | skip
        refine wpAny_loadName_local (s := ⟨_, _, dr, _, os⟩) (by rfl) (by rfl) F.ns (by rfl) ?_
        repeat' tb_start
        refine ⟨_, _, _, _, _, rfl, ⟨_, _, _, o17, ps, ge2, ?_, look_front (Has.all (by tb_rel)), hps, rfl⟩, F, N, fun p hp => ?_⟩
        · rw [take_next huw, cn_no hacc, hx]
          simp
        · simp only [List.mem_append, List.mem_cons] at hp
          rcases hp with hp | rfl | rfl | hp
          · exact hnI2 p (List.mem_append_left _ hp)
          · exact hnI2 (1702, o17) (List.mem_append_right _ (.head _))
          · exact hnI2 (wu, lob wvs nwd) (List.mem_append_right _ (.tail _ (.head _)))
          · exact hnI2 p (List.mem_append_right _ (.tail _ (.tail _ hp)))
    · clear F N
      rintro m nw gs₂ h₂ tk₂ ⟨x, tr, ρ'', o17, ps, ge2, hx, rfl, hps, rfl⟩ F N
      have hWl : (wordsF as i).length = wvs.length := hW.length.symm
      rw [← hWl, List.take_length] at hx
      have hcn : x = ((cntF (fun K l => rowsF 4 K l 0 (numsOf as)) K i (numsOf as) : Nat) : Int) := by rw [hx, cntc_ok hn 4 K i (by omega) (by omega)]
      have mC : (L + 1, oc) ∈ own ++ (1702, o17) :: (wu, lob wvs nwd) :: R0 := List.mem_append_right _ (.tail _ (.tail _ mc))
      have mU : (ul, lob lvs nl) ∈ own ++ (1702, o17) :: (wu, lob wvs nwd) :: R0 := List.mem_append_right _ (.tail _ (.tail _ mu))
      dsimp only
      refine wpAny_execs_cons (wpAny_mono (Q := fun fl s => fl = .next ∧ ∃ h' tk', s = ⟨h', gs₂, dr, tk', os⟩ ∧ Fr (hideAll hb [1702]) L h' (look ([(Str.ofString "read", .int x tr), (Str.ofString "size", .int ((i : Nat) : Int) u), (Str.ofString "words", Value.ref wu), (Str.ofString "sedes", sv), (Str.ofString "kind", kv), (Str.ofString "longest", .int lg tl)] ++ ρ'')) ∧ News (hideAll hb [1702]) L h' (own ++ (1702, o17) :: (wu, lob wvs nwd) :: R0)) ?_ ?_ fun _ _ e => e)
      · refine wpAny_If ?_
        repeat' tb_start
        refine count_call (f := 4) (rows_call 4) (B.keeps F.keep) (by rw [hdd]; omega) hh' RA (fun p hp => (N p (List.mem_append_right _ (.tail _ (.tail _ (mT p hp))))).1) (N.get mU) hi (by simpa using h5) ⟨as, hn, rfl⟩ (by omega) (by omega) fun h₃ tk₃ t₃ k₃ => ?_
        replace N := news_ke N k₃
        replace F := F.keeps k₃
        rw [← hcn]
        repeat' tb_start
        all_goals first
          | (exfalso; exact absurd rfl (by assumption))
          | exact ⟨rfl, _, _, rfl, F, N⟩
      rintro fl s2 ⟨rfl, h₃, tk₃, rfl, F₃, N₃⟩
      clear F N
      dsimp only
      refine wpAny_execs_cons ?_
      refine x_words (cl := [(Str.ofString "letters", L + 1)]) (by rfl) (fun _ => rfl) (fun _ _ => rfl) (by rfl) (by rfl) (by decide) (by decide) (by rfl) (by rfl) (by decide) (by rfl) (by rfl) hh' F₃ N₃ (N₃.get (a := wu) (List.mem_append_right _ (.tail _ (.head _)))) hW (N₃.get mU) hi (by have : (wordsF as i).length * as.length ≤ 625 * 5 := Nat.mul_le_mul hW5 h5; omega) ?_ ?_ ?_ ?_
      · intro Q' hq
        have F := F₃
        have N := N₃
        repeat' tb_start
        exact hq
      · intro h₄ tk₄ C mC' E' Q' F₄ N₄ hC hq
        exact xe_cell (by rfl) (by rfl) (by rfl) (by decide) N₄ mC hoc hq
      · intro h₄ tk₄ C mC' E' uw c t1 t2 huw F N hn hm1 hm2
        clear F₃ N₃
        have hul : uw.length = i := words_len huw
        have hm := hm1
        repeat' tb_start
        clear hm N
        have hm := hm2
        refine xe_callt (Base.keeps B F.keep) (by rfl) (by tb_rel) (by rfl) (by rfl) (by rfl) (by rfl) (by decide) (by decide) (by rfl) (by rfl) ?_
        repeat' tb_start
        have kp : Ke h₄ (h₄.push { cls := .type "list", dict := none, data := .seq ([.int ((c.toNat : Nat) : Int) t2] : List Value).toArray }) := fun b o e => Heap.get?_push_of_some _ e
        have gp : (h₄.push { cls := .type "list", dict := none, data := .seq ([.int ((c.toNat : Nat) : Int) t2] : List Value).toArray }).get? h₄.objs.size = some (lob [.int ((c.toNat : Nat) : Int) t2] 0) := Heap.get?_push_size _ rfl
        have hc8 : c.toNat < 256 := c.toNat_lt
        refine wpAny_newObj_type (s := ⟨h₄, gs₂, dr, _, os⟩) ?_
        dsimp only
        generalize h₄.push { cls := .type "list", dict := none, data := .seq ([.int ((c.toNat : Nat) : Int) t2] : List Value).toArray } = H4 at kp gp ⊢
        repeat' tb_start
        refine PySem.call_bytes_ints (s := ⟨H4, gs₂, dr, _, os⟩) (vs := [.int ((c.toNat : Nat) : Int) t2]) (ns := [((c.toNat : Nat) : Int)]) ⟨_, gp, rfl, 0, rfl⟩ (.cons _ t2 .nil) (by simp; omega) (by rw [sizeLine_eq]; simp) hh' fun h₅ t₅ tk₅ k₅ => ?_
        have eb : byteArr [((c.toNat : Nat) : Int)] = ([c] : List UInt8).toArray := by simp [byteArr]
        rw [eb]
        refine x_badd (by simp; omega) fun t₆ tk₆ => ?_
        exact ⟨h₅, tk₆, t₆, rfl, rfl, fun b o e => k₅ b o (kp b o e)⟩
      · intro h₄ tk₄ D ys k hD F₄ N₄ hys
        dsimp only
        clear F₃ N₃
        have F := F₄
        have N := N₄
        clear F₄ N₄
        repeat' tb_start
        refine ⟨_, _, _, _, _, rfl, ⟨D, _, o17, ps, ys, k, ge2, look_front (Has.all (by tb_rel)), hps, hys, ?_, rfl⟩, F, news_sub N fun p hp => ?_, fun p hp => ?_⟩
        · rintro rfl
          have q1 := (N _ (.head _)).1
          have q2 := (N (1702, o17) (List.mem_cons_of_mem _ (List.mem_append_right _ (.head _)))).1
          dsimp only at q1 q2
          rw [q1] at q2
          obtain ⟨e, _⟩ := hps
          rw [e] at q2
          cases q2
        · simp only [List.mem_append, List.mem_cons] at hp ⊢
          rcases hp with hp | rfl | rfl | hp
          · exact .inr (.inl hp)
          · exact .inr (.inr (.inl rfl))
          · exact .inl rfl
          · exact .inr (.inr (.inr (.inr hp)))
        · simp only [List.mem_cons] at hp
          rcases hp with rfl | rfl | hp
          · exact hI17
          · intro e
            obtain ⟨o, ho⟩ := hlive
            exact hD _ (List.mem_append_left _ ho) e.symm
          · exact hnI p (.tail _ (.tail _ hp))
  · clear F N hr
    rintro m nw gs₁ h₁ tk₁ ⟨wu, ρ', o17, ps, wvs, nwd, ge, rfl, hps, hW, hwu, rfl⟩ F N
    repeat' tb_start
    have h17 : h₁.get? 1702 = some o17 := N.get (.head _)
    refine H _ _ _ ⟨fun b ob q => ?_, fun b ob q => ?_⟩ ge
    · by_cases hb2 : b = 1702
      · subst hb2
        rw [ht] at q
        cases q
        obtain ⟨e5, _⟩ := hps
        exact .inr (.inl ⟨⟨1706, _, _, B₀.get (a := 1706) rfl, rfl, rfl, rfl⟩, rfl, #[], ps, rfl, by rw [h17, e5]; simp [ob1702]⟩)
      · exact .inl (F.keep _ _ (hideAll_get _ q (by simpa using hb2)))
    · by_cases hb2 : b = 1702
      · subst hb2
        exact ⟨_, h17⟩
      · exact ⟨_, F.keep _ _ (hideAll_get _ q (by simpa using hb2))⟩
end
end

section
theorem nums_of {ls : List Int} (h : LetOk ls) : ∃ as : List UInt8, as.Nodup ∧ ls = numsOf as := by
  have e : ∀ l ∈ ls, (((UInt8.ofNat l.toNat).toNat : Nat) : Int) = l := fun l hl => by
    obtain ⟨a, b⟩ := h.2 l hl
    rw [UInt8.toNat_ofNat', Nat.mod_eq_of_lt (by omega)]
    omega
  have e2 : ls = numsOf (ls.map fun l => UInt8.ofNat l.toNat) := by
    unfold numsOf
    rw [List.map_map]
    refine (List.map_id' ls).symm.trans (List.map_congr_left fun l hl => ?_)
    exact (e l hl).symm
  refine ⟨ls.map fun l => UInt8.ofNat l.toNat, ?_, e2⟩
  have hn := h.1
  rw [e2] at hn
  exact hn.of_map _ fun a b q => by rintro rfl; exact q rfl
section
variable {w : World} {A : Around} {E : Value → Shared → Prop} {gs : Array GenState} {dr : Drawn} {tk : Nat} {os : OsState} {h : Heap} {Q : Value → Shared → Prop}
theorem law_call3 {sc : Addr} {vs : List Value} {ns : List Int} (B : Base w h) (K0 : ∀ g, Below A g [] g) (hd : A.depth + 130 < recursionLimit) (hu : A.units + 170 < cLine) (hh : A.handled = none) (hsc : Heap.IsList h sc vs.toArray) (hi : IntsAre vs ns) (hl : ns.length ≤ 63)
    (ht : h.get? 1702 = some (ob1702 w.params)) (H : ∀ h' tk' gs', OldK h h' → GExt gs gs' → Q (.bool true) ⟨h', gs', dr, tk', os⟩) : wpAny (model pw w) A (call (.ref 1816) [.ref sc]) Q E ⟨h, gs, dr, tk, os⟩ := by
  refine l3_enter B (by omega) fun h₁ L tk' oc hL F N hoc => ?_
  have hh' : (A.deeper (envL3 L)).handled = none := hh
  have hdd : (A.deeper (envL3 L)).depth = A.depth + 1 := rfl
  have hvl := hi.length
  show wpAny _ _ (execs (fdB (sAt 49)) _) _ _ _
  refine wpAny_execs_cons ?_
  repeat' tb_start
  refine x_slg (k := 7) F N (let ⟨o, q, r⟩ := hsc; ⟨o, F.keep _ _ q, r⟩) hi .none (.int _ _) (by omega) (pick_size0 vs (b := 7)) (fun _ => by with_unfolding_all rfl) (fun _ => by with_unfolding_all rfl) fun h₂ C c7 m7 hm7 hc7 hC F₂ N₂ => ?_
  clear F N
  have F := F₂
  have N := N₂
  clear F₂ N₂
  repeat' tb_start
  rename_i t0 _ t1 _ _ uA _ _ un hun _ _ _ _ _ _
  refine x_slg (k := 5) F N (let ⟨o, q, r⟩ := hsc; ⟨o, F.keep _ _ q, r⟩) hi (.int _ _) (.int _ _) (by omega) (pick_size vs (a := 2) (b := 7)) (fun _ => by with_unfolding_all rfl) (fun _ => by with_unfolding_all rfl) fun h₂ C2 c5 m5 hm5 hc5 hC2 F₂ N₂ => ?_
  clear F N
  have F := F₂
  have N := N₂
  clear F₂ N₂
  repeat' tb_start
  refine letters_call (B.keeps F.keep) (by rw [hdd]; omega) hh' (N.get (.head _)) hm5 (by rw [← hm5.length]; exact hc5) fun h₃ tk₃ ul ws ls nl k₃ X₃ hws hok h3 h5 => ?_
  have hu1 : ul ≠ L + 1 := fun e => by
    have q1 := (X₃ (ul, lob ws nl) (.head _)).2
    have q2 := (N (L + 1, oc) (by simp)).1
    rw [← e] at q2
    dsimp only at q1
    rw [q1] at q2
    cases q2
  have hu2 : un ≠ L + 1 := fun e => hun (L + 1, oc) (by simp) e.symm
  replace N := news_sub (T := [(ul, lob ws nl), (un, lob (c7 ++ [Value.int 0 t0, Value.int 0 t1]) 0)] ++ [(L + 1, oc)]) (news_adds F N k₃ X₃) (fun p hp => by simp at hp ⊢; rcases hp with rfl | rfl | rfl <;> simp)
  replace F := F.keeps k₃
  refine xe_cstore (by rfl) (by rfl) (by rfl) F N hoc (fun p hp => by simp at hp; rcases hp with rfl | rfl <;> assumption) fun h₄ o₄ ho₄ F₄ N₄ => ?_
  clear F N
  have F := F₄
  have N := N₄
  clear F₄ N₄
  have hwl := hws.length
  refine wpAny_execs_cons (wpAny_mono (Q := fun fl s => fl = .next ∧ ∃ h' tk' lg tl, (lg = 3 ∨ lg = 4) ∧ s = ⟨h', gs, dr, tk', os⟩ ∧ Fr h L h' (look ([(Str.ofString "longest", .int ((lg : Nat) : Int) tl), (Str.ofString "numbers", Value.ref un), (Str.ofString "script", Value.ref sc)])) ∧ News h L h' ([(ul, lob ws nl), (un, lob (c7 ++ [Value.int 0 t0, Value.int 0 t1]) 0)] ++ [(L + 1, o₄)])) ?_ ?_ fun _ _ e => e)
  · repeat' tb_start
    · exact ⟨rfl, _, _, 4, _, .inr rfl, rfl, F, N⟩
    · exact ⟨rfl, _, _, 3, _, .inl rfl, rfl, F, N⟩
  rintro fl s2 ⟨rfl, h₅, tk₅, lg, tl, hlg, rfl, F₅, N₅⟩
  clear F N
  have F := F₅
  have N := N₅
  clear F₅ N₅
  dsimp only
  refine wpAny_execs_cons (wpAny_mono (Q := fun fl s => fl = .next ∧ ∃ h' tk' ut st, s = ⟨h', gs, dr, tk', os⟩ ∧ Fr h L h' (look ([(Str.ofString "kind", .ref ut), (Str.ofString "longest", .int ((lg : Nat) : Int) tl), (Str.ofString "numbers", Value.ref un), (Str.ofString "script", Value.ref sc)])) ∧ News h L h' ((ut, tob [.str (Str.ofString "any") st]) :: ([(ul, lob ws nl), (un, lob (c7 ++ [Value.int 0 t0, Value.int 0 t1]) 0)] ++ [(L + 1, o₄)]))) ?_ ?_ fun _ _ e => e)
  · repeat' tb_start
    exact ⟨rfl, _, _, _, _, rfl, F, N⟩
  rintro fl s2 ⟨rfl, h₆, tk₆, ut, st, rfl, F₆, N₆⟩
  clear F N
  have F := F₆
  have N := N₆
  clear F₆ N₆
  dsimp only
  refine wpAny_execs_cons (wpAny_mono (Q := fun fl s => fl = .next ∧ ∃ h' tk', s = ⟨h', gs, dr, tk', os⟩ ∧ Fr h L h' (look ([(Str.ofString "sedes", .none), (Str.ofString "kind", .ref ut), (Str.ofString "longest", .int ((lg : Nat) : Int) tl), (Str.ofString "numbers", Value.ref un), (Str.ofString "script", Value.ref sc)])) ∧ News h L h' ((ut, tob [.str (Str.ofString "any") st]) :: ([(ul, lob ws nl), (un, lob (c7 ++ [Value.int 0 t0, Value.int 0 t1]) 0)] ++ [(L + 1, o₄)]))) ?_ ?_ fun _ _ e => e)
  · repeat' tb_start
    exact ⟨rfl, _, _, rfl, F, N⟩
  rintro fl s2 ⟨rfl, h₆, tk₆, rfl, F₆, N₆⟩
  clear F N
  have F := F₆
  have N := N₆
  clear F₆ N₆
  dsimp only
  have hnn := ints_app hm7 (.cons 0 t0 (.cons 0 t1 .nil))
  have hnl : (m7 ++ [0, 0]).length ≥ 2 := by simp
  obtain ⟨u0, e0⟩ := ints_get hnn 0 (by omega)
  obtain ⟨u1, e1⟩ := ints_get hnn 1 (by omega)
  generalize (m7 ++ [0, 0]).getD 0 0 = n0 at e0
  generalize (m7 ++ [0, 0]).getD 1 0 = n1 at e1
  generalize c7 ++ [Value.int 0 t0, Value.int 0 t1] = cn7 at e0 e1 N
  refine wpAny_execs_cons (wpAny_mono (Q := fun fl s => fl = .next ∧ ∃ h' tk' K kv sv T m ρ', s = ⟨h', gs, dr, tk', os⟩ ∧ ARep T kv K ∧ SV T K sv ∧ look ([(Str.ofString "sedes", sv), (Str.ofString "kind", kv), (Str.ofString "longest", .int ((lg : Nat) : Int) tl)] ++ ρ') = m ∧ Fr h L h' m ∧ News h L h' ((L + 1, o₄) :: (ul, lob ws nl) :: T)) ?_ ?_ fun _ _ e => e)
  · refine wpAny_If ?_
    repeat' tb_start
    · refine kind_call 2 (B.keeps F.keep) (by rw [hdd]; omega) hh' fun h₇ tk₇ kv Tk k₇ X₇ Rk => ?_
      have Nk := news_adds F N k₇ X₇
      replace N := Nk
      replace F := F.keeps k₇
      repeat' tb_start
      have hdep := kindF_dep 2 (n0 / 6) n1
      refine sedes_call (kindF 2 (n0 / 6) n1) (kindF_ok 2 _ _ (by omega)) (B.keeps F.keep) (by rw [hdd]; omega) hh' Rk (fun p hp => (N p (List.mem_append_left _ hp)).1) fun h₈ tk₈ x Tx k₈ X₈ Sx => ?_
      replace N := news_adds F N k₈ X₈
      replace F := F.keeps k₈
      repeat' tb_start
      refine ⟨rfl, _, _, some (kindF 2 (n0 / 6) n1), _, _, Tx ++ Tk, _, _, rfl, Rk.mono fun p hp => List.mem_append_right _ hp, ⟨x, rfl, Sx.mono fun p hp => List.mem_append_left _ hp, kindF_ok 2 _ _ (by omega), hdep⟩, look_front (Has.all (by tb_rel)), F, news_sub N fun p hp => ?_⟩
      simp only [List.mem_cons, List.mem_append] at hp ⊢
      rcases hp with rfl | rfl | hp | hp
      · simp
      · simp
      · exact .inl hp
      · exact .inr (.inl hp)
    · exact ⟨rfl, _, _, none, _, _, _, _, _, rfl, ⟨ut, st, rfl, .head _⟩, rfl, rfl, F, news_sub N (T := (L + 1, o₄) :: (ul, lob ws nl) :: [(ut, tob [.str (Str.ofString "any") st])]) (fun p hp => by simp at hp ⊢; rcases hp with rfl | rfl | rfl <;> simp)⟩
  rintro fl s2 ⟨rfl, h₆, tk₆, K, kv, sv, T, m, ρ', rfl, RA, RS, rfl, F₆, N₆⟩
  clear F N
  have F := F₆
  have N := N₆
  clear F₆ N₆
  dsimp only
  refine wpAny_execs_cons (wpAny_mono (Q := fun fl s => fl = .next ∧ ∃ h' tk' wu tb m ρ'', s = ⟨h', gs, dr, tk', os⟩ ∧ look ([(Str.ofString "words", Value.ref wu), (Str.ofString "sedes", sv), (Str.ofString "kind", kv), (Str.ofString "longest", .int ((lg : Nat) : Int) tl)] ++ ρ'') = m ∧ Fr h L h' m ∧ News h L h' ((wu, lob [.bytes ([] : List UInt8).toArray tb] 0) :: (L + 1, o₄) :: (ul, lob ws nl) :: T)) ?_ ?_ fun _ _ e => e)
  · repeat' tb_start
    exact ⟨rfl, _, _, _, _, _, _, rfl, look_front (Has.all (by tb_rel)), F, N⟩
  rintro fl s2 ⟨rfl, h₇, tk₇, wu, tb, m, ρ'', rfl, rfl, F₇, N₇⟩
  obtain ⟨as, hn, rfl⟩ := nums_of hok
  exact law_loop B K0 hd hu hh ht RA RS hn hws (by simpa using h5) hlg ho₄ F₇ N₇ H
end
end

section
open PySem PySem.W PySem.W.X PySem.Calls PyProof.Rows
theorem walk03 : ∀ {d : DefRec} {kwd : List (Str × Expr)}, defOf qv (Str.ofString "law") = some (d, kwd) → d.name = Str.ofString "law" → WalkX qv lse (fun _ _ => True) Yf Ya PySem.Challenge.rw_ff0024_03.row.toRowW d kwd fun f vs => PySem.call f vs := by
  intro d kwd hdef hname
  intro w s₀ s₁ mg mb G Y fa o pm cd doc dV kV ho hd hcd hD hmg hg args vals as L hpre hlay hrd hwl hlo
  wrow_args hpre hlay hrd hwl hlo
  rename_i ns _ _ _ _ _ _ _ sc vs _ hsc _ _ _ hi _ hlen _
  have B : Base w s₁.heap := base_of G Y L.keeps
  have hfa : fa = 1816 := by
    obtain ⟨mg', h1, h2, _⟩ := B.g
    have e : mg' = mg := h1.eq_nsMap.trans G.T.g.eq_nsMap.symm
    have := h2 (Str.ofString "law", .ref 1816) (by decide)
    rw [e] at this
    rw [hname] at hmg
    have := hmg.symm.trans this
    injection this with this
    injection this
  subst hfa
  have ht : s₁.heap.get? 1702 = some (ob1702 w.params) := L.keeps _ _ (tab_of Y)
  have hl : ns.length ≤ 63 := by omega
  have hgs : AllBare s₁.gens := .of_eq hg
  obtain ⟨h, gs, dr, tk, os⟩ := s₁
  show wpAny (model pw w) callerA (call (.ref 1816) [.ref sc]) _ _ _
  refine law_call3 B (fun g => below_caller g) (by decide) (by decide) rfl hsc hi hl ht fun h' tk' gs' hold ge => ?_
  refine ⟨.inl ⟨.bool true, .bool true, [], rfl, fun _ => rfl, ?_, ?_, ?_⟩, hold, rfl, fun y hy => ge.bare hgs y hy⟩
  · first | exact .bool true | exact ReadsW.bool true | exact .bool
  · first | with_unfolding_all rfl | kernel_rfl | (simp [PySem.Challenge.rw_ff0024_03]; done) | decide
  · exact fun _ => ⟨.nil, fun _ h => nomatch h⟩
theorem law_holds : PySem.Challenge.rw_ff0024_03.Holds := by
  w_on
  o_law
  refine holds_openX (q := qv) (loose := lse) (Xt := Xt) (XP := fun _ _ => True) (Yf := Yf) (Ya := Ya) (N := 60000) left (fun _ _ => trivial) (fun _ _ _ _ _ => trivial) (by rfl) (by rfl) (by rfl) (fun s e => recFacts_of e) (by rfl) (by assumption) (by k_qdec) ⟨rfl, rfl, rfl, rfl, rfl, by decide +kernel⟩ ?hw ?hc
  case hw => w_witness2
  exact walk03 rfl rfl
end
end Mine
end
open PySem PySem.W PyProof.Rows
set_option maxRecDepth 100000 in
set_option maxHeartbeats 0 in
theorem PySem.Challenge.cw_ff0024_03_holds : PySem.Challenge.rw_ff0024_03.Holds := by
  exact Mine.law_holds
