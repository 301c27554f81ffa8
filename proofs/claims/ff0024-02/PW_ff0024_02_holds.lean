import PyProof.Rows.All
import PyProof.OldK
import PyProof.CallStr
import PyProof.CompFree
import PyProof.NeKinds
import PyProof.P3Eq
import PyProof.ExcBaseAll.Exception
import PyProof.ExcInit
import PyProof.ExcStr
import PyProof.WalksMore
import PyProof.GenArm
import PyProof.GenQ
import PyProof.GenCompD
import PyProof.ListNew
import PyProof.ListIndexNeg
import PyProof.RulesAs
import PyProof.Rows.TupSub
import PyProof.Rows.GenSrc
import PyProof.SliceMore
import PyProof.Rows.SeqSliceW
import PyProof.Rows.SortStr
import KE.BytesMul
import KE.KAnyBase
import KE.KListMore
import KE.KFmtOwn
import KE.KIsAll
import KE.KSetAt
import KE.KToBytes
import Wide.FinOn
import OpenK.AllK
import Wide.All
import Lean
import PySem.Challenge.RW_ff0024_02
open PySem PySem.W PyProof.Rows
set_option Elab.async false
section
open PySem PySem.W PyProof.Rows
set_option Elab.async false
set_option maxRecDepth 100000
set_option maxHeartbeats 0
namespace Mine
noncomputable section
abbrev pw : Program := PySem.Challenge.pw_ff0024_02
def env : Env := { scope := pw.main.scope, locals := mainNs, globals := mainNs, cells := [], code := .ref 13, frame := some 14 }
def cE : Code := .body (behindTheImports pw) env
def B : List Frame := [topFrame default]
def ann : Option Value := some (.ref 6)
def stA : Stmt := ((behindTheImports pw)[10]?).getD (.Pass default)
/-- the list comprehension of row ALL_BYTES -/
def compOf : Stmt → PySem.Expr
  | .Assign _ (.Call _ (e :: _) _ _) _ => e
  | _ => .Constant .none 0 default
def scopeOf : PySem.Expr → Scope
  | .ListComp _ _ s _ => s
  | _ => pw.main.scope
def cenv : Env := { scope := scopeOf (compOf stA), locals := 166, globals := mainNs, cells := [], qual := Str.empty, func := none, code := .ref 13, frame := some 14 }
def loopC : Code := .compLoop (compOf stA) 0 (.ref 164) (.ref 165) cenv
def itemB (i : Nat) : Value := .bytes #[i.toUInt8] (397 + 3 * i)
def accO (j : Nat) : Obj := { cls := .type "list", data := .seq ((List.range j).map itemB).toArray j }
def itO (j : Nat) : Obj := { cls := .type "range_iterator", data := .fields #[.int (Int.ofNat j) 0, .int (Int.ofNat (256 - j)) 0, .int 1 0] }
def locO (P : Params) (j : Nat) : Obj := { cls := .type "dict", data := .dict #[⟨PyData.keyHash P (Str.ofString "i"), .str (Str.ofString "i") 396, .int (Int.ofNat (j - 1)) (395 + 3 * (j - 1))⟩] 1 }
def junkO (a i : Nat) : Nat → Obj
  | 0 => { cls := .type "list", data := .seq #[.int (Int.ofNat i) (395 + 3 * i)] }
  | 1 => { cls := .type "list_iterator", data := .fields #[.none, .int 1 0] }
  | 2 => { cls := .type "bytearray", data := .bytearray #[i.toUInt8] }
  | 3 => { cls := .type "tuple", data := .seq #[] }
  | _ => { cls := .type "StopIteration", data := .fields #[.ref (a - 1), .none, .none, .none, .bool false, .none] }
def rngO : Obj := { cls := .type "range", data := .fields #[.int 0 393, .int 256 392, .int 1 394] }
/-- the objects behind turn j -/
def fL (P : Params) (o : Nat → Obj) (j : Nat) (a : Nat) : Obj :=
  @Bool.rec (fun _ => Obj)
    (@Bool.rec (fun _ => Obj)
      (@Bool.rec (fun _ => Obj)
        (@Bool.rec (fun _ => Obj)
          (@Bool.rec (fun _ => Obj)
            (@Bool.rec (fun _ => Obj) (o a) (locO P j) (Nat.beq a 166))
            (accO j) (Nat.beq a 165))
          (itO j) (Nat.beq a 164))
        rngO (Nat.beq a 163))
      (o a) (Nat.blt a 163))
    (junkO a ((a - 167) / 5) ((a - 167) % 5)) (Nat.ble 167 a)
def mkT (f : Nat → Obj) (n : Nat) : Nat → Nat → Nat → BT
  | 0, _, _ => .nil
  | k + 1, a, b => @Bool.rec (fun _ => BT) .nil (.node (f b) (mkT f n k (2 * a) (a + b)) (mkT f n k (2 * a) (2 * a + b))) (Nat.blt b n)
def mainO (P : Params) : Obj := { cls := .type "dict", data := .dict #[
  ⟨PyData.keyHash P (Str.ofString "__name__"), .str (Str.ofString "__name__") 165, .str (Str.ofString "rlp.utils") 390⟩,
  ⟨PyData.keyHash P (Str.ofString "__doc__"), .str (Str.ofString "__doc__") 166, .none⟩,
  ⟨PyData.keyHash P (Str.ofString "__package__"), .str (Str.ofString "__package__") 167, .none⟩,
  ⟨PyData.keyHash P (Str.ofString "__loader__"), .str (Str.ofString "__loader__") 168, .builtin "__main__.__loader__#opaque"⟩,
  ⟨PyData.keyHash P (Str.ofString "__spec__"), .str (Str.ofString "__spec__") 169, .none⟩,
  ⟨PyData.keyHash P (Str.ofString "__annotations__"), .str (Str.ofString "__annotations__") 170, .ref 6⟩,
  ⟨PyData.keyHash P (Str.ofString "__builtins__"), .str (Str.ofString "__builtins__") 171, .ref 4⟩,
  ⟨PyData.keyHash P (Str.ofString "__file__"), .str (Str.ofString "__file__") 173, .str (Str.ofString "/claim/cut.py") 172⟩,
  ⟨PyData.keyHash P (Str.ofString "__cached__"), .str (Str.ofString "__cached__") 174, .none⟩,
  ⟨PyData.keyHash P (Str.ofString "_wall"), .str (Str.ofString "_wall") 193, .ref 21⟩,
  ⟨PyData.keyHash P (Str.ofString "RLPException"), .str (Str.ofString "RLPException") 215, .ref 31⟩,
  ⟨PyData.keyHash P (Str.ofString "EncodingError"), .str (Str.ofString "EncodingError") 243, .ref 53⟩,
  ⟨PyData.keyHash P (Str.ofString "DecodingError"), .str (Str.ofString "DecodingError") 271, .ref 74⟩,
  ⟨PyData.keyHash P (Str.ofString "SerializationError"), .str (Str.ofString "SerializationError") 299, .ref 95⟩,
  ⟨PyData.keyHash P (Str.ofString "ListSerializationError"), .str (Str.ofString "ListSerializationError") 330, .ref 117⟩,
  ⟨PyData.keyHash P (Str.ofString "DeserializationError"), .str (Str.ofString "DeserializationError") 358, .ref 138⟩,
  ⟨PyData.keyHash P (Str.ofString "ListDeserializationError"), .str (Str.ofString "ListDeserializationError") 389, .ref 160⟩] 17 }
def mainO' (P : Params) : Obj := { cls := .type "dict", data := .dict #[
  ⟨PyData.keyHash P (Str.ofString "__name__"), .str (Str.ofString "__name__") 165, .str (Str.ofString "rlp.utils") 390⟩,
  ⟨PyData.keyHash P (Str.ofString "__doc__"), .str (Str.ofString "__doc__") 166, .none⟩,
  ⟨PyData.keyHash P (Str.ofString "__package__"), .str (Str.ofString "__package__") 167, .none⟩,
  ⟨PyData.keyHash P (Str.ofString "__loader__"), .str (Str.ofString "__loader__") 168, .builtin "__main__.__loader__#opaque"⟩,
  ⟨PyData.keyHash P (Str.ofString "__spec__"), .str (Str.ofString "__spec__") 169, .none⟩,
  ⟨PyData.keyHash P (Str.ofString "__annotations__"), .str (Str.ofString "__annotations__") 170, .ref 6⟩,
  ⟨PyData.keyHash P (Str.ofString "__builtins__"), .str (Str.ofString "__builtins__") 171, .ref 4⟩,
  ⟨PyData.keyHash P (Str.ofString "__file__"), .str (Str.ofString "__file__") 173, .str (Str.ofString "/claim/cut.py") 172⟩,
  ⟨PyData.keyHash P (Str.ofString "__cached__"), .str (Str.ofString "__cached__") 174, .none⟩,
  ⟨PyData.keyHash P (Str.ofString "_wall"), .str (Str.ofString "_wall") 193, .ref 21⟩,
  ⟨PyData.keyHash P (Str.ofString "RLPException"), .str (Str.ofString "RLPException") 215, .ref 31⟩,
  ⟨PyData.keyHash P (Str.ofString "EncodingError"), .str (Str.ofString "EncodingError") 243, .ref 53⟩,
  ⟨PyData.keyHash P (Str.ofString "DecodingError"), .str (Str.ofString "DecodingError") 271, .ref 74⟩,
  ⟨PyData.keyHash P (Str.ofString "SerializationError"), .str (Str.ofString "SerializationError") 299, .ref 95⟩,
  ⟨PyData.keyHash P (Str.ofString "ListSerializationError"), .str (Str.ofString "ListSerializationError") 330, .ref 117⟩,
  ⟨PyData.keyHash P (Str.ofString "DeserializationError"), .str (Str.ofString "DeserializationError") 358, .ref 138⟩,
  ⟨PyData.keyHash P (Str.ofString "ListDeserializationError"), .str (Str.ofString "ListDeserializationError") 389, .ref 160⟩,
  ⟨PyData.keyHash P (Str.ofString "ALL_BYTES"), .str (Str.ofString "ALL_BYTES") 1163, .ref 1450⟩] 18 }

/-- the objects below 163 where the loop stands: the built-ins, the globals, and what o says -/
def oo (M : Params → Obj) (P : Params) (o : Nat → Obj) (a : Nat) : Obj := @Bool.rec (fun _ => Obj) (@Bool.rec (fun _ => Obj) (o a) (M P) (Nat.beq a 3)) (boot_o_0 P) (Nat.beq a 0)
def stL (w : World) (os : OsState) (o : Nat → Obj) (j : Nat) : SharedT := ⟨mkT (fL w.params (oo mainO w.params o) j) (167 + 5 * j) 12 1 0, 167 + 5 * j, {}, #[], {}, 395 + 3 * j, os⟩
def thL (k : Result → Sem Fin) (g : Bool) (l : List Value) (c : Code) (p : Pos) (kp : List Value) : Thread :=
  ⟨.pure (.again loopC), loopC, ⟨48, 19, 48, 29⟩, .ret k none g l c p kp :: B⟩
def EL (n : Nat) (w : World) (os : OsState) (o : Nat → Obj) (j : Nat) (k : Result → Sem Fin) (g : Bool) (l : List Value) (c : Code) (p : Pos) (kp : List Value) :=
  segGoT treeTable pw w 11 ann 1 n (stL w os o j) (thL k g l c p kp)
def ER (w : World) (os : OsState) (o : Nat → Obj) (j : Nat) (k : Result → Sem Fin) (g : Bool) (l : List Value) (c : Code) (p : Pos) (kp : List Value) :=
  some (stL w os o j, thL k g l c p kp)
/-- ahead of the row -/
def st10 (w : World) (os : OsState) (o : Nat → Obj) : SharedT := ⟨mkT (oo mainO w.params o) 163 12 1 0, 163, {}, #[], {}, 392, os⟩
def EA (n : Nat) (w : World) (os : OsState) (o : Nat → Obj) := segGoT treeTable pw w 11 ann 1 n (st10 w os o) (pieceOf stA env cE ⟨47, 0, 47, 8⟩ B)
def frOf : Option (SharedT × Thread) → (Result → Sem Fin) × Bool × List Value × Code × Pos × List Value
  | some (_, ⟨_, _, _, .ret k _ g l c p kp :: _⟩) => (k, g, l, c, p, kp)
  | _ => (fun _ => .unsupported "", false, [], cE, default, [])
def EAR (n : Nat) (w : World) (os : OsState) (o : Nat → Obj) :=
  let x := frOf (EA n w os o)
  some (stL w os o 1, thL x.1 x.2.1 x.2.2.1 x.2.2.2.1 x.2.2.2.2.1 x.2.2.2.2.2)
/-- the objects behind the row -/
def f11 (P : Params) (o : Nat → Obj) (a : Nat) : Obj :=
  @Bool.rec (fun _ => Obj)
    (@Bool.rec (fun _ => Obj)
      (@Bool.rec (fun _ => Obj) (fL P o 256 a) { cls := .type "dict", data := .dict #[] 2 } (Nat.beq a 166))
      (@Bool.rec (fun _ => Obj)
        (@Bool.rec (fun _ => Obj)
          (@Bool.rec (fun _ => Obj) { cls := .type "tuple", data := .seq ((List.range 256).map itemB).toArray } { cls := .type "list", data := .seq ((List.range 256).map itemB).toArray 1 } (Nat.beq a 1449))
          { cls := .type "StopIteration", data := .fields #[.ref 1447, .none, .none, .none, .bool false, .none] } (Nat.beq a 1448))
        { cls := .type "tuple", data := .seq #[] } (Nat.beq a 1447))
      (Nat.ble 1447 a))
    (oo mainO' P o a) (Nat.blt a 163)
def st11 (w : World) (os : OsState) (o : Nat → Obj) : SharedT := ⟨mkT (f11 w.params o) 1451 12 1 0, 1451, {}, #[], {}, 1164, os⟩
def EC (n m : Nat) (w : World) (os : OsState) (o : Nat → Obj) :=
  let x := frOf (EA m w os o)
  segRunT treeTable pw w 11 ann 1 n (stL w os o 256) (thL x.1 x.2.1 x.2.2.1 x.2.2.2.1 x.2.2.2.2.1 x.2.2.2.2.2)
def ECR (w : World) (os : OsState) (o : Nat → Obj) := some (Flow.next, st11 w os o, cE, (⟨48, 0, 48, 9⟩ : Pos))

def S0 (w : World) (os : OsState) : Shared := ⟨boot_heap w.params, #[], boot_drawn, boot_toks, os⟩
def treeOf : List Obj → Nat → BT → BT
  | [], _, T => T
  | o :: l, n, T => treeOf l (n + 1) (T.ins n o)
def G0 (w : World) (os : OsState) : Option (Shared × Thread) := topGo treeTable pw w 11 ann 12 (S0 w os) (topStub pw)
def toT (s : Shared) : SharedT := ⟨treeOf s.heap.objs.toList 0 .nil, s.heap.objs.size, s.heap.life, s.gens, s.drawn, s.toks, s.os⟩
def Sb (w : World) (os : OsState) : SharedT := match G0 w os with
  | some (s, _) => toT s
  | none => ⟨.nil, 0, {}, #[], {}, 0, os⟩
def G0R (w : World) (os : OsState) : Option (Shared × Thread) := some ((Sb w os).abs, ⟨denote treeTable cE, cE, default, B⟩)
def sts (i n : Nat) : List Stmt := ((behindTheImports pw).drop i).take n
def Bk (w : World) (os : OsState) := segRunT treeTable pw w 11 ann 1 1 (Sb w os) (blockOf (behindTheImports pw) env cE default B)
def BkR (w : World) (os : OsState) := some (Flow.next, Sb w os, cE, (default : Pos))
def R1 (w : World) (os : OsState) := segRunT treeTable pw w 11 ann 1 3000 (Sb w os) (piecesOf (sts 0 10) env cE default B)
/-- the objects behind the first ten rows -/
def o10 (w : World) (os : OsState) (a : Nat) : Obj := match R1 w os with
  | some x => (x.2.1.tree.get a).getD default
  | none => default
def R1R (w : World) (os : OsState) := some (Flow.next, st10 w os (o10 w os), cE, (⟨47, 0, 47, 8⟩ : Pos))
def R3 (w : World) (os : OsState) := segRunT treeTable pw w 11 ann 1 6000 (st11 w os (o10 w os)) (piecesOf (sts 11 36) env cE ⟨48, 0, 48, 9⟩ B)

def sAt (i : Nat) : Stmt := ((behindTheImports pw)[i]?).getD (.Pass default)
def clsB : Stmt → List Stmt
  | .ClassDef _ _ _ b _ _ _ _ _ _ _ => b
  | _ => []
def mAt (i j : Nat) : Stmt := ((clsB (sAt i))[j]?).getD (.Pass default)
def fdA : Stmt → Arguments
  | .FunctionDef _ a _ _ _ _ _ _ _ _ => a
  | _ => default
def fdB : Stmt → List Stmt
  | .FunctionDef _ _ b _ _ _ _ _ _ _ => b
  | _ => []
def fdS : Stmt → Scope
  | .FunctionDef _ _ _ _ _ _ s _ _ _ => s
  | _ => pw.main.scope
def ob2 (P : Params) : Obj := { cls := .none, dict := none, data := .dict #[⟨PyData.keyHash P (Str.ofString "type.__subclasses__.Exception.0"), (.str (Str.ofString "type.__subclasses__.Exception.0") 212), (.int 31 0)⟩, ⟨PyData.keyHash P (Str.ofString "type.__subclasses__.Exception.n"), (.str (Str.ofString "type.__subclasses__.Exception.n") 213), (.int 1 0)⟩] 2, slots := #[] }
def ob3 (P : Params) : Obj := { cls := (.type "dict"), dict := none, data := .dict #[⟨PyData.keyHash P (Str.ofString "__name__"), (.str (Str.ofString "__name__") 165), (.str (Str.ofString "law_ff0024_02") 1644)⟩, ⟨PyData.keyHash P (Str.ofString "__doc__"), (.str (Str.ofString "__doc__") 166), .none⟩, ⟨PyData.keyHash P (Str.ofString "__package__"), (.str (Str.ofString "__package__") 167), .none⟩, ⟨PyData.keyHash P (Str.ofString "__loader__"), (.str (Str.ofString "__loader__") 168), (.builtin "__main__.__loader__#opaque")⟩, ⟨PyData.keyHash P (Str.ofString "__spec__"), (.str (Str.ofString "__spec__") 169), .none⟩, ⟨PyData.keyHash P (Str.ofString "__annotations__"), (.str (Str.ofString "__annotations__") 170), (.ref 6)⟩, ⟨PyData.keyHash P (Str.ofString "__builtins__"), (.str (Str.ofString "__builtins__") 171), (.ref 4)⟩, ⟨PyData.keyHash P (Str.ofString "__file__"), (.str (Str.ofString "__file__") 173), (.str (Str.ofString "/claim/cut.py") 172)⟩, ⟨PyData.keyHash P (Str.ofString "__cached__"), (.str (Str.ofString "__cached__") 174), .none⟩, ⟨PyData.keyHash P (Str.ofString "_wall"), (.str (Str.ofString "_wall") 193), (.ref 21)⟩, ⟨PyData.keyHash P (Str.ofString "RLPException"), (.str (Str.ofString "RLPException") 215), (.ref 31)⟩, ⟨PyData.keyHash P (Str.ofString "EncodingError"), (.str (Str.ofString "EncodingError") 243), (.ref 53)⟩, ⟨PyData.keyHash P (Str.ofString "DecodingError"), (.str (Str.ofString "DecodingError") 271), (.ref 74)⟩, ⟨PyData.keyHash P (Str.ofString "SerializationError"), (.str (Str.ofString "SerializationError") 299), (.ref 95)⟩, ⟨PyData.keyHash P (Str.ofString "ListSerializationError"), (.str (Str.ofString "ListSerializationError") 330), (.ref 117)⟩, ⟨PyData.keyHash P (Str.ofString "DeserializationError"), (.str (Str.ofString "DeserializationError") 358), (.ref 138)⟩, ⟨PyData.keyHash P (Str.ofString "ListDeserializationError"), (.str (Str.ofString "ListDeserializationError") 389), (.ref 160)⟩, ⟨PyData.keyHash P (Str.ofString "ALL_BYTES"), (.str (Str.ofString "ALL_BYTES") 1163), (.ref 1450)⟩, ⟨PyData.keyHash P (Str.ofString "is_bytes"), (.str (Str.ofString "is_bytes") 1170), (.ref 1457)⟩, ⟨PyData.keyHash P (Str.ofString "big_endian_to_int"), (.str (Str.ofString "big_endian_to_int") 1177), (.ref 1464)⟩, ⟨PyData.keyHash P (Str.ofString "int_to_big_endian"), (.str (Str.ofString "int_to_big_endian") 1184), (.ref 1471)⟩, ⟨PyData.keyHash P (Str.ofString "BigEndianInt"), (.str (Str.ofString "BigEndianInt") 1232), (.ref 1503)⟩, ⟨PyData.keyHash P (Str.ofString "big_endian_int"), (.str (Str.ofString "big_endian_int") 1237), (.ref 1509)⟩, ⟨PyData.keyHash P (Str.ofString "Binary"), (.str (Str.ofString "Binary") 1337), (.ref 1570)⟩, ⟨PyData.keyHash P (Str.ofString "binary"), (.str (Str.ofString "binary") 1349), (.ref 1576)⟩, ⟨PyData.keyHash P (Str.ofString "Boolean"), (.str (Str.ofString "Boolean") 1387), (.ref 1601)⟩, ⟨PyData.keyHash P (Str.ofString "boolean"), (.str (Str.ofString "boolean") 1388), (.ref 1607)⟩, ⟨PyData.keyHash P (Str.ofString "is_sedes"), (.str (Str.ofString "is_sedes") 1397), (.ref 1614)⟩, ⟨PyData.keyHash P (Str.ofString "is_sequence"), (.str (Str.ofString "is_sequence") 1404), (.ref 1621)⟩, ⟨PyData.keyHash P (Str.ofString "List"), (.str (Str.ofString "List") 1469), (.ref 1660)⟩, ⟨PyData.keyHash P (Str.ofString "CountableList"), (.str (Str.ofString "CountableList") 1524), (.ref 1696)⟩, ⟨PyData.keyHash P (Str.ofString "encode_raw"), (.str (Str.ofString "encode_raw") 1537), (.ref 1707)⟩, ⟨PyData.keyHash P (Str.ofString "decode_raw"), (.str (Str.ofString "decode_raw") 1550), (.ref 1714)⟩, ⟨PyData.keyHash P (Str.ofString "encode"), (.str (Str.ofString "encode") 1562), (.ref 1722)⟩, ⟨PyData.keyHash P (Str.ofString "LONG_LENGTH"), (.str (Str.ofString "LONG_LENGTH") 1566), (.int 18446744073709551616 1565)⟩, ⟨PyData.keyHash P (Str.ofString "length_prefix"), (.str (Str.ofString "length_prefix") 1575), (.ref 1729)⟩, ⟨PyData.keyHash P (Str.ofString "SHORT_STRING"), (.str (Str.ofString "SHORT_STRING") 1579), (.int 184 1578)⟩, ⟨PyData.keyHash P (Str.ofString "consume_length_prefix"), (.str (Str.ofString "consume_length_prefix") 1591), (.ref 1736)⟩, ⟨PyData.keyHash P (Str.ofString "consume_payload"), (.str (Str.ofString "consume_payload") 1613), (.ref 1743)⟩, ⟨PyData.keyHash P (Str.ofString "consume_item"), (.str (Str.ofString "consume_item") 1625), (.ref 1750)⟩, ⟨PyData.keyHash P (Str.ofString "decode"), (.str (Str.ofString "decode") 1637), (.ref 1758)⟩, ⟨PyData.keyHash P (Str.ofString "infer_sedes"), (.str (Str.ofString "infer_sedes") 1643), (.ref 1763)⟩, ⟨PyData.keyHash P (Str.ofString "_law_sizes"), (.str (Str.ofString "_law_sizes") 1662), (.ref 1764)⟩, ⟨PyData.keyHash P (Str.ofString "_law_changed"), (.str (Str.ofString "_law_changed") 1668), (.ref 1769)⟩, ⟨PyData.keyHash P (Str.ofString "_law_around"), (.str (Str.ofString "_law_around") 1675), (.ref 1776)⟩, ⟨PyData.keyHash P (Str.ofString "_law_measured"), (.str (Str.ofString "_law_measured") 1681), (.ref 1781)⟩, ⟨PyData.keyHash P (Str.ofString "_law_compared"), (.str (Str.ofString "_law_compared") 1691), (.ref 1788)⟩, ⟨PyData.keyHash P (Str.ofString "law"), (.str (Str.ofString "law") 1697), (.ref 1793)⟩] 48, slots := #[] }
def ob4 (P : Params) : Obj := { cls := (.type "module"), dict := some 0, data := .plain, slots := #[] }
def ob5 (P : Params) : Obj := { cls := (.type "module"), dict := some 3, data := .plain, slots := #[] }
def ob30 (P : Params) : Obj := { cls := (.type "dict"), dict := none, data := .dict #[⟨PyData.keyHash P (Str.ofString "__module__"), (.str (Str.ofString "__module__") 203), (.str (Str.ofString "rlp.exceptions") 194)⟩, ⟨PyData.keyHash P (Str.ofString "__firstlineno__"), (.str (Str.ofString "__firstlineno__") 207), (.int 5 206)⟩, ⟨PyData.keyHash P (Str.ofString "__static_attributes__"), (.str (Str.ofString "__static_attributes__") 208), (.ref 29)⟩, ⟨PyData.keyHash P (Str.ofString "__weakref__"), (.str (Str.ofString "__weakref__") 210), (.ref 32)⟩, ⟨PyData.keyHash P (Str.ofString "__doc__"), (.str (Str.ofString "__doc__") 211), .none⟩] 3, slots := #[] }
def ob31 (P : Params) : Obj := { cls := (.type "type"), dict := none, data := .cls { name := (Str.ofString "RLPException"), bases := [(.type "Exception")], mro := [(.ref 31), (.type "Exception"), (.type "BaseException"), (.type "object")], ns := 30, qualname := (Str.ofString "RLPException"), hasDict := true, slotNames := [], subclasses := [(.ref 53), (.ref 74), (.ref 95), (.ref 138)], abstract := false, collection := none, hasDel := false }, slots := #[some (.ref 22), none, some (.str (Str.ofString "RLPException") 196), some (.str (Str.ofString "RLPException") 204), some (.builtin "Exception.__new__"), some (.bool true)] }
def ob59 (P : Params) : Obj := { cls := (.type "cell"), dict := none, data := .cell (some (.ref 74)), slots := #[] }
def ob64 (P : Params) : Obj := { cls := (.type "tuple"), dict := none, data := .seq #[(.ref 59)] 0, slots := #[] }
def ob66 (P : Params) : Obj := { cls := .none, dict := none, data := .fields #[], slots := #[] }
def ob70 (P : Params) : Obj := { cls := (.type "code"), dict := none, data := .fields #[(.str (Str.ofString "__init__") 256), (.str (Str.ofString "DecodingError.__init__") 257), (.str (Str.ofString "/claim/cut.py") 258), (.int 14 0), (.int 3 0), (.int 0 0), (.int 0 0), (.int 3 0), (.ref 65), (.bool true), (.int 181 0), (.ref 66), .none, (.ref 67), (.ref 68), (.ref 69), (.int 263 0), (.int 14 0), (.str (Str.ofString "/claim/cut.py") 264)], slots := #[] }
def ob71 (P : Params) : Obj := { cls := (.type "function"), dict := none, data := .func { name := (Str.ofString "__init__"), qualname := (Str.ofString "DecodingError.__init__"), params := fdA (mAt 4 0), body := .stmts (fdB (mAt 4 0)), scope := fdS (mAt 4 0), globals := 3, closure := [(Str.ofString "__class__", 59)], defaults := .none, kwdefaults := .none, doc := .none, pyModule := (.str (Str.ofString "rlp.exceptions") 194), code := (.ref 70), closureTuple := (.ref 64), builtins := 0 }, slots := #[] }
def ob73 (P : Params) : Obj := { cls := (.type "dict"), dict := none, data := .dict #[⟨PyData.keyHash P (Str.ofString "__module__"), (.str (Str.ofString "__module__") 251), (.str (Str.ofString "rlp.exceptions") 194)⟩, ⟨PyData.keyHash P (Str.ofString "__firstlineno__"), (.str (Str.ofString "__firstlineno__") 255), (.int 12 254)⟩, ⟨PyData.keyHash P (Str.ofString "__init__"), (.str (Str.ofString "__init__") 265), (.ref 71)⟩, ⟨PyData.keyHash P (Str.ofString "__static_attributes__"), (.str (Str.ofString "__static_attributes__") 267), (.ref 72)⟩, ⟨PyData.keyHash P (Str.ofString "__doc__"), (.str (Str.ofString "__doc__") 269), .none⟩] 3, slots := #[] }
def ob74 (P : Params) : Obj := { cls := (.type "type"), dict := none, data := .cls { name := (Str.ofString "DecodingError"), bases := [(.ref 31)], mro := [(.ref 74), (.ref 31), (.type "Exception"), (.type "BaseException"), (.type "object")], ns := 73, qualname := (Str.ofString "DecodingError"), hasDict := true, slotNames := [], subclasses := [], abstract := false, collection := none, hasDel := false }, slots := #[some (.ref 56), none, some (.str (Str.ofString "DecodingError") 244), some (.str (Str.ofString "DecodingError") 252), some (.builtin "Exception.__new__"), some (.bool true)] }
def ob1456 (P : Params) : Obj := { cls := (.type "code"), dict := none, data := .fields #[(.str (Str.ofString "is_bytes") 1164), (.str (Str.ofString "is_bytes") 1165), (.str (Str.ofString "/claim/cut.py") 1166), (.int 49 0), (.int 1 0), (.int 0 0), (.int 0 0), (.int 3 0), (.ref 1451), (.bool true), (.int 181 0), (.ref 1452), .none, (.ref 1453), (.ref 1454), (.ref 1455), (.int 1168 0), (.int 49 0), (.str (Str.ofString "/claim/cut.py") 1169)], slots := #[] }
def ob1457 (P : Params) : Obj := { cls := (.type "function"), dict := none, data := .func { name := (Str.ofString "is_bytes"), qualname := (Str.ofString "is_bytes"), params := fdA (sAt 11), body := .stmts (fdB (sAt 11)), scope := fdS (sAt 11), globals := 3, closure := [], defaults := .none, kwdefaults := .none, doc := .none, pyModule := (.str (Str.ofString "rlp.utils") 390), code := (.ref 1456), closureTuple := .none, builtins := 0 }, slots := #[] }
def ob1463 (P : Params) : Obj := { cls := (.type "code"), dict := none, data := .fields #[(.str (Str.ofString "big_endian_to_int") 1171), (.str (Str.ofString "big_endian_to_int") 1172), (.str (Str.ofString "/claim/cut.py") 1173), (.int 51 0), (.int 1 0), (.int 0 0), (.int 0 0), (.int 3 0), (.ref 1458), (.bool true), (.int 181 0), (.ref 1459), .none, (.ref 1460), (.ref 1461), (.ref 1462), (.int 1175 0), (.int 51 0), (.str (Str.ofString "/claim/cut.py") 1176)], slots := #[] }
def ob1464 (P : Params) : Obj := { cls := (.type "function"), dict := none, data := .func { name := (Str.ofString "big_endian_to_int"), qualname := (Str.ofString "big_endian_to_int"), params := fdA (sAt 12), body := .stmts (fdB (sAt 12)), scope := fdS (sAt 12), globals := 3, closure := [], defaults := .none, kwdefaults := .none, doc := .none, pyModule := (.str (Str.ofString "rlp.utils") 390), code := (.ref 1463), closureTuple := .none, builtins := 0 }, slots := #[] }
def ob1470 (P : Params) : Obj := { cls := (.type "code"), dict := none, data := .fields #[(.str (Str.ofString "int_to_big_endian") 1178), (.str (Str.ofString "int_to_big_endian") 1179), (.str (Str.ofString "/claim/cut.py") 1180), (.int 53 0), (.int 1 0), (.int 0 0), (.int 0 0), (.int 3 0), (.ref 1465), (.bool true), (.int 181 0), (.ref 1466), .none, (.ref 1467), (.ref 1468), (.ref 1469), (.int 1182 0), (.int 53 0), (.str (Str.ofString "/claim/cut.py") 1183)], slots := #[] }
def ob1471 (P : Params) : Obj := { cls := (.type "function"), dict := none, data := .func { name := (Str.ofString "int_to_big_endian"), qualname := (Str.ofString "int_to_big_endian"), params := fdA (sAt 13), body := .stmts (fdB (sAt 13)), scope := fdS (sAt 13), globals := 3, closure := [], defaults := .none, kwdefaults := .none, doc := .none, pyModule := (.str (Str.ofString "rlp.utils") 390), code := (.ref 1470), closureTuple := .none, builtins := 0 }, slots := #[] }
def ob1701 (P : Params) : Obj := { cls := (.type "tuple"), dict := none, data := .seq #[] 0, slots := #[] }
def ob1702 (P : Params) : Obj := { cls := .none, dict := none, data := .fields #[], slots := #[] }
def ob1706 (P : Params) : Obj := { cls := (.type "code"), dict := none, data := .fields #[(.str (Str.ofString "encode_raw") 1527), (.str (Str.ofString "encode_raw") 1528), (.str (Str.ofString "/claim/cut.py") 1529), (.int 219 0), (.int 1 0), (.int 0 0), (.int 0 0), (.int 3 0), (.ref 1701), (.bool true), (.int 181 0), (.ref 1702), .none, (.ref 1703), (.ref 1704), (.ref 1705), (.int 1535 0), (.int 219 0), (.str (Str.ofString "/claim/cut.py") 1536)], slots := #[] }
def ob1707 (P : Params) : Obj := { cls := (.type "function"), dict := none, data := .func { name := (Str.ofString "encode_raw"), qualname := (Str.ofString "encode_raw"), params := fdA (sAt 29), body := .stmts (fdB (sAt 29)), scope := fdS (sAt 29), globals := 3, closure := [], defaults := .none, kwdefaults := .none, doc := .none, pyModule := (.str (Str.ofString "rlp.codec") 1525), code := (.ref 1706), closureTuple := .none, builtins := 0 }, slots := #[] }
def ob1713 (P : Params) : Obj := { cls := (.type "code"), dict := none, data := .fields #[(.str (Str.ofString "decode_raw") 1538), (.str (Str.ofString "decode_raw") 1539), (.str (Str.ofString "/claim/cut.py") 1540), (.int 236 0), (.int 3 0), (.int 0 0), (.int 0 0), (.int 3 0), (.ref 1708), (.bool true), (.int 181 0), (.ref 1709), .none, (.ref 1710), (.ref 1711), (.ref 1712), (.int 1548 0), (.int 236 0), (.str (Str.ofString "/claim/cut.py") 1549)], slots := #[] }
def ob1714 (P : Params) : Obj := { cls := (.type "function"), dict := none, data := .func { name := (Str.ofString "decode_raw"), qualname := (Str.ofString "decode_raw"), params := fdA (sAt 30), body := .stmts (fdB (sAt 30)), scope := fdS (sAt 30), globals := 3, closure := [], defaults := .none, kwdefaults := .none, doc := .none, pyModule := (.str (Str.ofString "rlp.codec") 1525), code := (.ref 1713), closureTuple := .none, builtins := 0 }, slots := #[] }
def ob1715 (P : Params) : Obj := { cls := (.type "tuple"), dict := none, data := .seq #[.none, (.bool true), (.bool true)] 0, slots := #[] }
def ob1721 (P : Params) : Obj := { cls := (.type "code"), dict := none, data := .fields #[(.str (Str.ofString "encode") 1551), (.str (Str.ofString "encode") 1552), (.str (Str.ofString "/claim/cut.py") 1553), (.int 245 0), (.int 4 0), (.int 0 0), (.int 0 0), (.int 3 0), (.ref 1716), (.bool true), (.int 181 0), (.ref 1717), .none, (.ref 1718), (.ref 1719), (.ref 1720), (.int 1560 0), (.int 245 0), (.str (Str.ofString "/claim/cut.py") 1561)], slots := #[] }
def ob1722 (P : Params) : Obj := { cls := (.type "function"), dict := none, data := .func { name := (Str.ofString "encode"), qualname := (Str.ofString "encode"), params := fdA (sAt 31), body := .stmts (fdB (sAt 31)), scope := fdS (sAt 31), globals := 3, closure := [], defaults := (.ref 1715), kwdefaults := .none, doc := .none, pyModule := (.str (Str.ofString "rlp.codec") 1525), code := (.ref 1721), closureTuple := .none, builtins := 0 }, slots := #[] }
def ob1728 (P : Params) : Obj := { cls := (.type "code"), dict := none, data := .fields #[(.str (Str.ofString "length_prefix") 1567), (.str (Str.ofString "length_prefix") 1568), (.str (Str.ofString "/claim/cut.py") 1569), (.int 255 0), (.int 2 0), (.int 0 0), (.int 0 0), (.int 3 0), (.ref 1723), (.bool true), (.int 181 0), (.ref 1724), .none, (.ref 1725), (.ref 1726), (.ref 1727), (.int 1573 0), (.int 255 0), (.str (Str.ofString "/claim/cut.py") 1574)], slots := #[] }
def ob1729 (P : Params) : Obj := { cls := (.type "function"), dict := none, data := .func { name := (Str.ofString "length_prefix"), qualname := (Str.ofString "length_prefix"), params := fdA (sAt 33), body := .stmts (fdB (sAt 33)), scope := fdS (sAt 33), globals := 3, closure := [], defaults := .none, kwdefaults := .none, doc := .none, pyModule := (.str (Str.ofString "rlp.codec") 1525), code := (.ref 1728), closureTuple := .none, builtins := 0 }, slots := #[] }
def ob1735 (P : Params) : Obj := { cls := (.type "code"), dict := none, data := .fields #[(.str (Str.ofString "consume_length_prefix") 1580), (.str (Str.ofString "consume_length_prefix") 1581), (.str (Str.ofString "/claim/cut.py") 1582), (.int 264 0), (.int 2 0), (.int 0 0), (.int 0 0), (.int 3 0), (.ref 1730), (.bool true), (.int 181 0), (.ref 1731), .none, (.ref 1732), (.ref 1733), (.ref 1734), (.int 1589 0), (.int 264 0), (.str (Str.ofString "/claim/cut.py") 1590)], slots := #[] }
def ob1736 (P : Params) : Obj := { cls := (.type "function"), dict := none, data := .func { name := (Str.ofString "consume_length_prefix"), qualname := (Str.ofString "consume_length_prefix"), params := fdA (sAt 35), body := .stmts (fdB (sAt 35)), scope := fdS (sAt 35), globals := 3, closure := [], defaults := .none, kwdefaults := .none, doc := .none, pyModule := (.str (Str.ofString "rlp.codec") 1525), code := (.ref 1735), closureTuple := .none, builtins := 0 }, slots := #[] }
def ob1742 (P : Params) : Obj := { cls := (.type "code"), dict := none, data := .fields #[(.str (Str.ofString "consume_payload") 1592), (.str (Str.ofString "consume_payload") 1593), (.str (Str.ofString "/claim/cut.py") 1594), (.int 292 0), (.int 5 0), (.int 0 0), (.int 0 0), (.int 3 0), (.ref 1737), (.bool true), (.int 181 0), (.ref 1738), .none, (.ref 1739), (.ref 1740), (.ref 1741), (.int 1611 0), (.int 292 0), (.str (Str.ofString "/claim/cut.py") 1612)], slots := #[] }
def ob1743 (P : Params) : Obj := { cls := (.type "function"), dict := none, data := .func { name := (Str.ofString "consume_payload"), qualname := (Str.ofString "consume_payload"), params := fdA (sAt 36), body := .stmts (fdB (sAt 36)), scope := fdS (sAt 36), globals := 3, closure := [], defaults := .none, kwdefaults := .none, doc := .none, pyModule := (.str (Str.ofString "rlp.codec") 1525), code := (.ref 1742), closureTuple := .none, builtins := 0 }, slots := #[] }
def ob1749 (P : Params) : Obj := { cls := (.type "code"), dict := none, data := .fields #[(.str (Str.ofString "consume_item") 1614), (.str (Str.ofString "consume_item") 1615), (.str (Str.ofString "/claim/cut.py") 1616), (.int 314 0), (.int 2 0), (.int 0 0), (.int 0 0), (.int 3 0), (.ref 1744), (.bool true), (.int 181 0), (.ref 1745), .none, (.ref 1746), (.ref 1747), (.ref 1748), (.int 1623 0), (.int 314 0), (.str (Str.ofString "/claim/cut.py") 1624)], slots := #[] }
def ob1750 (P : Params) : Obj := { cls := (.type "function"), dict := none, data := .func { name := (Str.ofString "consume_item"), qualname := (Str.ofString "consume_item"), params := fdA (sAt 37), body := .stmts (fdB (sAt 37)), scope := fdS (sAt 37), globals := 3, closure := [], defaults := .none, kwdefaults := .none, doc := .none, pyModule := (.str (Str.ofString "rlp.codec") 1525), code := (.ref 1749), closureTuple := .none, builtins := 0 }, slots := #[] }
def ob1751 (P : Params) : Obj := { cls := (.type "tuple"), dict := none, data := .seq #[.none, (.bool true), (.bool false)] 0, slots := #[] }
def ob1757 (P : Params) : Obj := { cls := (.type "code"), dict := none, data := .fields #[(.str (Str.ofString "decode") 1626), (.str (Str.ofString "decode") 1627), (.str (Str.ofString "/claim/cut.py") 1628), (.int 317 0), (.int 4 0), (.int 0 0), (.int 0 0), (.int 3 0), (.ref 1752), (.bool true), (.int 181 0), (.ref 1753), .none, (.ref 1754), (.ref 1755), (.ref 1756), (.int 1635 0), (.int 317 0), (.str (Str.ofString "/claim/cut.py") 1636)], slots := #[] }
def ob1758 (P : Params) : Obj := { cls := (.type "function"), dict := none, data := .func { name := (Str.ofString "decode"), qualname := (Str.ofString "decode"), params := fdA (sAt 38), body := .stmts (fdB (sAt 38)), scope := fdS (sAt 38), globals := 3, closure := [], defaults := (.ref 1751), kwdefaults := .none, doc := .none, pyModule := (.str (Str.ofString "rlp.codec") 1525), code := (.ref 1757), closureTuple := .none, builtins := 0 }, slots := #[] }
def ob1764 (P : Params) : Obj := { cls := (.type "tuple"), dict := none, data := .seq #[(.int 0 1646), (.int 1 1647), (.int 1 1648), (.int 2 1649), (.int 53 1650), (.int 54 1651), (.int 55 1652), (.int 56 1653), (.int 1 1654), (.int 3 1655), (.int 0 1656), (.int 1 1657), (.int 252 1658), (.int 1 1659), (.int 196 1660), (.int 0 1661)] 0, slots := #[] }
def ob1768 (P : Params) : Obj := { cls := (.type "code"), dict := none, data := .fields #[(.str (Str.ofString "_law_changed") 1663), (.str (Str.ofString "_law_changed") 1664), (.str (Str.ofString "/claim/cut.py") 1665), (.int 338 0), (.int 2 0), (.int 0 0), (.int 0 0), (.int 3 0), (.ref 1765), (.bool true), (.int 181 0), (.ref 1766), .none, .none, .none, (.ref 1767), (.int 1666 0), (.int 338 0), (.str (Str.ofString "/claim/cut.py") 1667)], slots := #[] }
def ob1769 (P : Params) : Obj := { cls := (.type "function"), dict := none, data := .func { name := (Str.ofString "_law_changed"), qualname := (Str.ofString "_law_changed"), params := fdA (sAt 42), body := .stmts (fdB (sAt 42)), scope := fdS (sAt 42), globals := 3, closure := [], defaults := .none, kwdefaults := .none, doc := .none, pyModule := (.str (Str.ofString "law_ff0024_02") 1644), code := (.ref 1768), closureTuple := .none, builtins := 0 }, slots := #[] }
def ob1775 (P : Params) : Obj := { cls := (.type "code"), dict := none, data := .fields #[(.str (Str.ofString "_law_around") 1669), (.str (Str.ofString "_law_around") 1670), (.str (Str.ofString "/claim/cut.py") 1671), (.int 361 0), (.int 1 0), (.int 0 0), (.int 0 0), (.int 3 0), (.ref 1770), (.bool true), (.int 181 0), (.ref 1771), .none, (.ref 1772), (.ref 1773), (.ref 1774), (.int 1673 0), (.int 361 0), (.str (Str.ofString "/claim/cut.py") 1674)], slots := #[] }
def ob1776 (P : Params) : Obj := { cls := (.type "function"), dict := none, data := .func { name := (Str.ofString "_law_around"), qualname := (Str.ofString "_law_around"), params := fdA (sAt 43), body := .stmts (fdB (sAt 43)), scope := fdS (sAt 43), globals := 3, closure := [], defaults := .none, kwdefaults := .none, doc := .none, pyModule := (.str (Str.ofString "law_ff0024_02") 1644), code := (.ref 1775), closureTuple := .none, builtins := 0 }, slots := #[] }
def ob1780 (P : Params) : Obj := { cls := (.type "code"), dict := none, data := .fields #[(.str (Str.ofString "_law_measured") 1676), (.str (Str.ofString "_law_measured") 1677), (.str (Str.ofString "/claim/cut.py") 1678), (.int 365 0), (.int 1 0), (.int 0 0), (.int 0 0), (.int 3 0), (.ref 1777), (.bool true), (.int 181 0), (.ref 1778), .none, .none, .none, (.ref 1779), (.int 1679 0), (.int 365 0), (.str (Str.ofString "/claim/cut.py") 1680)], slots := #[] }
def ob1781 (P : Params) : Obj := { cls := (.type "function"), dict := none, data := .func { name := (Str.ofString "_law_measured"), qualname := (Str.ofString "_law_measured"), params := fdA (sAt 44), body := .stmts (fdB (sAt 44)), scope := fdS (sAt 44), globals := 3, closure := [], defaults := .none, kwdefaults := .none, doc := .none, pyModule := (.str (Str.ofString "law_ff0024_02") 1644), code := (.ref 1780), closureTuple := .none, builtins := 0 }, slots := #[] }
def ob1787 (P : Params) : Obj := { cls := (.type "code"), dict := none, data := .fields #[(.str (Str.ofString "_law_compared") 1682), (.str (Str.ofString "_law_compared") 1683), (.str (Str.ofString "/claim/cut.py") 1684), (.int 373 0), (.int 2 0), (.int 0 0), (.int 0 0), (.int 3 0), (.ref 1782), (.bool true), (.int 181 0), (.ref 1783), .none, (.ref 1784), (.ref 1785), (.ref 1786), (.int 1689 0), (.int 373 0), (.str (Str.ofString "/claim/cut.py") 1690)], slots := #[] }
def ob1788 (P : Params) : Obj := { cls := (.type "function"), dict := none, data := .func { name := (Str.ofString "_law_compared"), qualname := (Str.ofString "_law_compared"), params := fdA (sAt 45), body := .stmts (fdB (sAt 45)), scope := fdS (sAt 45), globals := 3, closure := [], defaults := .none, kwdefaults := .none, doc := .none, pyModule := (.str (Str.ofString "law_ff0024_02") 1644), code := (.ref 1787), closureTuple := .none, builtins := 0 }, slots := #[] }
def ob1792 (P : Params) : Obj := { cls := (.type "code"), dict := none, data := .fields #[(.str (Str.ofString "law") 1692), (.str (Str.ofString "law") 1693), (.str (Str.ofString "/claim/cut.py") 1694), (.int 382 0), (.int 1 0), (.int 0 0), (.int 0 0), (.int 3 0), (.ref 1789), (.bool true), (.int 181 0), (.ref 1790), .none, .none, .none, (.ref 1791), (.int 1695 0), (.int 382 0), (.str (Str.ofString "/claim/cut.py") 1696)], slots := #[] }
def ob1793 (P : Params) : Obj := { cls := (.type "function"), dict := none, data := .func { name := (Str.ofString "law"), qualname := (Str.ofString "law"), params := fdA (sAt 46), body := .stmts (fdB (sAt 46)), scope := fdS (sAt 46), globals := 3, closure := [], defaults := .none, kwdefaults := .none, doc := .none, pyModule := (.str (Str.ofString "law_ff0024_02") 1644), code := (.ref 1792), closureTuple := .none, builtins := 0 }, slots := #[] }

def tupO : Obj := { cls := .type "tuple", data := .seq ((List.range 256).map itemB).toArray }
def objs (P : Params) : List (Nat × Obj) := [(2, ob2 P), (3, ob3 P), (4, ob4 P), (5, ob5 P), (30, ob30 P), (31, ob31 P), (59, ob59 P), (64, ob64 P), (66, ob66 P), (70, ob70 P), (71, ob71 P), (73, ob73 P), (74, ob74 P), (1456, ob1456 P), (1457, ob1457 P), (1463, ob1463 P), (1464, ob1464 P), (1470, ob1470 P), (1471, ob1471 P), (1701, ob1701 P), (1706, ob1706 P), (1707, ob1707 P), (1713, ob1713 P), (1714, ob1714 P), (1715, ob1715 P), (1721, ob1721 P), (1722, ob1722 P), (1728, ob1728 P), (1729, ob1729 P), (1735, ob1735 P), (1736, ob1736 P), (1742, ob1742 P), (1743, ob1743 P), (1749, ob1749 P), (1750, ob1750 P), (1751, ob1751 P), (1757, ob1757 P), (1758, ob1758 P), (1764, ob1764 P), (1768, ob1768 P), (1769, ob1769 P), (1775, ob1775 P), (1776, ob1776 P), (1780, ob1780 P), (1781, ob1781 P), (1787, ob1787 P), (1788, ob1788 P), (1792, ob1792 P), (1793, ob1793 P)]

def globs : List (Str × Value) := [(Str.ofString "_wall", (.ref 21)), (Str.ofString "RLPException", (.ref 31)), (Str.ofString "EncodingError", (.ref 53)), (Str.ofString "DecodingError", (.ref 74)), (Str.ofString "SerializationError", (.ref 95)), (Str.ofString "ListSerializationError", (.ref 117)), (Str.ofString "DeserializationError", (.ref 138)), (Str.ofString "ListDeserializationError", (.ref 160)), (Str.ofString "ALL_BYTES", (.ref 1450)), (Str.ofString "is_bytes", (.ref 1457)), (Str.ofString "big_endian_to_int", (.ref 1464)), (Str.ofString "int_to_big_endian", (.ref 1471)), (Str.ofString "BigEndianInt", (.ref 1503)), (Str.ofString "big_endian_int", (.ref 1509)), (Str.ofString "Binary", (.ref 1570)), (Str.ofString "binary", (.ref 1576)), (Str.ofString "Boolean", (.ref 1601)), (Str.ofString "boolean", (.ref 1607)), (Str.ofString "is_sedes", (.ref 1614)), (Str.ofString "is_sequence", (.ref 1621)), (Str.ofString "List", (.ref 1660)), (Str.ofString "CountableList", (.ref 1696)), (Str.ofString "encode_raw", (.ref 1707)), (Str.ofString "decode_raw", (.ref 1714)), (Str.ofString "encode", (.ref 1722)), (Str.ofString "LONG_LENGTH", (.int 18446744073709551616 1565)), (Str.ofString "length_prefix", (.ref 1729)), (Str.ofString "SHORT_STRING", (.int 184 1578)), (Str.ofString "consume_length_prefix", (.ref 1736)), (Str.ofString "consume_payload", (.ref 1743)), (Str.ofString "consume_item", (.ref 1750)), (Str.ofString "decode", (.ref 1758)), (Str.ofString "infer_sedes", (.ref 1763)), (Str.ofString "_law_sizes", (.ref 1764)), (Str.ofString "_law_changed", (.ref 1769)), (Str.ofString "_law_around", (.ref 1776)), (Str.ofString "_law_measured", (.ref 1781)), (Str.ofString "_law_compared", (.ref 1788)), (Str.ofString "law", (.ref 1793))]
def qv : Program := { pw with main := { pw.main with body := [sAt 46] } }
def lse : List Str := [Str.ofString "_wall", Str.ofString "RLPException", Str.ofString "EncodingError", Str.ofString "DecodingError", Str.ofString "SerializationError", Str.ofString "ListSerializationError", Str.ofString "DeserializationError", Str.ofString "ListDeserializationError", Str.ofString "ALL_BYTES", Str.ofString "is_bytes", Str.ofString "big_endian_to_int", Str.ofString "int_to_big_endian", Str.ofString "BigEndianInt", Str.ofString "big_endian_int", Str.ofString "Binary", Str.ofString "binary", Str.ofString "Boolean", Str.ofString "boolean", Str.ofString "is_sedes", Str.ofString "is_sequence", Str.ofString "List", Str.ofString "CountableList", Str.ofString "encode_raw", Str.ofString "decode_raw", Str.ofString "encode", Str.ofString "LONG_LENGTH", Str.ofString "length_prefix", Str.ofString "SHORT_STRING", Str.ofString "consume_length_prefix", Str.ofString "consume_payload", Str.ofString "consume_item", Str.ofString "decode", Str.ofString "infer_sedes", Str.ofString "_law_sizes", Str.ofString "_law_changed", Str.ofString "_law_around", Str.ofString "_law_measured", Str.ofString "_law_compared"]
def mods : List Str := importedModules pw.main.body
def Xt (s : Shared) : Bool := recOk [] s
def Yf (s : Shared) : Bool × List (Option Value) × List (Option Obj) × Option Obj := (s.heap.isNs mainGlobals, (globs.map (·.1)).map (s.heap.nsMap mainGlobals), [2, 3, 4, 5, 30, 31, 59, 64, 66, 70, 71, 73, 74, 1456, 1457, 1463, 1464, 1470, 1471, 1701, 1706, 1707, 1713, 1714, 1715, 1721, 1722, 1728, 1729, 1735, 1736, 1742, 1743, 1749, 1750, 1751, 1757, 1758, 1764, 1768, 1769, 1775, 1776, 1780, 1781, 1787, 1788, 1792, 1793, 1702].map s.heap.get?, s.heap.get? 1450)
def Ya (w : World) : Bool × List (Option Value) × List (Option Obj) × Option Obj := (true, globs.map (fun x => some x.2), ((objs w.params) ++ [(1702, ob1702 w.params)] : List (Nat × Obj)).map (fun x => some x.2), some tupO)
def okT (P : Params) (s : Shared) : Bool := staticsOk mods (boot_heap P) s.heap && namesBound pw s.heap && gensDone s && laidKept (boot_heap P) s.heap
def lkF (w : World) (x : Flow × SharedT × Code × Pos) := (x.1, x.2.2, okT w.params x.2.1.abs, openSeen qv lse mods Xt true x.2.1.abs, Yf x.2.1.abs)
def LK (w : World) (os : OsState) := (R3 w os).map (lkF w)
def LKR (w : World) := some (Flow.next, ((cE, (⟨382, 0, 415, 65⟩ : Pos)) : Code × Pos), true, openGood qv lse, Ya w)
def SZ (P : Params) := ((boot_heap P).isNs mainGlobals && (#[] : Array GenState).size == 0, (boot_heap P).objs.size, (boot_heap P).nsMap mainGlobals "__annotations__")
def OPl (w : World) := (importEnds treeTable (opening pw) w 600 (start (opening pw)).1 (start (opening pw)).2).map (fun s => (s.heap, s.gens, s.drawn, s.toks))
def OPr (w : World) : Option (Heap × Array GenState × Drawn × Nat) := some (boot_heap w.params, #[], boot_drawn, boot_toks)
def LN : Nat := (behindTheImports pw).length
def SZR : Bool × Nat × Option Value := (true, 11, ann)
def useless {α : Type} (_ : α) : Bool := true
theorem twins : useless (fun w os o j k g l c p kp => ((EL 3 w os o j k g l c p kp).isSome, (ER w os o j k g l c p kp).isSome, (EAR 3 w os o).isSome, (EC 3 3 w os o).isSome, (ECR w os o).isSome)) = true := by k_qdec
theorem twins2 : useless (fun w os => ((G0 w os).isSome, (G0R w os).isSome, (R1 w os).isSome, (R1R w os).isSome, (R3 w os).isSome, (Bk w os).isSome, (BkR w os).isSome)) = true := by k_qdec
theorem twins3 : useless (fun w os => ((LK w os).isSome, (LKR w).isSome, SZ w.params, SZR, (OPl w).isSome, (OPr w).isSome, LN)) = true := by k_qdec
end
end Mine
end

section
open PySem PySem.W PyProof.Rows
set_option Elab.async false
set_option maxRecDepth 100000
set_option maxHeartbeats 0
namespace Mine
noncomputable section
theorem ea_true_true (w : World) (os : OsState) (o : Nat → Obj) : EA 141 ((w.withFollow "comprehension-iter-twice" true).withFollow "special-get-raises" true) os o = EAR 141 ((w.withFollow "comprehension-iter-twice" true).withFollow "special-get-raises" true) os o := by
  rw [PySem.W.Fast.te1921675249460523465, PySem.W.Fast.te6424779280274547231]
  kernel_rfl
theorem ec_true_true (w : World) (os : OsState) (o : Nat → Obj) : EC 57 141 ((w.withFollow "comprehension-iter-twice" true).withFollow "special-get-raises" true) os o = ECR ((w.withFollow "comprehension-iter-twice" true).withFollow "special-get-raises" true) os o := by
  rw [PySem.W.Fast.te4354342035555260938, PySem.W.Fast.te14644559438984715080]
  kernel_rfl
theorem ea_true_false (w : World) (os : OsState) (o : Nat → Obj) : EA 141 ((w.withFollow "comprehension-iter-twice" true).withFollow "special-get-raises" false) os o = EAR 141 ((w.withFollow "comprehension-iter-twice" true).withFollow "special-get-raises" false) os o := by
  rw [PySem.W.Fast.te1921675249460523465, PySem.W.Fast.te6424779280274547231]
  kernel_rfl
theorem ec_true_false (w : World) (os : OsState) (o : Nat → Obj) : EC 57 141 ((w.withFollow "comprehension-iter-twice" true).withFollow "special-get-raises" false) os o = ECR ((w.withFollow "comprehension-iter-twice" true).withFollow "special-get-raises" false) os o := by
  rw [PySem.W.Fast.te4354342035555260938, PySem.W.Fast.te14644559438984715080]
  kernel_rfl
theorem ea_false_true (w : World) (os : OsState) (o : Nat → Obj) : EA 151 ((w.withFollow "comprehension-iter-twice" false).withFollow "special-get-raises" true) os o = EAR 151 ((w.withFollow "comprehension-iter-twice" false).withFollow "special-get-raises" true) os o := by
  rw [PySem.W.Fast.te1921675249460523465, PySem.W.Fast.te6424779280274547231]
  kernel_rfl
theorem ec_false_true (w : World) (os : OsState) (o : Nat → Obj) : EC 57 151 ((w.withFollow "comprehension-iter-twice" false).withFollow "special-get-raises" true) os o = ECR ((w.withFollow "comprehension-iter-twice" false).withFollow "special-get-raises" true) os o := by
  rw [PySem.W.Fast.te4354342035555260938, PySem.W.Fast.te14644559438984715080]
  kernel_rfl
theorem ea_false_false (w : World) (os : OsState) (o : Nat → Obj) : EA 151 ((w.withFollow "comprehension-iter-twice" false).withFollow "special-get-raises" false) os o = EAR 151 ((w.withFollow "comprehension-iter-twice" false).withFollow "special-get-raises" false) os o := by
  rw [PySem.W.Fast.te1921675249460523465, PySem.W.Fast.te6424779280274547231]
  kernel_rfl
theorem ec_false_false (w : World) (os : OsState) (o : Nat → Obj) : EC 57 151 ((w.withFollow "comprehension-iter-twice" false).withFollow "special-get-raises" false) os o = ECR ((w.withFollow "comprehension-iter-twice" false).withFollow "special-get-raises" false) os o := by
  rw [PySem.W.Fast.te4354342035555260938, PySem.W.Fast.te14644559438984715080]
  kernel_rfl
end
end Mine
end

section
open PySem PySem.W PyProof.Rows
set_option Elab.async false
set_option maxRecDepth 100000
set_option maxHeartbeats 0
namespace Mine
noncomputable section
theorem el_true_0 (w : World) (os : OsState) (o : Nat → Obj) (k : Result → Sem Fin) (g : Bool) (l : List Value) (c : Code) (p : Pos) (kp : List Value) : EL 4947 (w.withFollow "special-get-raises" true) os o 1 k g l c p kp = ER (w.withFollow "special-get-raises" true) os o 52 k g l c p kp := by
  rw [PySem.W.Fast.te4898573563867984347, PySem.W.Fast.te3664524753501116749]
  kernel_rfl
theorem el_true_1 (w : World) (os : OsState) (o : Nat → Obj) (k : Result → Sem Fin) (g : Bool) (l : List Value) (c : Code) (p : Pos) (kp : List Value) : EL 4947 (w.withFollow "special-get-raises" true) os o 52 k g l c p kp = ER (w.withFollow "special-get-raises" true) os o 103 k g l c p kp := by
  rw [PySem.W.Fast.te4898573563867984347, PySem.W.Fast.te3664524753501116749]
  kernel_rfl
theorem el_true_2 (w : World) (os : OsState) (o : Nat → Obj) (k : Result → Sem Fin) (g : Bool) (l : List Value) (c : Code) (p : Pos) (kp : List Value) : EL 4947 (w.withFollow "special-get-raises" true) os o 103 k g l c p kp = ER (w.withFollow "special-get-raises" true) os o 154 k g l c p kp := by
  rw [PySem.W.Fast.te4898573563867984347, PySem.W.Fast.te3664524753501116749]
  kernel_rfl
theorem el_true_3 (w : World) (os : OsState) (o : Nat → Obj) (k : Result → Sem Fin) (g : Bool) (l : List Value) (c : Code) (p : Pos) (kp : List Value) : EL 4947 (w.withFollow "special-get-raises" true) os o 154 k g l c p kp = ER (w.withFollow "special-get-raises" true) os o 205 k g l c p kp := by
  rw [PySem.W.Fast.te4898573563867984347, PySem.W.Fast.te3664524753501116749]
  kernel_rfl
theorem el_true_4 (w : World) (os : OsState) (o : Nat → Obj) (k : Result → Sem Fin) (g : Bool) (l : List Value) (c : Code) (p : Pos) (kp : List Value) : EL 4947 (w.withFollow "special-get-raises" true) os o 205 k g l c p kp = ER (w.withFollow "special-get-raises" true) os o 256 k g l c p kp := by
  rw [PySem.W.Fast.te4898573563867984347, PySem.W.Fast.te3664524753501116749]
  kernel_rfl
theorem el_false_0 (w : World) (os : OsState) (o : Nat → Obj) (k : Result → Sem Fin) (g : Bool) (l : List Value) (c : Code) (p : Pos) (kp : List Value) : EL 4947 (w.withFollow "special-get-raises" false) os o 1 k g l c p kp = ER (w.withFollow "special-get-raises" false) os o 52 k g l c p kp := by
  rw [PySem.W.Fast.te4898573563867984347, PySem.W.Fast.te3664524753501116749]
  kernel_rfl
theorem el_false_1 (w : World) (os : OsState) (o : Nat → Obj) (k : Result → Sem Fin) (g : Bool) (l : List Value) (c : Code) (p : Pos) (kp : List Value) : EL 4947 (w.withFollow "special-get-raises" false) os o 52 k g l c p kp = ER (w.withFollow "special-get-raises" false) os o 103 k g l c p kp := by
  rw [PySem.W.Fast.te4898573563867984347, PySem.W.Fast.te3664524753501116749]
  kernel_rfl
theorem el_false_2 (w : World) (os : OsState) (o : Nat → Obj) (k : Result → Sem Fin) (g : Bool) (l : List Value) (c : Code) (p : Pos) (kp : List Value) : EL 4947 (w.withFollow "special-get-raises" false) os o 103 k g l c p kp = ER (w.withFollow "special-get-raises" false) os o 154 k g l c p kp := by
  rw [PySem.W.Fast.te4898573563867984347, PySem.W.Fast.te3664524753501116749]
  kernel_rfl
theorem el_false_3 (w : World) (os : OsState) (o : Nat → Obj) (k : Result → Sem Fin) (g : Bool) (l : List Value) (c : Code) (p : Pos) (kp : List Value) : EL 4947 (w.withFollow "special-get-raises" false) os o 154 k g l c p kp = ER (w.withFollow "special-get-raises" false) os o 205 k g l c p kp := by
  rw [PySem.W.Fast.te4898573563867984347, PySem.W.Fast.te3664524753501116749]
  kernel_rfl
theorem el_false_4 (w : World) (os : OsState) (o : Nat → Obj) (k : Result → Sem Fin) (g : Bool) (l : List Value) (c : Code) (p : Pos) (kp : List Value) : EL 4947 (w.withFollow "special-get-raises" false) os o 205 k g l c p kp = ER (w.withFollow "special-get-raises" false) os o 256 k g l c p kp := by
  rw [PySem.W.Fast.te4898573563867984347, PySem.W.Fast.te3664524753501116749]
  kernel_rfl
end
end Mine
end

section
open PySem PySem.W PyProof.Rows
set_option Elab.async false
set_option maxRecDepth 100000
set_option maxHeartbeats 0
namespace Mine
noncomputable section
theorem g0 (w : World) (os : OsState) : G0 w os = G0R w os := by
  rw [PySem.W.Fast.te611192506989134180, PySem.W.Fast.te13083875196316467895]
  kernel_rfl
theorem bk (w : World) (os : OsState) : Bk w os = BkR w os := by
  rw [PySem.W.Fast.te3719428003080448926, PySem.W.Fast.te18312238530879716678]
  kernel_rfl
theorem r1 (w : World) (os : OsState) : R1 w os = R1R w os := by
  rw [PySem.W.Fast.te17688134274955554779, PySem.W.Fast.te13141749965803697517]
  kernel_rfl
theorem sz (P : Params) : SZ P = SZR := by
  rw [PySem.W.Fast.te3250599103589649655]
  kernel_rfl
end
end Mine
end

section
open PySem PySem.W PyProof.Rows
set_option Elab.async false
set_option maxRecDepth 100000
set_option maxHeartbeats 0
namespace Mine
noncomputable section
theorem lk (w : World) (os : OsState) : LK w os = LKR w := by
  rw [PySem.W.Fast.te8631066523828424393, PySem.W.Fast.te4113058564118718911]
  kernel_rfl
end
end Mine
end

section
open PySem PySem.W PyProof.Rows
set_option Elab.async false
set_option maxRecDepth 100000
set_option maxHeartbeats 0
namespace Mine
noncomputable section
theorem op (w : World) : OPl w = OPr w := by
  rw [PySem.W.Fast.te5927332761300638722]
  kernel_rfl
theorem ln : LN = 47 := by
  rw [PySem.W.Fast.te15074930748297270999]
  kernel_rfl
end
end Mine
end

section
open PySem PySem.W PyProof.Rows
set_option Elab.async false
set_option maxRecDepth 100000
set_option maxHeartbeats 0
namespace Mine
noncomputable section
def P10 (os : OsState) (o : Nat → Obj) (w : World) : Prop := ∃ n, Nat.ble n 25000 = true ∧ segRun treeTable pw w 11 ann 1 n (st10 w os o).abs (pieceOf stA env cE ⟨47, 0, 47, 8⟩ B) = some (.next, (st11 w os o).abs, cE, (⟨48, 0, 48, 9⟩ : Pos))
theorem p10_of {w : World} {os : OsState} {o : Nat → Obj} {m : Nat} (hm : Nat.ble (m + (4947 + (4947 + (4947 + (4947 + (4947 + 57)))))) 25000 = true) (ea : EA m w os o = EAR m w os o) (ec : EC 57 m w os o = ECR w os o)
      (e0 : ∀ k g l c p kp, EL 4947 w os o 1 k g l c p kp = ER w os o 52 k g l c p kp) (e1 : ∀ k g l c p kp, EL 4947 w os o 52 k g l c p kp = ER w os o 103 k g l c p kp)
      (e2 : ∀ k g l c p kp, EL 4947 w os o 103 k g l c p kp = ER w os o 154 k g l c p kp) (e3 : ∀ k g l c p kp, EL 4947 w os o 154 k g l c p kp = ER w os o 205 k g l c p kp)
      (e4 : ∀ k g l c p kp, EL 4947 w os o 205 k g l c p kp = ER w os o 256 k g l c p kp) : P10 os o w :=
  ⟨_, hm, seg_go (segGo_of ea) (seg_go (segGo_of (e0 ..)) (seg_go (segGo_of (e1 ..)) (seg_go (segGo_of (e2 ..)) (seg_go (segGo_of (e3 ..)) (seg_go (segGo_of (e4 ..)) (segRun_of ec))))))⟩
theorem p10 (w : World) (os : OsState) (o : Nat → Obj) : P10 os o w := by
  refine byRow2 "special-get-raises" (P := P10 os o) (fun w => ?_) (fun w => ?_) w
  · refine byRow2 "comprehension-iter-twice" (P := fun w => P10 os o (w.withFollow "special-get-raises" false)) (fun w => ?_) (fun w => ?_) w
    · exact p10_of (by decide) (ea_false_false w os o) (ec_false_false w os o) (el_false_0 _ os o) (el_false_1 _ os o) (el_false_2 _ os o) (el_false_3 _ os o) (el_false_4 _ os o)
    · exact p10_of (by decide) (ea_true_false w os o) (ec_true_false w os o) (el_false_0 _ os o) (el_false_1 _ os o) (el_false_2 _ os o) (el_false_3 _ os o) (el_false_4 _ os o)
  · refine byRow2 "comprehension-iter-twice" (P := fun w => P10 os o (w.withFollow "special-get-raises" true)) (fun w => ?_) (fun w => ?_) w
    · exact p10_of (by decide) (ea_false_true w os o) (ec_false_true w os o) (el_true_0 _ os o) (el_true_1 _ os o) (el_true_2 _ os o) (el_true_3 _ os o) (el_true_4 _ os o)
    · exact p10_of (by decide) (ea_true_true w os o) (ec_true_true w os o) (el_true_0 _ os o) (el_true_1 _ os o) (el_true_2 _ os o) (el_true_3 _ os o) (el_true_4 _ os o)
theorem parts_of {σ β γ κ : Type} {r : Option (Flow × σ × κ)} {f1 : σ → Bool} {f2 : σ → β} {f3 : σ → γ} {v2 : β} {v3 : γ} {cp : κ}
    (h : r.map (fun x => (x.1, x.2.2, f1 x.2.1, f2 x.2.1, f3 x.2.1)) = some (Flow.next, cp, true, v2, v3)) : ∃ s, r = some (.next, s, cp) ∧ f1 s = true ∧ f2 s = v2 ∧ f3 s = v3 := by
  cases r with
  | none => cases h
  | some x =>
    obtain ⟨f, s, c⟩ := x
    simp only [Option.map_some, Option.some.injEq, Prod.mk.injEq] at h
    obtain ⟨rfl, rfl, h1, h2, h3⟩ := h
    exact ⟨s, rfl, h1, h2, h3⟩
/-- where the run of the top ends -/
theorem lk_parts (w : World) (os : OsState) : ∃ s : SharedT, R3 w os = some (.next, s, cE, ⟨382, 0, 415, 65⟩) ∧ okT w.params s.abs = true ∧ openSeen qv lse mods Xt true s.abs = openGood qv lse ∧ Yf s.abs = Ya w :=
  parts_of (r := R3 w os) (f1 := fun s => okT w.params s.abs) (f2 := fun s => openSeen qv lse mods Xt true s.abs) (f3 := fun s => Yf s.abs) (lk w os)
theorem end_top (w : World) (s : Shared) (c : Code) (p : Pos) : topRun treeTable pw w 11 ann 3 s ⟨doneF .next, c, p, [topFrame default]⟩ = some s := by
  obtain ⟨heap, gens, drawn, toks, os⟩ := s
  rfl
theorem cut46 (l : List Stmt) (h : l.length = 47) : l = (l.drop 0).take 10 ++ ((l[10]?).getD (.Pass default) :: ((l.drop 11).take 36 ++ [])) := by
  have h10 : 10 < l.length := by omega
  have e1 : l[10]? = some l[10] := List.getElem?_eq_getElem h10
  have e2 : (l.drop 11).take 36 = l.drop 11 := List.take_of_length_le (by rw [List.length_drop]; omega)
  rw [e1, e2, Option.getD_some, List.append_nil, List.drop_zero, ← List.drop_eq_getElem_cons h10, List.take_append_drop]
theorem body_cut : behindTheImports pw = sts 0 10 ++ (stA :: (sts 11 36 ++ [])) := cut46 _ ln
theorem top_ends (w : World) (os : OsState) : ∃ s : Shared, topRun treeTable pw w 11 ann 60000 (S0 w os) (topStub pw) = some s ∧ okT w.params s = true ∧ openSeen qv lse mods Xt true s = openGood qv lse ∧ Yf s = Ya w := by
  obtain ⟨s, r3, h1, h2, h3⟩ := lk_parts w os
  obtain ⟨n10, hn, h10⟩ := p10 w os (o10 w os)
  have k4 := piece_app (q := default) (rest := []) (segRun_of r3) (piece_nil (end_top w s.abs cE ⟨382, 0, 415, 65⟩))
  have k3 := piece_cons h10 k4
  have k2 := piece_app (segRun_of (r1 w os)) k3
  rw [← body_cut] at k2
  have k1 := go_top (g0 w os) (piece_block (segRun_of (bk w os)) k2)
  have hn' := Nat.le_of_ble_eq_true hn
  have k0 := topRun_mono (60000 - (12 + (1 + (3000 + (n10 + (6000 + 3)))))) _ _ _ _ k1
  rw [show 12 + (1 + (3000 + (n10 + (6000 + 3)))) + (60000 - (12 + (1 + (3000 + (n10 + (6000 + 3)))))) = 60000 by omega] at k0
  exact ⟨s.abs, k0, h1, h2, h3⟩
theorem fence_eq (s : Shared) : fenceModules? pw s = some s := by rfl
theorem boot_open' (w : World) : (fencedOpening treeTable pw w 60000).map (fun s => (s.heap, s.gens, s.drawn, s.toks)) = some (boot_heap w.params, #[], boot_drawn, boot_toks) := by
  obtain ⟨s, hs, hv⟩ := Option.map_eq_some_iff.mp (op w)
  have m := importEnds_mono (60000 - 600) _ _ _ _ hs
  unfold fencedOpening
  rw [show 60000 = 600 + (60000 - 600) by decide, m]
  show ((fenceModules? pw s)).map _ = _
  rw [show fenceModules? pw s = some s from fence_eq s]
  exact congrArg some hv
theorem left_of {p q : Program} {loose mods : List Str} {Xt : Shared → Bool} {α : Type} {Yf : Shared → α} {Ya : World → α} {N m : Nat} {ann : Option Value} {H : Params → Heap} {gs : Array GenState} {d : Drawn} {k : Nat} {ok : Params → Shared → Bool}
    (hm : mods = importedModules p.main.body) (hok : ok = fun P s => staticsOk mods (H P) s.heap && namesBound p s.heap && gensDone s && laidKept (H P) s.heap)
    (op : ∀ w, (fencedOpening treeTable p w N).map (fun s => (s.heap, s.gens, s.drawn, s.toks)) = some (H w.params, gs, d, k))
    (sz : ∀ P, ((H P).isNs mainGlobals && gs.size == 0, (H P).objs.size, (H P).nsMap mainGlobals "__annotations__") = (true, m, ann))
    (top : ∀ w os, ∃ s, topRun treeTable p w m ann N ⟨H w.params, gs, d, k, os⟩ (topStub p) = some s ∧ ok w.params s = true ∧ openSeen q loose mods Xt true s = openGood q loose ∧ Yf s = Ya w) : LeftO p q loose Xt Yf Ya N := fun w => by
  subst hm hok
  obtain ⟨⟨h, gs', d', k', os⟩, e, e'⟩ := Option.map_eq_some_iff.mp (op w)
  obtain ⟨rfl, rfl, rfl, rfl⟩ : h = H w.params ∧ gs' = gs ∧ d' = d ∧ k' = k := by simpa using e'
  obtain ⟨z1, z2, z3⟩ : _ ∧ _ ∧ _ := by simpa only [Prod.mk.injEq] using sz w.params
  obtain ⟨s, k0, h1, h2, h3⟩ := top w os
  replace h1 : (staticsOk (importedModules p.main.body) (H w.params) s.heap && namesBound p s.heap && gensDone s && laidKept (H w.params) s.heap) = true := h1
  have t : topFrom treeTable p w N ⟨H w.params, gs', d', k', os⟩ = some s := by
    unfold topFrom
    dsimp only
    rw [z1, z2, z3, k0]
    show (match staticsOk (importedModules p.main.body) (H w.params) s.heap && namesBound p s.heap && gensDone s && laidKept (H w.params) s.heap with | true => _ | false => _) = _
    rw [h1]
  unfold openEnds
  rw [e]
  show (topFrom treeTable p w N _).map _ = _
  rw [t]
  exact congrArg some (Prod.ext h2 h3)
theorem left : LeftO pw qv lse Xt Yf Ya 60000 := left_of (mods := mods) (ok := okT) rfl rfl boot_open' sz top_ends
end
end Mine
end

section
open PySem PySem.W PySem.Calls PyProof.Rows PySem.Spec
set_option Elab.async false
set_option maxRecDepth 100000
set_option maxHeartbeats 400000
namespace Mine
/-- names that are the built-ins' alone -/
def bltNames : List Str := ["len", "range", "isinstance", "int", "str", "bytes", "bytearray", "list", "tuple", "IndexError", "ValueError", "TypeError", "super", "bool", "zip", "enumerate", "any", "sorted", "sum", "min", "max"]
/-- what stands from the top on -/
structure Base (w : World) (h : Heap) : Prop where
  at_ : ∀ p ∈ objs w.params, h.get? p.1 = some p.2
  tup : h.get? 1450 = some tupO
  g : ∃ mg, h.Ns mainGlobals mg ∧ (∀ p ∈ globs, mg p.1 = some p.2) ∧ ∀ x ∈ bltNames, mg x = none
  b : ∃ mb, h.Ns builtinsNs mb ∧ ∀ x : Str, x ≠ "__name__" → mb x = bootBuiltins x
  nolimit : h.NoLimit
  nodigits : ∃ mc, h.Ns cStatics mc ∧ mc "sys.int_max_str_digits" = none
theorem Base.keeps {w : World} {h h' : Heap} (B : Base w h) (hk : ∀ b o, h.get? b = some o → h'.get? b = some o) : Base w h' where
  at_ := fun p hp => hk _ _ (B.at_ p hp)
  tup := hk _ _ B.tup
  g := let ⟨mg, h1, h2⟩ := B.g; ⟨mg, h1.keeps hk, h2⟩
  b := let ⟨mb, h1, h2⟩ := B.b; ⟨mb, h1.keeps hk, h2⟩
  nolimit := B.nolimit.keeps hk
  nodigits := let ⟨mc, h1, h2⟩ := B.nodigits; ⟨mc, h1.keeps hk, h2⟩
abbrev look (ρ : List (Str × Value)) : Str → Option Value := fun x => ρ.lookup x
theorem look_cons (ρ : List (Str × Value)) (x : Str) (v : Value) : (fun y => if y = x then some v else look ρ y) = look ((x, v) :: ρ) := by
  funext y
  by_cases h : y = x
  · subst h; simp [look]
  · have : (y == x) = false := beq_eq_false_iff_ne.mpr h
    show (if y = x then some v else ρ.lookup y) = List.lookup y ((x, v) :: ρ)
    rw [if_neg h, List.lookup_cons, this]

section
variable {M : Model} {A : Around} {E : Value → Shared → Prop} {gs : Array GenState} {dr : Drawn} {tk : Nat} {os : OsState} {h g : Heap} {L a : Addr} {m : Str → Option Value} {ρ : List (Str × Value)} {news : List (Addr × Obj)} {name : Str} {scope : Scope} {cd : Value} {Q : Value → Shared → Prop} {w : World}
/-! names -/
theorem x_name {x : Str} {pos : Pos} {v : Value} (F : Fr g L h (look ρ)) (hv : ρ.lookup x = some v) (hk : scope.kind = .function) (hl : scope.names.lookup x = some .local)
    (hd : (x == ("__debug__" : Str)) = false) (k : Q v ⟨h, gs, dr, tk, os⟩) : wpAny M A (eval (.Name x pos) (envOf name scope L a cd)) Q E ⟨h, gs, dr, tk, os⟩ := ld (s := ⟨h, gs, dr, tk, os⟩) F hv k hk hl hd
theorem x_load {x : Str} {v : Value} (F : Fr g L h (look ρ)) (hv : ρ.lookup x = some v) (hk : scope.kind = .function) (hl : scope.names.lookup x = some .local)
    (k : Q v ⟨h, gs, dr, tk, os⟩) : wpAny M A (loadName (envOf name scope L a cd) x) Q E ⟨h, gs, dr, tk, os⟩ := ldn (s := ⟨h, gs, dr, tk, os⟩) F hv k hk hl
theorem globs_mem {x : Str} {v : Value} (h : globs.lookup x = some v) : (x, v) ∈ globs := by
  have : ∀ (l : List (Str × Value)), l.lookup x = some v → (x, v) ∈ l := by
    intro l
    induction l with
    | nil => intro h; cases h
    | cons p l ih =>
      obtain ⟨k, u⟩ := p
      intro h
      rw [List.lookup_cons] at h
      by_cases e : x = k
      · subst e; simp at h; subst h; exact .head _
      · rw [beq_eq_false_iff_ne.mpr e] at h; exact .tail _ (ih h)
  exact this _ h
theorem x_glob {x : Str} {pos : Pos} {v : Value} (F : Fr g L h m) (B : Base w g) (hv : globs.lookup x = some v) (hk : scope.kind = .function) (hl : scope.names.lookup x = some .globalImplicit)
    (hd : (x == ("__debug__" : Str)) = false) (k : Q v ⟨h, gs, dr, tk, os⟩) : wpAny M A (eval (.Name x pos) (envOf name scope L a cd)) Q E ⟨h, gs, dr, tk, os⟩ := by
  obtain ⟨mg, h1, h2, _⟩ := (B.keeps F.keep).g
  exact Name_function_global hk hl (loadGlobal_global (s := ⟨h, gs, dr, tk, os⟩) h1 (h2 _ (globs_mem hv)) k) hd
theorem x_blt {x : Str} {pos : Pos} {v : Value} (F : Fr g L h m) (B : Base w g) (hb : bltNames.contains x = true) (hv : bootBuiltins x = some v) (hk : scope.kind = .function) (hl : scope.names.lookup x = some .globalImplicit)
    (hd : (x == ("__debug__" : Str)) = false) (hn : x ≠ "__name__") (k : Q v ⟨h, gs, dr, tk, os⟩) : wpAny M A (eval (.Name x pos) (envOf name scope L a cd)) Q E ⟨h, gs, dr, tk, os⟩ := by
  obtain ⟨mg, h1, _, h3⟩ := (B.keeps F.keep).g
  obtain ⟨mb, b1, b2⟩ := (B.keeps F.keep).b
  exact Name_function_global hk hl (loadGlobal_builtin (s := ⟨h, gs, dr, tk, os⟩) h1 (h3 _ (List.contains_iff_mem.mp hb)) b1 ((b2 _ hn).trans hv) k) hd
/-! constants -/
theorem x_int {i k pos} {env : Env} (H : ∀ t tk', Q (.int i t) ⟨h, gs, dr, tk', os⟩) : wpAny M A (eval (.Constant (.int i) k pos) env) Q E ⟨h, gs, dr, tk, os⟩ := wpAny_Constant_int (H _ _)
theorem x_str {i k pos} {env : Env} (H : ∀ t tk', Q (.str i t) ⟨h, gs, dr, tk', os⟩) : wpAny M A (eval (.Constant (.str i) k pos) env) Q E ⟨h, gs, dr, tk, os⟩ := Constant_str (H _ _)
theorem x_bytes {i k pos} {env : Env} (H : ∀ t tk', Q (.bytes i.toArray t) ⟨h, gs, dr, tk', os⟩) : wpAny M A (eval (.Constant (.bytes i) k pos) env) Q E ⟨h, gs, dr, tk, os⟩ := Constant_bytes (H _ _)
theorem x_none {k pos} {env : Env} (H : Q .none ⟨h, gs, dr, tk, os⟩) : wpAny M A (eval (.Constant .none k pos) env) Q E ⟨h, gs, dr, tk, os⟩ := wpAny_Constant_none H
theorem x_bool {b k pos} {env : Env} (H : Q (.bool b) ⟨h, gs, dr, tk, os⟩) : wpAny M A (eval (.Constant (.bool b) k pos) env) Q E ⟨h, gs, dr, tk, os⟩ := wpAny_Constant_bool H
/-! stores -/
theorem x_store {x : Str} {v : Value} {Q : Unit → Shared → Prop} (F : Fr g L h (look ρ)) (N : News g L h news) (hk : scope.kind = .function) (hl : scope.names.lookup x = some .local)
    (H : ∀ h' tk', Fr g L h' (look ((x, v) :: ρ)) → News g L h' news → Q () ⟨h', gs, dr, tk', os⟩) :
    wpAny M A (storeName (envOf name scope L a cd) x v) Q E ⟨h, gs, dr, tk, os⟩ := stN (s := ⟨h, gs, dr, tk, os⟩) F N (fun h' F' N' => H h' _ (look_cons ρ x v ▸ F') N') hk hl
/-! displays -/
theorem x_tup {vs : List Value} (F : Fr g L h m) (N : News g L h news) (hsz : vs.length ≤ 4096) (H : ∀ h' u, u = h.objs.size → Fr g L h' m → News g L h' ((u, { cls := .type "tuple", data := .seq vs.toArray }) :: news) → Q (.ref u) ⟨h', gs, dr, tk, os⟩) :
    wpAny M A (newTuple vs) Q E ⟨h, gs, dr, tk, os⟩ := newTuple_N (s := ⟨h, gs, dr, tk, os⟩) F N (fun h' F' N' => H h' _ rfl F' N') (Nat.le_trans hsz (by decide))
theorem x_list {vs : List Value} (F : Fr g L h m) (N : News g L h news) (hsz : vs.length ≤ 4096) (H : ∀ h' u, u = h.objs.size → Fr g L h' m → News g L h' ((u, { cls := .type "list", data := .seq vs.toArray }) :: news) → Q (.ref u) ⟨h', gs, dr, tk, os⟩) :
    wpAny M A (newList vs) Q E ⟨h, gs, dr, tk, os⟩ := newList_N (s := ⟨h, gs, dr, tk, os⟩) F N (fun h' F' N' => H h' _ rfl F' N') (Nat.le_trans hsz (by decide))
/-! tests -/
theorem x_truthy {b : Bool} {Q : Bool → Shared → Prop} (k : Q b ⟨h, gs, dr, tk, os⟩) : wpAny M A (truthy (.bool b)) Q E ⟨h, gs, dr, tk, os⟩ := wpAny_truthy_bool k
theorem x_ite {c : Bool} {P R : Prop} (h1 : c = true → P) (h2 : c = false → R) : if c = true then P else R := by
  cases c
  · rw [if_neg (by decide)]; exact h2 rfl
  · rw [if_pos rfl]; exact h1 rfl
end
section
variable {prog : Program} {w : World} {A : Around} {E : Value → Shared → Prop} {gs : Array GenState} {dr : Drawn} {tk : Nat} {os : OsState} {h g : Heap} {L a : Addr} {m : Str → Option Value} {news : List (Addr × Obj)} {Q : Value → Shared → Prop} {i j : Int} {t u : Tok}
theorem x_add (H : ∀ t' tk', Q (.int (i + j) t') ⟨h, gs, dr, tk', os⟩) : wpAny (model prog w) A (binaryOp .Add (.int i t) (.int j u)) Q E ⟨h, gs, dr, tk, os⟩ := add_int (H _ _)
theorem x_sub (H : ∀ t' tk', Q (.int (i - j) t') ⟨h, gs, dr, tk', os⟩) : wpAny (model prog w) A (binaryOp .Sub (.int i t) (.int j u)) Q E ⟨h, gs, dr, tk, os⟩ := sub_int (H _ _)
theorem x_mul (hm : IntMulOk i j) (H : ∀ t' tk', Q (.int (i * j) t') ⟨h, gs, dr, tk', os⟩) : wpAny (model prog w) A (binaryOp .Mult (.int i t) (.int j u)) Q E ⟨h, gs, dr, tk, os⟩ := mul_int (H _ _) hm
theorem x_eq (H : Q (.bool (i == j)) ⟨h, gs, dr, tk, os⟩) : wpAny (model prog w) A (compareOp .Eq (.int i t) (.int j u)) Q E ⟨h, gs, dr, tk, os⟩ := eq_int H
theorem x_ne (H : Q (.bool (i != j)) ⟨h, gs, dr, tk, os⟩) : wpAny (model prog w) A (compareOp .NotEq (.int i t) (.int j u)) Q E ⟨h, gs, dr, tk, os⟩ := ne_int H
theorem x_lt (H : Q (.bool (decide (i < j))) ⟨h, gs, dr, tk, os⟩) : wpAny (model prog w) A (compareOp .Lt (.int i t) (.int j u)) Q E ⟨h, gs, dr, tk, os⟩ := lt_int H
theorem x_gt (H : Q (.bool (decide (i > j))) ⟨h, gs, dr, tk, os⟩) : wpAny (model prog w) A (compareOp .Gt (.int i t) (.int j u)) Q E ⟨h, gs, dr, tk, os⟩ := gt_int H
theorem x_ge (H : Q (.bool (decide (i ≥ j))) ⟨h, gs, dr, tk, os⟩) : wpAny (model prog w) A (compareOp .GtE (.int i t) (.int j u)) Q E ⟨h, gs, dr, tk, os⟩ := ge_int H
theorem x_isnone {v : Value} (H : Q (.bool (v == .none)) ⟨h, gs, dr, tk, os⟩) : wpAny (model prog w) A (compareOp .Is v .none) Q E ⟨h, gs, dr, tk, os⟩ := is_none H
/-! bytes -/
theorem x_badd {b c : List UInt8} (hsz : b.length + c.length ≤ 16777216) (H : ∀ t' tk', Q (.bytes (b ++ c).toArray t') ⟨h, gs, dr, tk', os⟩) : wpAny (model prog w) A (binaryOp .Add (.bytes b.toArray t) (.bytes c.toArray u)) Q E ⟨h, gs, dr, tk, os⟩ :=
  KBy.add_bytes (by simpa using hsz) fun t' k => by have := H t' k; simpa using this
theorem x_beq {b c : List UInt8} (H : Q (.bool (b == c)) ⟨h, gs, dr, tk, os⟩) : wpAny (model prog w) A (compareOp .Eq (.bytes b.toArray t) (.bytes c.toArray u)) Q E ⟨h, gs, dr, tk, os⟩ := eq_bytes H
theorem x_bitem {x : List UInt8} {i : Int} {ui : Tok} {value slice : Expr} (h0 : 0 ≤ i) (h1 : i < (x.length : Int)) (hfit : x.length ≤ 1099511627776)
    (hs : subscripted slice false (.bytes x.toArray t) (.int i ui) = operate [.bytes x.toArray t, .int i ui] (getItem (.bytes x.toArray t) (.int i ui)))
    (ht : ∀ r, letTemporaryGo value (.bytes x.toArray t) r = pure ()) (H : ∀ t' tk', Q (.int (x.getD i.toNat 0).toNat t') ⟨h, gs, dr, tk', os⟩) :
    wpAny (model prog w) A (subscriptTail value slice (.bytes x.toArray t) (.int i ui)) Q E ⟨h, gs, dr, tk, os⟩ := KBy.item_N hfit h0 h1 (H _ _) hs ht
end
/-! slices -/
def SlQ (Q : Value → Shared → Prop) (l u : Value) (s : Shared) : Prop := Q (.ref s.heap.objs.size) { s with heap := s.heap.push { cls := .type "slice", data := .fields #[l, u, .none] } }
def sl (x : List UInt8) (lo hi : Option Int) : List UInt8 := (x.drop (lo.elim 0 (clipAt x.length))).take (hi.elim x.length (clipAt x.length) - lo.elim 0 (clipAt x.length))
section
variable {M : Model} {A : Around} {E : Value → Shared → Prop} {s : Shared} {env : Env}
theorem x_slice {lower upper : Option Expr} {p : Pos} {Q : Value → Shared → Prop} (h : wpAny M A (evalPart lower env) (fun l s₁ => wpAny M A (evalPart upper env) (fun u s₂ => SlQ Q l u s₂) E s₁) E s) :
    wpAny M A (eval (.Slice lower upper none p) env) Q E s :=
  wpAny_Slice (wpAny_mono h (fun _ _ h₁ => wpAny_mono h₁ (fun _ _ h₂ => wpAny_pure h₂) fun _ _ x => x) fun _ _ x => x)
theorem x_part {e : Expr} {Q : Value → Shared → Prop} (h : wpAny M A (eval e env) Q E s) : wpAny M A (evalPart (some e) env) Q E s := h
theorem x_nopart {Q : Value → Shared → Prop} (h : Q .none s) : wpAny M A (evalPart none env) Q E s := wpAny_pure h
end
section
variable {prog : Program} {w : World} {A : Around} {E : Value → Shared → Prop} {gs : Array GenState} {dr : Drawn} {tk : Nat} {os : OsState} {h g : Heap} {L a : Addr} {m : Str → Option Value} {news : List (Addr × Obj)} {Q : Value → Shared → Prop} {t u : Tok}
theorem x_btail {x : List UInt8} {l u : Value} {lo hi : Option Int} {value slice : Expr} (F : Fr g L h m) (N : News g L h news) (hl : IsPart l lo) (hu : IsPart u hi) (hz : x.length ≤ 16777216)
    (hs : ∀ h : Heap, subscripted slice false (.bytes x.toArray t) (.ref h.objs.size) = operate [.ref h.objs.size, .bytes x.toArray t] (getItem (.bytes x.toArray t) (.ref h.objs.size)))
    (ht : ∀ r, letTemporaryGo value (.bytes x.toArray t) r = pure ())
    (H : ∀ h' t' tk', Fr g L h' m → News g L h' news → Q (.bytes (sl x lo hi).toArray t') ⟨h', gs, dr, tk', os⟩) :
    SlQ (fun i s₂ => wpAny (model prog w) A (subscriptTail value slice (.bytes x.toArray t) i) Q E s₂) l u ⟨h, gs, dr, tk, os⟩ :=
  KBc.slice_K (s := ⟨h, gs, dr, tk, os⟩) (ks := KBw.bInts x.toArray) F N rfl hl hu (by rw [KBw.ints_length]; simpa using hz) (fun h' t' k F' N' _ => by
    have := H h' t' k F' N'
    rw [KBc.picked_eq]
    simpa [sl] using this) (hs h) ht
/-! calls -/
variable {name : Str} {scope : Scope} {cd : Value}
theorem Base.get {w : World} {h : Heap} (B : Base w h) {a : Addr} {o : Obj} (e : (objs w.params).lookup a = some o) : h.get? a = some o := by
  refine B.at_ (a, o) ?_
  have : ∀ (l : List (Nat × Obj)), l.lookup a = some o → (a, o) ∈ l := by
    intro l
    induction l with
    | nil => intro h; cases h
    | cons p l ih =>
      obtain ⟨k, u⟩ := p
      intro h
      rw [List.lookup_cons] at h
      by_cases e : a = k
      · subst e; simp at h; subst h; exact .head _
      · rw [beq_eq_false_iff_ne.mpr e] at h; exact .tail _ (ih h)
  exact this _ e
theorem Base.inK {w : World} {h : Heap} (B : Base w h) : Frag.In (objs w.params) h := fun _ _ e => B.get e
/-- a call of one of the program's functions is ready -/
def Called (w : World) (A : Around) (E : Value → Shared → Prop) (f : Addr) (Q : Value → Shared → Prop) (vs : List Value) (s : Shared) : Prop := (∃ o, (objs w.params).lookup f = some o ∧ s.heap.get? f = some o) ∧ wpAny (model pw w) A (call (.ref f) vs) Q E s
theorem x_call {x : Str} {np pos : Pos} {e : Expr} {rest : List Expr} {f : Addr} {o : Obj} {fd : FuncData} (F : Fr g L h m) (B : Base w g) (hv : globs.lookup x = some (.ref f)) (hk : scope.kind = .function) (hl : scope.names.lookup x = some .globalImplicit)
    (hd : (x == ("__debug__" : Str)) = false) (ho : (objs w.params).lookup f = some o) (hdat : o.data = .func fd) (he : starEach (e :: rest) (envOf name scope L a cd) = (false, eval e (envOf name scope L a cd)) :: starEach rest (envOf name scope L a cd))
    (H : wpAny (model pw w) A (spliced (backTo pos (starEach (e :: rest) (envOf name scope L a cd)))) (Called w A E f Q) E ⟨h, gs, dr, tk, os⟩) :
    wpAny (model pw w) A (eval (.Call (.Name x np) (e :: rest) [] pos) (envOf name scope L a cd)) Q E ⟨h, gs, dr, tk, os⟩ := by
  refine wpAny_Call_ofName (x_glob F B hv hk hl hd ?_)
  refine callWith_def (o := o) hdat (wpAny_mono H (fun vs s₁ h₁ => ?_) fun _ _ x => x) he
  obtain ⟨⟨o', e1, e2⟩, h2⟩ := h₁
  rw [ho] at e1
  cases e1
  exact ⟨e2, h2⟩
theorem x_called {f : Addr} {o : Obj} {vs : List Value} (F : Fr g L h m) (B : Base w g) (ho : (objs w.params).lookup f = some o) (H : wpAny (model pw w) A (call (.ref f) vs) Q E ⟨h, gs, dr, tk, os⟩) :
    Called w A E f Q vs ⟨h, gs, dr, tk, os⟩ := ⟨⟨o, ho, (B.keeps F.keep).get ho⟩, H⟩
end
end Mine
end

section
open PySem PySem.W PySem.Calls PyProof.Rows PySem.Spec
set_option Elab.async false
set_option maxRecDepth 100000
set_option maxHeartbeats 400000
namespace Mine
abbrev Ke (h h' : Heap) : Prop := ∀ b o, h.get? b = some o → h'.get? b = some o
theorem Ke.trans {h₁ h₂ h₃ : Heap} (a : Ke h₁ h₂) (b : Ke h₂ h₃) : Ke h₁ h₃ := fun c o e => b c o (a c o e)
section
variable {w : World} {A : Around} {E : Value → Shared → Prop} {gs : Array GenState} {dr : Drawn} {tk : Nat} {os : OsState} {h : Heap} {Q : Value → Shared → Prop}
theorem x_enter {name : Str} {params : Arguments} {body : List Stmt} {scope : Scope} {pm doc : Value} {f c : Addr} {o oc : Obj} {vs : Array Value} {tq : Tok} {vals : List Value} {binds : List (Str × Value)}
    (B : Base w h) (hdep : A.depth < recursionLimit) (ho : (objs w.params).lookup f = some o) (hdat : o.data = .func (docDef name params body scope pm (.ref c) doc))
    (hc : (objs w.params).lookup c = some oc) (hcd : oc.data = .fields vs) (hq : vs[1]? = some (.str name tq))
    (hbind : bindArgs (docDef name params body scope pm (.ref c) doc) ⟨vals, []⟩ = pure binds)
    (hloc : ∀ x ∈ binds, scope.names.lookup x.1 = some .local) (hco : scope.isCoroutine = false) (hgen : scope.isGenerator = false) (hk : scope.kind = .function) (hcell : ∀ x ∈ scope.names, x.2 ≠ .cell)
    (H : ∀ h₁ L tk', L = h.objs.size → Fr h L h₁ (look binds.reverse) → News h L h₁ [] →
      wpAny (model pw w) (A.deeper (envOf name scope L f (.ref c))) (execs body (envOf name scope L f (.ref c))) (fun fl s' => Q (match fl with | .ret v => v | _ => .none) s')
        (fun e s' => wpAny (model pw w) (A.deeper (envOf name scope L f (.ref c))) (leaving (envOf name scope L f (.ref c)) e) (fun _ s'' => E e s'') (fun e' s'' => E e' s'') s') ⟨h₁, gs, dr, tk', os⟩) :
    wpAny (model pw w) A (call (.ref f) vals) Q E ⟨h, gs, dr, tk, os⟩ :=
  wpAny_call (call_plain (s := ⟨h, gs, dr, tk, os⟩) hdep (B.get ho) hdat B.nolimit ⟨c, oc, vs, tq, rfl, B.get hc, hcd, hq⟩ hbind hloc (fun h₁ F => wpAny_mono (H h₁ _ _ rfl F News.nil) (fun fl s' x => x) fun _ _ x => x) hco hgen hk hcell)
end
local macro_rules | `(tactic| tb_start) => `(tactic| first
  | (with_reducible refine' wpAny_execs_cons ?_)
  | (with_reducible refine' wpAny_If ?_)
  | (with_reducible refine' wpAny_Return_some ?_)
  | ((with_reducible refine' wpAny_Assign_Name ?_ ?hs); (case hs => rfl))
  | ((with_reducible refine' wpAny_isTrue_Compare1 ?_ ?hs); (case hs => with_unfolding_all rfl))
  | ((with_reducible refine' wpAny_Compare1 ?_ ?hs); (case hs => with_unfolding_all rfl))
  | (with_reducible refine' wpAny_BinOp ?_)
  | (with_reducible refine' Subscript_ ?_)
  | (with_reducible refine' x_slice ?_)
  | (with_reducible refine' x_part ?_)
  | (with_reducible refine' x_nopart ?_)
  | (with_reducible refine' Tuple_ ?_)
  | (with_reducible refine' List_ ?_)
  | (with_reducible refine' wpAny_items_nil ?_)
  | ((with_reducible refine' wpAny_items_cons ?_ ?hs); (case hs => rfl))
  | ((with_reducible refine' MethodCall_ ?_ ?hs); (case hs => rfl))
  | ((with_reducible refine' x_name ?F ?hv ?hk ?hl ?hd ?_); (case F => assumption); (case hv => rfl); (case hk => rfl); (case hl => rfl); (case hd => decide))
  | ((with_reducible refine' x_glob ?F ?B ?hv ?hk ?hl ?hd ?_); (case F => assumption); (case B => assumption); (case hv => rfl); (case hk => rfl); (case hl => rfl); (case hd => decide))
  | ((with_reducible refine' x_blt ?F ?B ?hb ?hv ?hk ?hl ?hd ?hn ?_); (case F => assumption); (case B => assumption); (case hb => rfl); (case hv => first | reg3_boot | boot_fact); (case hk => rfl); (case hl => rfl); (case hd => decide); (case hn => decide))
  | ((with_reducible refine' x_int ?_); intro _ _)
  | ((with_reducible refine' x_str ?_); intro _ _)
  | ((with_reducible refine' x_bytes ?_); intro _ _)
  | (with_reducible refine' x_none ?_)
  | (with_reducible refine' x_bool ?_)
  | (with_reducible refine' x_truthy ?_)
  | ((with_reducible refine' x_add ?_); intro _ _)
  | ((with_reducible refine' x_sub ?_); intro _ _)
  | (with_reducible refine' x_lt ?_)
  | (with_reducible refine' x_eq ?_)
  | (with_reducible refine' x_beq ?_)
  | ((with_reducible refine' x_store ?F ?N ?hk ?hl ?_); (case F => assumption); (case N => assumption); (case hk => rfl); (case hl => rfl); intro _ _ _ _)
  | ((with_reducible refine' x_tup ?F ?N ?hz ?_); (case F => assumption); (case N => assumption); (case hz => simp); intro _ _ _ _ _)
  | ((with_reducible refine' x_btail ?F ?N ?hl ?hu ?hz ?hs ?ht ?_); (case F => assumption); (case N => assumption); (case hl => first | exact .int _ _ | exact .none); (case hu => first | exact .int _ _ | exact .none); (case hz => omega); (case hs => intro _; with_unfolding_all rfl); (case ht => intro _; with_unfolding_all rfl); intro _ _ _ _ _)
  | ((with_reducible refine' x_bitem ?h0 ?h1 ?hf ?hs ?ht ?_); (case h0 => omega); (case h1 => omega); (case hf => omega); (case hs => with_unfolding_all rfl); (case ht => intro _; with_unfolding_all rfl); intro _ _)
  | ((with_reducible refine' x_call ?F ?B ?hv ?hk ?hl ?hd ?ho ?hdat ?he ?_); (case F => assumption); (case B => assumption); (case hv => rfl); (case hk => rfl); (case hl => rfl); (case hd => decide); (case ho => rfl); (case hdat => rfl); (case he => rfl))
  | ((with_reducible refine' x_called ?F ?B ?ho ?_); (case F => assumption); (case B => assumption); (case ho => rfl))
  | ((with_reducible refine' x_ite ?_ ?_) <;> intro _)
  | (dsimp only))
def be (x : List UInt8) : Int := KFB.value (KBw.bInts x.toArray)
theorem b2i {w : World} {A : Around} {E : Value → Shared → Prop} {gs : Array GenState} {dr : Drawn} {tk : Nat} {os : OsState} {h : Heap} {Q : Value → Shared → Prop} {x : List UInt8} {t : Tok} (B : Base w h) (hd : A.depth < recursionLimit) (hx : x.length ≤ 8)
    (H : ∀ h' t' tk', Ke h h' → Q (.int (be x) t') ⟨h', gs, dr, tk', os⟩) : wpAny (model pw w) A (call (.ref 1464) [.bytes x.toArray t]) Q E ⟨h, gs, dr, tk, os⟩ := by
  refine x_enter B hd (by rfl) (by rfl) (by rfl) (by rfl) (by rfl) (binds := [(Str.ofString "value", _)]) (by rfl) (locs (by rfl)) (by rfl) (by rfl) (by rfl) (by decide) ?_
  intro h₁ L tk' _ F N
  show wpAny _ _ (execs (fdB (sAt 12)) _) _ _ _
  refine wpAny_execs_cons ?_
  repeat tb_start
  refine KFB.getm (s := ⟨h₁, gs, dr, _, os⟩) (K := objs w.params) F N B.inK (by rfl) ?_
  intro x1 h2 F N _
  dsimp only
  refine KFB.callWith_bound N (.head _) ?_
  repeat tb_start
  refine ⟨KFB.at_of N (.head _), KFB.call_big N (.head _) rfl (by rw [KBw.ints_length]; simpa using hx) ?_⟩
  intro t' k
  exact H _ _ _ F.keep
end Mine
end

section
open PySem PySem.W PySem.Calls PyProof.Rows PySem.Spec
set_option Elab.async false
set_option maxRecDepth 100000
set_option maxHeartbeats 400000
namespace Mine
/-- what is known of an exception: its class, its arguments' tuple, its own dict -/
structure Ex where
  cls : Value
  a0 : Value
  dict : Option Addr
  ctx : Value := .none
/-- the exception stands at e; no entry yet (none), or a head entry whose fourth cell is fl -/
def ExAt (h B : Heap) (e : Addr) (x : Ex) (st : Option Value) : Prop :=
  ∃ oe vs, h.get? e = some oe ∧ oe.cls = x.cls ∧ oe.dict = x.dict ∧ oe.data = .fields vs ∧ vs[0]? = some x.a0 ∧ vs[2]? = some x.ctx ∧
    match st with
    | none => vs[1]? = some .none
    | some fl => ∃ T oT ts, vs[1]? = some (.ref T) ∧ B.get? T = none ∧ T ≠ e ∧ h.get? T = some oT ∧ oT.data = .fields ts ∧ ts[3]? = some fl
theorem dict_mapFields (o : Obj) (f) : (o.mapFields f).dict = o.dict := by obtain ⟨c, d, dt, sl⟩ := o; cases dt <;> rfl
section
variable {M : Model} {A : Around} {E : Value → Shared → Prop} {gs : Array GenState} {dr : Drawn} {tk : Nat} {os : OsState} {h B : Heap} {env : Env} {outer : List Env} {L e : Addr} {x : Ex} {Q : Unit → Shared → Prop}
theorem ex_entry {oe : Obj} {vs : Array Value} {head : Value} {hadNext : Bool} (hfr : A.frames = some (env :: outer)) (hf : env.frame = some L) (hkb : B.StaysIn h) (hen : B.get? e = none) (hl : h.FunFrames B (env :: outer))
    (he : h.get? e = some oe) (hd : oe.data = .fields vs) (hsz : 1 < vs.size)
    (H : ∀ h' T oT ts, B.StaysIn h' → h'.FunFrames B (env :: outer) → h'.get? e = some (oe.mapFields (·.setIfInBounds 1 (.ref T))) → B.get? T = none → T ≠ e → h'.get? T = some oT → oT.data = .fields ts → ts[3]? = some (rawInt L) → h.UpToSlots h' → Q () ⟨h', gs, dr, tk, os⟩) :
    wpAny M A (do let a ← frameOf env; let pl ← entryPlaceOf L hadNext; let b ← EntryCells.newEntry head a .none (rawInt L) .none pl; setField (.ref e) 1 b) Q E ⟨h, gs, dr, tk, os⟩ := by
  have hene : e ∉ (env :: outer).filterMap (·.frame) := fun hm => by
    obtain ⟨_, o, ho, hnf⟩ := hl.mem hm
    rw [he] at ho
    cases ho
    exact hnf vs hd
  refine wpAny_bind (wpAny_frameOf_fun (s := ⟨h, gs, dr, tk, os⟩) hfr hl hf fun h₁ hs₁ => ?_)
  refine wpAny_bind (wpAny_entryPlaceOf fun pl hpl => ?_)
  unfold EntryCells.newEntry newFields
  refine wpAny_bind (wpAny_newObj_type ?_ (hpl.sizeOk5 _ _ _ _ _))
  have he₁ : h₁.get? e = some oe := (hs₁.2.1 e hene).trans he
  have kb₁ : B.StaysIn h₁ := fun b o hbo => (hs₁.2.1 b fun hm => by rw [(hl.mem hm).1] at hbo; cases hbo).trans (hkb b o hbo)
  generalize hpo : ({ cls := .type "traceback", dict := none, data := .fields ([head, .ref L, .none, rawInt L, .none] ++ (if pl.isEmpty then List.replicate 6 Value.none else pl)).toArray } : Obj) = po
  have hpd : po.data = .fields ([head, .ref L, .none, rawInt L, .none] ++ (if pl.isEmpty then List.replicate 6 Value.none else pl)).toArray := by rw [← hpo]
  have hpf : po.isFreed = false := by rw [← hpo]; rfl
  have he₂ := Heap.get?_push_of_some (h := h₁) po he₁
  refine wpAny_setField (s := ⟨h₁.push po, gs, dr, tk, os⟩) he₂ hd hsz ?_
  have hTe : h₁.objs.size ≠ e := Nat.ne_of_gt (Heap.lt_size he₁)
  have keep : ∀ b o, b ≠ e → h₁.get? b = some o → ((h₁.push po).update e (Obj.mapFields (·.setIfInBounds 1 (Value.ref h₁.objs.size)))).get? b = some o := fun b o hbe hb => by
    rw [Heap.get?_update_other _ _ (Ne.symm hbe)]
    exact Heap.get?_push_of_some _ hb
  have noRecord : ∀ b o, h.get? b = some o → (∀ vs, o.data ≠ .fields vs) → b ≠ e := fun b o hb hnf q => by
    rw [q, he] at hb
    cases hb
    exact hnf vs hd
  refine H _ h₁.objs.size po _ (fun b o hbo => keep b o (fun q => by rw [q, hen] at hbo; cases hbo) (kb₁ b o hbo)) (hl.of_keeps fun b o hb hnf => ?_)
    (Heap.get?_update_self _ he₂ (Obj.isFreed_of_fields (Obj.data_mapFields hd _))) kb₁.fresh hTe ?_ hpd (by simp) fun b o hb hnf => ?_
  · obtain ⟨sl, hs⟩ := hs₁.2.2 b o hb
    exact ⟨_, keep b _ (noRecord b o hb hnf) hs, rfl⟩
  · rw [Heap.get?_update_other _ _ (Ne.symm hTe)]
    exact Heap.get?_push_size _ hpf
  · obtain ⟨sl, hs⟩ := hs₁.2.2 b o hb
    exact ⟨sl, keep b _ (noRecord b o hb hnf) hs⟩
/-- an exception that is not yet noted in this frame -/
theorem ex_note {st : Option Value} (hfr : A.frames = some (env :: outer)) (hf : env.frame = some L) (hkb : B.StaysIn h) (hen : B.get? e = none) (hl : h.FunFrames B (env :: outer)) (ht : ExAt h B e x st) (hst : st = none ∨ st = some .none)
    (H : ∀ h', B.StaysIn h' → h'.FunFrames B (env :: outer) → ExAt h' B e x (some (rawInt L)) → h.UpToSlots h' → Q () ⟨h', gs, dr, tk, os⟩) : wpAny M A (noteFrame (.ref e) env) Q E ⟨h, gs, dr, tk, os⟩ := by
  obtain ⟨oe, vs, he, hc, hdi, hd, h0, h2, hr⟩ := ht
  unfold noteFrame
  simp only [hf]
  have hsz0 : 0 < vs.size := (Array.getElem?_eq_some_iff.mp h0).1
  rcases hst with rfl | rfl
  · refine wpAny_bind (wpAny_field he hd hr ?_)
    rw [if_neg (by decide)]
    refine ex_entry hfr hf hkb hen hl he hd (Array.getElem?_eq_some_iff.mp hr).1 fun h' T oT ts k1 k2 k3 k4 k5 k6 k7 k8 k9 => H h' k1 k2 ?_ k9
    exact ⟨_, _, k3, (Obj.cls_mapFields _ _).trans hc, (dict_mapFields _ _).trans hdi, Obj.data_mapFields hd _, by rw [Array.getElem?_setIfInBounds_ne (by decide)]; exact h0, by rw [Array.getElem?_setIfInBounds_ne (by decide)]; exact h2, T, oT, ts, by simp [(Array.getElem?_eq_some_iff.mp hr).1], k4, k5, k6, k7, k8⟩
  · obtain ⟨T, oT, ts, h1, hnT, hTe, hT, hdT, h3⟩ := hr
    refine wpAny_bind (wpAny_field he hd h1 ?_)
    rw [if_pos (show (Value.ref T != Value.none) = true from by simp)]
    refine wpAny_bind (wpAny_field hT hdT h3 ?_)
    rw [if_neg (show ¬ ((Value.none == rawInt L) = true) from by simp [rawInt])]
    refine wpAny_bind (wpAny_setField (s := ⟨h, gs, dr, tk, os⟩) hT hdT (Array.getElem?_eq_some_iff.mp h3).1 ?_)
    have other : ∀ b, b ≠ T → (h.update T (Obj.mapFields (·.setIfInBounds 3 Value.none))).get? b = h.get? b := fun b hb => Heap.get?_update_other _ _ (Ne.symm hb)
    have noRecord : ∀ b o, h.get? b = some o → (∀ vs, o.data ≠ .fields vs) → b ≠ T := fun b o hb hnf q => by
      rw [q, hT] at hb
      cases hb
      exact hnf ts hdT
    refine ex_entry hfr hf (fun b o hbo => (other b fun q => by rw [q, hnT] at hbo; cases hbo).trans (hkb b o hbo)) hen (hl.of_keeps fun b o hb hnf => ⟨o, (other b (noRecord b o hb hnf)).trans hb, rfl⟩)
      ((other e (Ne.symm hTe)).trans he) hd (Array.getElem?_eq_some_iff.mp h1).1 fun h' T' oT' ts' k1 k2 k3 k4 k5 k6 k7 k8 k9 => H h' k1 k2 ?_ fun b o hb hnf => k9 b o ((other b (noRecord b o hb hnf)).trans hb) hnf
    exact ⟨_, _, k3, (Obj.cls_mapFields _ _).trans hc, (dict_mapFields _ _).trans hdi, Obj.data_mapFields hd _, by rw [Array.getElem?_setIfInBounds_ne (by decide)]; exact h0, by rw [Array.getElem?_setIfInBounds_ne (by decide)]; exact h2, T', oT', ts', by simp [(Array.getElem?_eq_some_iff.mp h1).1], k4, k5, k6, k7, k8⟩
theorem ex_again (hf : env.frame = some L) (ht : ExAt h B e x (some (rawInt L))) (H : Q () ⟨h, gs, dr, tk, os⟩) : wpAny M A (noteFrame (.ref e) env) Q E ⟨h, gs, dr, tk, os⟩ := by
  obtain ⟨oe, vs, he, hc, hdi, hd, h0, h2, T, oT, ts, h1, hnT, hTe, hT, hdT, h3⟩ := ht
  unfold noteFrame
  simp only [hf]
  refine wpAny_bind (wpAny_field he hd h1 ?_)
  rw [if_pos (show (Value.ref T != Value.none) = true from by simp)]
  refine wpAny_bind (wpAny_field hT hdT h3 ?_)
  rw [if_pos (show (rawInt L == rawInt L) = true from by simp)]
  exact wpAny_pure H
theorem ex_flight {fl : Value} {to : Option Addr} {l : List Env} (hkb : B.StaysIn h) (hl : h.FunFrames B l) (ht : ExAt h B e x (some fl))
    (H : ∀ h', B.StaysIn h' → h'.FunFrames B l → ExAt h' B e x (some (to.elim .none fun f => rawInt f)) → h.UpToSlots h' → Q () ⟨h', gs, dr, tk, os⟩) : wpAny M A (setFlight (.ref e) to) Q E ⟨h, gs, dr, tk, os⟩ := by
  obtain ⟨oe, vs, he, hc, hdi, hd, h0, h2, T, oT, ts, h1, hnT, hTe, hT, hdT, h3⟩ := ht
  have hsz3 : 3 < ts.size := (Array.getElem?_eq_some_iff.mp h3).1
  have other : ∀ b, b ≠ T → (h.update T (Obj.mapFields (·.setIfInBounds 3 (to.elim Value.none fun f => rawInt f)))).get? b = h.get? b := fun b hb => Heap.get?_update_other _ _ (Ne.symm hb)
  have noRecord : ∀ b o, h.get? b = some o → (∀ vs, o.data ≠ .fields vs) → b ≠ T := fun b o hb hnf q => by
    rw [q, hT] at hb
    cases hb
    exact hnf ts hdT
  unfold setFlight
  refine wpAny_bind (wpAny_field he hd h1 ?_)
  rw [if_pos (show (Value.ref T != Value.none) = true from by simp)]
  refine wpAny_setField (s := ⟨h, gs, dr, tk, os⟩) hT hdT hsz3 (H _ (fun b o hbo => (other b fun q => by rw [q, hnT] at hbo; cases hbo).trans (hkb b o hbo))
    (hl.of_keeps fun b o hb hnf => ⟨o, (other b (noRecord b o hb hnf)).trans hb, rfl⟩) ?_ fun b o hb hnf => ⟨o.slots, (other b (noRecord b o hb hnf)).trans hb⟩)
  exact ⟨oe, vs, (other e (Ne.symm hTe)).trans he, hc, hdi, hd, h0, h2, T, _, _, h1, hnT, hTe, Heap.get?_update_self _ hT (Obj.isFreed_of_fields (Obj.data_mapFields hdT _)), Obj.data_mapFields hdT _, by simp [hsz3]⟩
end
/-- an exception comes up to the frames l: what B holds stands as it was -/
def Fly (B : Heap) (l : List Env) (e : Addr) (x : Ex) (st : Option Value) (h : Heap) : Prop := B.StaysIn h ∧ B.get? e = none ∧ h.FunFrames B l ∧ ExAt h B e x st
section
variable {M : Model} {A : Around} {E : Value → Shared → Prop} {gs : Array GenState} {dr : Drawn} {tk : Nat} {os : OsState} {h B : Heap} {env : Env} {outer : List Env} {L e : Addr} {x : Ex} {Q : Unit → Shared → Prop}
theorem fly_note {st : Option Value} (hfr : A.frames = some (env :: outer)) (hf : env.frame = some L) (X : Fly B (env :: outer) e x st h) (hst : st = none ∨ st = some .none)
    (H : ∀ h', Fly B (env :: outer) e x (some (rawInt L)) h' → h.UpToSlots h' → Q () ⟨h', gs, dr, tk, os⟩) : wpAny M A (noteFrame (.ref e) env) Q E ⟨h, gs, dr, tk, os⟩ :=
  ex_note hfr hf X.1 X.2.1 X.2.2.1 X.2.2.2 hst fun h' k1 k2 k3 k4 => H h' ⟨k1, X.2.1, k2, k3⟩ k4
theorem fly_flight {fl : Value} {to : Option Addr} {l : List Env} (X : Fly B l e x (some fl) h) (H : ∀ h', Fly B l e x (some (to.elim .none fun f => rawInt f)) h' → h.UpToSlots h' → Q () ⟨h', gs, dr, tk, os⟩) :
    wpAny M A (setFlight (.ref e) to) Q E ⟨h, gs, dr, tk, os⟩ := ex_flight X.1 X.2.2.1 X.2.2.2 fun h' k1 k2 k3 k4 => H h' ⟨k1, X.2.1, k2, k3⟩ k4
/-- out of a frame: fresh, flying, or held in this very frame -/
theorem fly_leave {st : Option Value} (hfr : A.frames = some (env :: outer)) (hf : env.frame = some L) (X : Fly B (env :: outer) e x st h) (hst : (st = none ∨ st = some .none) ∨ st = some (rawInt L))
    (H : ∀ h', Fly B outer e x (some .none) h' → h.UpToSlots h' → Q () ⟨h', gs, dr, tk, os⟩) : wpAny M A (leaving env (.ref e)) Q E ⟨h, gs, dr, tk, os⟩ := by
  unfold leaving
  have fin : ∀ h₁, Fly B (env :: outer) e x (some (rawInt L)) h₁ → h.UpToSlots h₁ → wpAny M A (setFlight (.ref e) none) Q E ⟨h₁, gs, dr, tk, os⟩ := fun h₁ X₁ u₁ =>
    fly_flight X₁ fun h' X' u' => H h' ⟨X'.1, X'.2.1, X'.2.2.1.2.2, X'.2.2.2⟩ (u₁.trans u')
  rcases hst with hst | rfl
  · exact wpAny_bind (fly_note hfr hf X hst fin)
  · exact wpAny_bind (ex_again hf X.2.2.2 (fin h X (.refl h)))
end
end Mine
end

section
open PySem PySem.W PySem.Calls PyProof.Rows PySem.Spec
set_option Elab.async false
set_option maxRecDepth 100000
set_option maxHeartbeats 400000
namespace Mine
abbrev fs (l : List Env) : List Addr := l.filterMap (·.frame)
/-- an exception came out of a call that began at the heap g, under the frames l -/
def Thrown (g : Heap) (l : List Env) (e : Addr) (x : Ex) (h' : Heap) : Prop := Fly (hideAll g (fs l)) l e x (some .none) h' ∧ g.UpToSlots h'
theorem Fly.weaken {B B' : Heap} {l : List Env} {e : Addr} {x : Ex} {st : Option Value} {h : Heap} (k : B'.StaysIn B) (X : Fly B l e x st h) : Fly B' l e x st h := by
  obtain ⟨a, b, c, oe, vs, d1, d2, d3, d4, d5, d5', d6⟩ := X
  refine ⟨fun p o q => a p o (k p o q), fresh_of_stays k b, funFrames_base k c, oe, vs, d1, d2, d3, d4, d5, d5', ?_⟩
  cases st with
  | none => exact d6
  | some fl =>
    obtain ⟨T, oT, ts, q1, q2, q3⟩ := d6
    exact ⟨T, oT, ts, q1, fresh_of_stays k q2, q3⟩
theorem hide_in {g h : Heap} {env : Env} {outer : List Env} {L : Addr} {m : Str → Option Value} (F : Fr g L h m) (hf : env.frame = some L) : (hideAll g (fs outer)).StaysIn (hideAll h (fs (env :: outer))) := fun b o q => by
  have hb : b ∉ fs outer := fun hm => by rw [hideAll_none _ hm] at q; cases q
  have q' := of_hideAll _ q
  refine hideAll_get _ (F.keep b o q') fun hm => ?_
  rw [fs, List.filterMap_cons, hf] at hm
  rcases List.mem_cons.mp hm with rfl | hm
  · exact absurd (Heap.lt_size q') (Nat.not_lt.mpr F.above)
  · exact hb hm
section
variable {M : Model} {A : Around} {E E' : Value → Shared → Prop} {gs : Array GenState} {dr : Drawn} {tk : Nat} {os : OsState} {hb g h h' : Heap} {outer : List Env} {L a e : Addr} {m : Str → Option Value} {name : Str} {scope : Scope} {cd : Value} {x : Ex}
theorem fly_made (K : Below A hb outer g) (F : Fr g L h m) (hk : scope.kind = .function) (k : Ke h h') (hn : h.get? e = none) (ht : ExAt h' h' e x none) :
    Fly (hideAll h (fs (envOf name scope L a cd :: outer))) (envOf name scope L a cd :: outer) e x none h' := by
  have K' := K.push (name := name) (a := a) (cd := cd) F hk
  refine ⟨fun b o q => k b o (of_hideAll _ q), ?_, ?_, ht⟩
  · cases q : (hideAll h (fs (envOf name scope L a cd :: outer))).get? e with
    | none => rfl
    | some o => have := of_hideAll _ q; rw [hn] at this; cases this
  · exact (funFrames_hide K'.frames fun env he b hb => List.mem_filterMap.mpr ⟨env, he, hb⟩).of_keeps fun b o hb _ => ⟨o, k b o hb, rfl⟩
/-- made here, out of the frame -/
theorem leave_made (K : Below A hb outer g) (F : Fr g L h m) (hk : scope.kind = .function) (k : Ke h h') (hn : h.get? e = none) (ht : ExAt h' h' e x none)
    (H : ∀ h'', Thrown g outer e x h'' → h'.UpToSlots h'' → E (.ref e) ⟨h'', gs, dr, tk, os⟩) :
    wpAny M (A.deeper (envOf name scope L a cd)) (leaving (envOf name scope L a cd) (.ref e)) (fun _ s'' => E (.ref e) s'') E' ⟨h', gs, dr, tk, os⟩ :=
  fly_leave (Around.frames_deeper K.stack) rfl (fly_made K F hk k hn ht) (.inl (.inl rfl)) fun h'' X u => H h'' ⟨X.weaken (hide_in F rfl), ((Heap.UpToSlots.of_keeps F.keep).trans (Heap.UpToSlots.of_keeps k)).trans u⟩ u
/-- come up from a call that began at the body's heap h -/
theorem leave_thrown (K : Below A hb outer g) (F : Fr g L h m) (T : Thrown h (envOf name scope L a cd :: outer) e x h')
    (H : ∀ h'', Thrown g outer e x h'' → h'.UpToSlots h'' → E (.ref e) ⟨h'', gs, dr, tk, os⟩) :
    wpAny M (A.deeper (envOf name scope L a cd)) (leaving (envOf name scope L a cd) (.ref e)) (fun _ s'' => E (.ref e) s'') E' ⟨h', gs, dr, tk, os⟩ :=
  fly_leave (Around.frames_deeper K.stack) rfl T.1 (.inl (.inr rfl)) fun h'' X u => H h'' ⟨X.weaken (hide_in F rfl), ((Heap.UpToSlots.of_keeps F.keep).trans T.2).trans u⟩ u
end
section
variable {prog : Program} {w : World} {A : Around} {E : Value → Shared → Prop} {gs : Array GenState} {dr : Drawn} {tk : Nat} {os : OsState} {h : Heap} {Q : Value → Shared → Prop} {t : Tok}
open Builtin in
theorem x_bitem_out {x : List UInt8} {i : Int} {ui : Tok} {value slice : Expr} (hA : A.handled = none) (h1 : (x.length : Int) ≤ i)
    (hs : subscripted slice false (.bytes x.toArray t) (.int i ui) = operate [.bytes x.toArray t, .int i ui] (getItem (.bytes x.toArray t) (.int i ui)))
    (ht : ∀ r, letTemporaryGo value (.bytes x.toArray t) r = pure ()) (H : ∀ h' e tk', Heap.NewExc h h' e "IndexError" → E (.ref e) ⟨h', gs, dr, tk', os⟩) :
    wpAny (model prog w) A (subscriptTail value slice (.bytes x.toArray t) (.int i ui)) Q E ⟨h, gs, dr, tk, os⟩ := by
  refine subscriptTail_builtin (typeIs_bytes _ _ _) FB.slot_bytes_getitem.lookup ?_ hs ht
  refine getItem_meets (S := raisesNew "IndexError") (typeIs_bytes _ _ _) (by decide) FB.slot_bytes_getitem FB.entry_bytes_getitem (FB.args_bytes_getitem_2 _ _) ?_ ⟨hA, fun h' tk' e hx => H h' e tk' hx⟩
  refine .of_wp fun prog w A R s hS => ?_
  show wpAny _ _ (Bytes.subscript? (.int i ui) >>= fun r => _) _ _ s
  refine wpAny_bind ?_
  unfold Bytes.subscript?
  refine wpAny_bind (wpAny_specialOf (typeIs_int s i ui) F.slot_int_index.lookup ?_)
  show wpAny _ _ (if (!Bytes.fitsIndex i) = true then _ else pure (some i)) _ _ s
  cases hf : Bytes.fitsIndex i with
  | false =>
    simp only [Bool.not_false, if_true]
    refine wpAny_bind (wpAny_rule (wpAny_bind ?_))
    refine wpAny_mono (Q := fun n s' => n = "int" ∧ s' = s) (E := fun _ _ => False) ?_ (fun n s' q => ?_) fun _ _ z => z.elim
    · first | exact wpAny_of_eq (a := "int") (by rfl) ⟨rfl, rfl⟩ | exact wpAny_of_eq (a := "int") (by kernel_rfl) ⟨rfl, rfl⟩
    · obtain ⟨rfl, rfl⟩ := q
      exact wpAny_bind (wpAny_raiseErrorMade plainExc_IndexError hS.1 hS.2 (by decide))
  | true =>
  simp only [Bool.not_true, Bool.false_eq_true, if_false]
  refine wpAny_pure ?_
  have hn : (seqIndex? i x.toArray.size).bind (x.toArray[·]?) = none := by
    have : seqIndex? i x.toArray.size = none := by
      unfold seqIndex?
      have h0 : ¬ i < 0 := by omega
      simp only [h0, if_false]
      rw [if_neg]
      simp only [List.size_toArray, Bool.and_eq_true, decide_eq_true_eq]
      omega
    rw [this]; rfl
  show wpAny _ _ (match (seqIndex? i x.toArray.size).bind (x.toArray[·]?) with | some x => retInt x.toNat | none => _) _ _ s
  rw [hn]
  exact wpAny_bind (wpAny_rule (wpAny_bind (wpAny_raiseErrorWords plainExc_IndexError hS.1 hS.2)))
theorem exAt_new {h' B : Heap} {e : Addr} {cls : String} (N : Heap.NewExc h h' e cls) : ∃ x : Ex, x.cls = .type cls ∧ x.ctx = .none ∧ ExAt h' B e x none := by
  obtain ⟨ob, t, h1, h2, h3⟩ := N.there
  exact ⟨⟨.type cls, t, ob.dict, .none⟩, rfl, rfl, ob, _, h1, h2, rfl, h3, rfl, rfl, rfl⟩
end
end Mine
end

section
open PySem PySem.W PySem.Calls PyProof.Rows PySem.Spec
set_option Elab.async false
set_option maxRecDepth 100000
set_option maxHeartbeats 400000
namespace Mine
section
variable {prog : Program} {w : World} {A : Around} {E : Value → Shared → Prop} {h : Heap} {g : Array GenState} {d : Drawn} {t : Nat} {os : OsState}
variable {nm q : Str} {C N : Addr} {bs bm bmB : List Value} {hdct : Bool} {sn : List Str} {sub : List Value} {ab : Bool} {col : Option Bool} {dd : Option Addr} {k0 k1 k2 k3 k5 : Option Value} {B newId initId : String}
/-- an exception class of the text's own, below another of the text's own, with an __init__ of its own: the call -/
theorem type_call_own (F : ExcBaseFacts B newId initId bmB) (T : OwnTail h bmB bm) {mN : Str → Option Value} {rest : List Value} {fI : Addr} {oI : Obj} {Q : Fin → Shared → Prop}
    (hC : h.get? C = some (excClassObj nm q C N bs bm hdct sn sub ab col dd k0 k1 k2 k3 k5 newId)) (hn : h.Ns N mN) (hi : mN "__init__" = some (.ref fI)) (hfI : h.get? fI = some oI) (hfc : oI.cls = .type "function")
    (hq : ∀ h' e, Heap.MadeExcOf h h' e (.ref C) rest → wpAny (model prog w) A (call (.ref fI) (.ref e :: rest)) (fun r s' => r = .none ∧ Q (.done (.ret (.ref e))) s') E ⟨h', g, d, t, os⟩) (hrest : rest.length ≤ sizeLine) :
    wpAny (model prog w) A (Builtin.«type.__call__» ⟨.ref C :: rest, []⟩) Q E ⟨h, g, d, t, os⟩ := by
  repeat (first | with_reducible refine wpAny_loadPart_at hC ?_ | with_reducible refine wpAny_madeBy_exc hC ?_ | wp_step)
  refine codeAny_call_builtin_code (Code.quiet_builtin _ F.quiet) (wpAny_check_new_subT F T hC ?_)
  refine codeAny_exc_new_subT F T hC ?_ hrest
  show wpAny _ _ _ _ _ _
  have hC₁ := Heap.get?_push_of_some { cls := .ref C, data := .fields #[.ref h.objs.size, .none, .none, .none, .bool false, .none] } (Heap.get?_push_of_some { cls := .type "tuple", data := .seq rest.toArray } hC)
  have hfI₁ := Heap.get?_push_of_some { cls := .ref C, data := .fields #[.ref h.objs.size, .none, .none, .none, .bool false, .none] } (Heap.get?_push_of_some { cls := .type "tuple", data := .seq rest.toArray } hfI)
  have hn₁ : ((h.push { cls := .type "tuple", data := .seq rest.toArray }).push { cls := .ref C, data := .fields #[.ref h.objs.size, .none, .none, .none, .bool false, .none] }).Ns N mN :=
    hn.keeps fun b o e => Heap.get?_push_of_some _ (Heap.get?_push_of_some _ e)
  have T₁ : OwnTail ((h.push { cls := .type "tuple", data := .seq rest.toArray }).push { cls := .ref C, data := .fields #[.ref h.objs.size, .none, .none, .none, .bool false, .none] }) bmB bm :=
    T.keeps fun b o e => Heap.get?_push_of_some _ (Heap.get?_push_of_some _ e)
  have hget : ((h.push { cls := .type "tuple", data := .seq rest.toArray }).push { cls := .ref C, data := .fields #[.ref h.objs.size, .none, .none, .none, .bool false, .none] }).get? (h.objs.size + 1) = some
      { cls := .ref C, data := .fields #[.ref h.objs.size, .none, .none, .none, .bool false, .none] } := by heap_get
  have hcC : (Value.ref C :: bm).contains (.ref C) = true := by simp
  unfold isInstance
  repeat (first | with_reducible refine wpAny_loadPart_at hget ?_ | (with_reducible refine wpAny_isSubtype_exc hC₁ ?_; rw [hcC]) | wp_step)
  show wpAny _ _ (typeLookup (.ref C) _) _ _ _
  refine wpAny_typeLookup_tail hC₁ hn₁ T₁ F.mroIs F.init.lookup ?_
  rw [hi]
  refine wpAny_holding (wpAny_bind ?_)
  unfold bindSpecial
  refine wpAny_bind (wpAny_typeOf (T := "function") ⟨_, hfI₁, hfc⟩ ?_)
  rw [if_pos (by decide)]
  refine wpAny_pure (wpAny_bind (wpAny_mono (hq _ (h.objs.size + 1) ⟨fun b o hb => Heap.get?_push_of_some _ (Heap.get?_push_of_some _ hb), Heap.get?_none_of_le (Nat.le_succ _), h.objs.size, hget, Heap.get?_none_of_le (Nat.le_refl _), ?_⟩) (fun r s' hr => ?_) fun _ _ x => x))
  · exact Heap.get?_push_of_some _ (Heap.get?_push_at rfl rfl)
  · obtain ⟨rfl, hQ⟩ := hr
    wp_walk
    exact hQ
theorem call_own (F : ExcBaseFacts B newId initId bmB) (T : OwnTail h bmB bm) {mN : Str → Option Value} {rest : List Value} {fI : Addr} {oI : Obj} {Q : Value → Shared → Prop}
    (hC : h.get? C = some (excClassObj nm q C N bs bm hdct sn sub ab col dd k0 k1 k2 k3 k5 newId)) (hn : h.Ns N mN) (hi : mN "__init__" = some (.ref fI)) (hfI : h.get? fI = some oI) (hfc : oI.cls = .type "function")
    (hq : ∀ h' e, Heap.MadeExcOf h h' e (.ref C) rest →
      wpAny (model prog w) (A.under (.builtin "type.__call__" ⟨.ref C :: rest, []⟩)) (call (.ref fI) (.ref e :: rest)) (fun r s' => r = .none ∧ Q (.ref e) s') E ⟨h', g, d, t, os⟩) (hrest : rest.length ≤ sizeLine) :
    wpAny (model prog w) A (call (.ref C) rest) Q E ⟨h, g, d, t, os⟩ := by
  have f1 := tc_lookup
  have f2 := tc_bind (.ref C)
  have hT : (⟨h, g, d, t, os⟩ : Shared).TypeIs (.ref C) "type" := ⟨_, hC, rfl⟩
  refine wpAny_call (codeAny_of_tree ?_)
  show wpAny _ _ (callAny (.ref C) _) _ _ _
  repeat (any_goals (first | assumption | with_reducible refine wpAny_loadPart_at hC ?_ | wp_step))
  refine ⟨rfl, ?_⟩
  refine codeAny_call_builtin_at (Code.quiet_builtin _ (by decide +kernel)) entry_typeCall (wpAny_check_type_call_sub hC (type_call_own (hrest := hrest) F T hC hn hi hfI hfc fun h' e hm => ?_))
  exact hq h' e hm
end
end Mine
end

section
open PySem PySem.W PySem.Calls PyProof.Rows PySem.Spec
set_option Elab.async false
set_option maxRecDepth 100000
set_option maxHeartbeats 400000
namespace Mine
theorem owner_init : (kfb_private% "ownerAndName") "Exception.__init__" = ("Exception", "__init__") := by first | decide +kernel | kernel_rfl
def initBound (x : Addr) : Obj := { cls := .type "method-wrapper", data := .fields #[.builtin "Exception.__init__", .ref x] }
theorem slot_wget : Slot "wrapper_descriptor" "__get__" "wrapper_descriptor.__get__" := .of (owner := "wrapper_descriptor") (n := "__get__") (by rw [typeLookup_type, builtinLookup_eq_fast]; kernel_rfl) (by decide +kernel) (by decide +kernel) (by decide +kernel) (by first | exact .inl (by decide +kernel) | exact .inr (by decide +kernel)) (by rw [isSubtype_type]; kernel_rfl)
theorem entry_wget : entryFor table "wrapper_descriptor.__get__" = some Builtin.«wrapper_descriptor.__get__» := entryFor_of_tree (by kernel_rfl)
theorem args_wget (a b c : Value) : argsOk "wrapper_descriptor.__get__" ⟨[a, b, c], []⟩ := by unfold argsOk; kernel_rfl
theorem type_init : typeOf (.builtin "Exception.__init__") = pure (.type "wrapper_descriptor") := by show builtinType _ = _; rw [builtinType_eq_fast]; kernel_rfl
section
variable {prog : Program} {w : World} {A : Around} {E : Value → Shared → Prop} {h : Heap} {g : Array GenState} {d : Drawn} {t : Nat} {os : OsState}
open Builtin in
theorem run_wget {x : Addr} {c : Value} {P : Fin → Shared → Prop} (hi : wpAny (model prog w) A (isInstance (.ref x) (.type "Exception")) (fun b s => b = true ∧ s = ⟨h, g, d, t, os⟩) (fun _ _ => False) ⟨h, g, d, t, os⟩)
    (hq : P (.done (.ret (.ref h.objs.size))) ⟨h.push (initBound x), g, d, t, os⟩) :
    wpAny (model prog w) A (Builtin.«wrapper_descriptor.__get__» ⟨[.builtin "Exception.__init__", .ref x, c], []⟩) P E ⟨h, g, d, t, os⟩ := by
  unfold Builtin.«wrapper_descriptor.__get__»
  refine wpAny_bind (wpAny_of_eq (a := (.builtin "Exception.__init__", some (.ref x), if c == .none then none else some c)) (by first | rfl | kernel_rfl) ?_)
  show wpAny _ _ (((kfb_private% "checkInstance") (.builtin "Exception.__init__") (.ref x)) >>= fun _ => newFields "method-wrapper" [.builtin "Exception.__init__", .ref x] >>= fun v => ret v) _ _ _
  refine wpAny_bind ?_
  have e : (kfb_private% "checkInstance") (.builtin "Exception.__init__") (.ref x) = (isInstance (.ref x) (.type "Exception") >>= fun b => if !b then (do
      rule "descr.get.wrong-instance"
      raiseError "TypeError" s!"descriptor '{(Str.ofString "__init__").toString}' for '{← typeName (.type "Exception")}' objects doesn't apply to a '{← typeNameOf (.ref x)}' object") else pure ()) := by first | rfl | kernel_rfl
  rw [e]
  refine wpAny_bind (wpAny_mono hi (fun b s hb => ?_) fun _ _ z => z.elim)
  obtain ⟨rfl, rfl⟩ := hb
  refine wpAny_pure ?_
  exact wpAny_bind (wpAny_newObj_type (wpAny_pure hq))
theorem super_ga_init {so D x C : Addr} {l₀ l : List Value} {K : Frag} {tk : Tok} {Q : Fin → Shared → Prop}
    (hso : h.get? so = some { cls := .type "super", dict := none, data := .fields #[.ref D, .ref x, .ref C], slots := #[] }) (hno : Looks (model prog w) h (opaqueClassAbove (.ref C)) none)
    (hC : Looks (model prog w) h (mroOf (.ref C)) l₀) (hl : (l₀.dropWhile (· != .ref D)).drop 1 = l) (X : K.In h)
    (hf : alongIn K "__init__" l = some (some (.builtin "Exception.__init__"))) (hxC : x ≠ C)
    (hi : ∀ A, wpAny (model prog w) A (isInstance (.ref x) (.type "Exception")) (fun b s => b = true ∧ s = ⟨h, g, d, t, os⟩) (fun _ _ => False) ⟨h, g, d, t, os⟩)
    (hq : Q (.done (.ret (.ref h.objs.size))) ⟨h.push (initBound x), g, d, t, os⟩) :
    wpAny (model prog w) A (Builtin.«super.__getattribute__» ⟨[.ref so, .str "__init__" tk], []⟩) Q E ⟨h, g, d, t, os⟩ := by
  have hlk := slot_wget.lookup
  have hne : (Value.ref x == Value.ref C) = false := by simp [hxC]
  have hn : (("__init__" : Str) == ("__class__" : Str)) = false := by decide
  have hty := type_init
  have hdt : ({ cls := .type "super", dict := none, data := .fields #[.ref D, .ref x, .ref C], slots := #[] } : Obj).data = .fields #[.ref D, .ref x, .ref C] := rfl
  have f0 : (#[.ref D, .ref x, .ref C] : Array Value)[0]? = some (.ref D) := rfl
  have f1 : (#[.ref D, .ref x, .ref C] : Array Value)[1]? = some (.ref x) := rfl
  have f2 : (#[.ref D, .ref x, .ref C] : Array Value)[2]? = some (.ref C) := rfl
  unfold Builtin.«super.__getattribute__»
  repeat (first
    | (with_reducible refine wpAny_field hso hdt f0 ?_) | (with_reducible refine wpAny_field hso hdt f1 ?_) | (with_reducible refine wpAny_field hso hdt f2 ?_)
    | (with_reducible refine ks_wpAny_notOpaque hno ?_)
    | (with_reducible refine Looks.at hC ?_; rw [hl])
    | (refine ks_forIn_along X (fun _ _ => rfl) rfl ?_ hf)
    | (with_reducible refine wpAny_of_eq hty ?_)
    | (with_reducible refine wpAny_of_eq hlk ?_)
    | (refine wpAny_call_entry slot_wget hty entry_wget (run_wget (hi _) ?_) (args_wget _ _ _))
    | (with_reducible refine ⟨_, rfl, ?_⟩)
    | (simp only [hn, hne, Bool.or_false, Bool.false_eq_true, if_false])
    | wp_step
    | dsimp only)
  all_goals exact hq
end
end Mine
end

section
open PySem PySem.W PySem.Calls PyProof.Rows PySem.Spec
set_option Elab.async false
set_option maxRecDepth 100000
set_option maxHeartbeats 400000
namespace Mine
section
variable {prog : Program} {w : World} {A : Around} {E : Value → Shared → Prop} {h : Heap} {g : Array GenState} {d : Drawn} {t : Nat} {os : OsState}
theorem get_init {so D x C : Addr} {l₀ l : List Value} {K : Frag} {pl : Sem Bool} {Q : Value × List Value → Shared → Prop}
    (hso : h.get? so = some { cls := .type "super", dict := none, data := .fields #[.ref D, .ref x, .ref C], slots := #[] }) (hno : Looks (model prog w) h (opaqueClassAbove (.ref C)) none)
    (hC : Looks (model prog w) h (mroOf (.ref C)) l₀) (hl : (l₀.dropWhile (· != .ref D)).drop 1 = l) (X : K.In h)
    (hf : alongIn K "__init__" l = some (some (.builtin "Exception.__init__"))) (hxC : x ≠ C)
    (hi : ∀ A t, wpAny (model prog w) A (isInstance (.ref x) (.type "Exception")) (fun b s => b = true ∧ s = ⟨h, g, d, t, os⟩) (fun _ _ => False) ⟨h, g, d, t, os⟩)
    (hq : Q (.ref h.objs.size, []) ⟨h.push (initBound x), g, d, t + 1, os⟩) : wpAny (model prog w) A (getMethod (.ref so) "__init__" pl) Q E ⟨h, g, d, t, os⟩ := by
  have hlk := F.ks_slot_super_ga.lookup
  have hcan := F.ks_canon_super_ga
  have hT : ∀ t', (⟨h, g, d, t', os⟩ : Shared).TypeIs (.ref so) "super" := fun _ => ⟨_, hso, rfl⟩
  unfold getMethod
  refine wpAny_bind (wpAny_specialOf (hT _) hlk ?_)
  show wpAny _ _ (if (Manifest.canonical "super.__getattribute__" != "object.__getattribute__") = true then _ else _) _ _ _
  rw [if_pos hcan]
  unfold getAttr getAttrBy
  refine wpAny_bind (wpAny_bind (wpAny_mkText (wpAny_holding (wpAny_bind (wpAny_typeOf (hT _) (wpAny_bind (wpAny_of_eq hlk ?_)))))))
  show wpAny _ _ (getAttrByItsOwn (.ref so) (.str "__init__" t) (.type "super") (.builtin "super.__getattribute__") true false) _ _ _
  unfold getAttrByItsOwn hookBefore callGetattribute boundAndCalled
  refine wpAny_bind (wpAny_of_eq (show (if onTheHeap (.type "super") then typeLookup (.type "super") "__getattr__" else pure none) = pure none from rfl) ?_)
  refine wpAny_bind (wpAny_attempt (wpAny_holding ?_))
  show wpAny _ _ (bindSpecial (.builtin "super.__getattribute__") (.ref so) >>= _) _ _ _
  refine wpAny_bind (wpAny_of_eq (F.ks_slot_super_ga.bind _) ?_)
  refine wpAny_mono (Q := fun v s' => v = .ref h.objs.size ∧ s' = ⟨h.push (initBound x), g, d, t + 1, os⟩) (E := fun _ _ => False)
    (wpAny_call_entry F.ks_slot_super_ga (hT _) F.ks_entry_super_ga (super_ga_init hso hno hC hl X hf hxC (fun A => hi A _) ⟨_, rfl, rfl, rfl⟩) (F.ks_gaArgs_super _ _)) (fun v s' hv => ?_) fun _ _ z => z.elim
  obtain ⟨rfl, rfl⟩ := hv
  exact wpAny_pure (wpAny_pure hq)
variable {nm q : Str} {C N : Addr} {bs bm bmB : List Value} {hdct : Bool} {sn : List Str} {sub : List Value} {ab : Bool} {col : Option Bool} {dd : Option Addr} {k0 k1 k2 k3 k5 : Option Value} {newId : String}
theorem check_init {M : Model} {e : Addr} {oe : Obj} {m : Value} {Q : Unit → Shared → Prop} (T : OwnTail h [.type "Exception", .type "BaseException", .type "object"] bm)
    (hC : h.get? C = some (excClassObj nm q C N bs bm hdct sn sub ab col dd k0 k1 k2 k3 k5 newId)) (he : h.get? e = some oe) (hcls : oe.cls = .ref C) (hq : Q () ⟨h, g, d, t, os⟩) : wpAny M A (checkBoundCall "Exception.__init__" ⟨[.ref e, m], []⟩) Q E ⟨h, g, d, t, os⟩ := by
  have FX := PySem.F.excBase_Exception
  have hcB : (Value.ref C :: bm).contains (.type "Exception") = true := by rw [List.contains_cons, T.hasType FX.hasB, Bool.or_true]
  have hshort := FX.noStar
  simp only [checkBoundCall, FX.initKind, FX.initRow]
  repeat (first | (with_reducible refine wpAny_loadPart_at he ?_; rw [hcls]) | with_reducible refine wpAny_loadPart_at hC ?_ | (with_reducible refine wpAny_isSubtype_exc hC ?_; rw [hcB]) | wp_step)
  exact hq
theorem quiet_init {as : Args} : (Code.builtin "Exception.__init__" as).quiet = true := Code.quiet_builtin _ (by decide +kernel)
theorem call_init {b e : Addr} {oe : Obj} {vs : Array Value} {m : Value} {Q : Value → Shared → Prop} (T : OwnTail h [.type "Exception", .type "BaseException", .type "object"] bm)
    (hC : h.get? C = some (excClassObj nm q C N bs bm hdct sn sub ab col dd k0 k1 k2 k3 k5 newId)) (he : h.get? e = some oe) (hcls : oe.cls = .ref C) (hd : oe.data = .fields vs) (hsz : 0 < vs.size) (hb : h.get? b = some (initBound e))
    (hq : Q .none ⟨(h.push { cls := .type "tuple", data := .seq #[m] }).update e (Obj.mapFields (·.setIfInBounds 0 (.ref h.objs.size))), g, d, t, os⟩) :
    wpAny (model prog w) A (call (.ref b) [m]) Q E ⟨h, g, d, t, os⟩ := by
  refine wpAny_call (codeAny_of_tree ?_)
  show wpAny _ A.in1 (callAny (.ref b) ⟨[m], []⟩) _ _ _
  simp only [callAny]
  refine wpAny_bind (wpAny_load hb ?_)
  simp only [initBound, show (Value.type "method-wrapper" == Value.type "method" || Value.type "method-wrapper" == Value.type "builtin_function_or_method" || Value.type "method-wrapper" == Value.type "method-wrapper") = true by decide, if_true]
  refine KFB.if_so (by decide) ?_
  refine wpAny_bind (check_init T hC he hcls ?_)
  refine wpAny_pure ?_
  show _ ∧ codeAny _ _ (.builtin "Exception.__init__" ⟨[.ref e, m], []⟩) _ _
  refine ⟨quiet_init, codeAny_builtin PySem.F.excBase_Exception.initEntry ?_⟩
  unfold Builtin.«BaseException.__init__»
  refine wpAny_bind (wpAny_newObj_type ?_ (by show (#[m] : Array Value).size ≤ sizeLine; exact (by decide : 1 ≤ sizeLine)))
  have he' := Heap.get?_push_of_some { cls := .type "tuple", data := .seq #[m] } he
  obtain ⟨v0, h0⟩ : ∃ v0, vs[0]? = some v0 := ⟨vs[0], Array.getElem?_eq_getElem hsz⟩
  unfold Builtin.BaseException.bexcPut
  refine wpAny_bind (wpAny_bind (wpAny_field he' hd h0 ?_))
  refine wpAny_bind (wpAny_setField (s := ⟨h.push { cls := .type "tuple", data := .seq #[m] }, g, d, t, os⟩) he' hd hsz ?_)
  cases v0 <;> (wp_walk; exact hq)
end
end Mine
end

section
open PySem PySem.W PySem.Calls PyProof.Rows PySem.Spec
set_option Elab.async false
set_option maxRecDepth 100000
set_option maxHeartbeats 400000
namespace Mine
def fd71 : FuncData := { name := "__init__", qualname := "DecodingError.__init__", params := fdA (mAt 4 0), body := .stmts (fdB (mAt 4 0)), scope := fdS (mAt 4 0), globals := 3, closure := [("__class__", 59)], defaults := .none, kwdefaults := .none, doc := .none, pyModule := (.str (Str.ofString "rlp.exceptions") 194), code := .ref 70, closureTuple := .ref 64, builtins := 0 }
section
variable {w : World} {A : Around} {E : Value → Shared → Prop} {h : Heap} {gs : Array GenState} {dr : Drawn} {tk : Nat} {os : OsState}
theorem c74 (B : Base w h) : h.get? 74 = some (excClassObj "DecodingError" "DecodingError" 74 73 [.ref 31] [.ref 31, .type "Exception", .type "BaseException", .type "object"] true [] [] false none none (some (.ref 56)) none (some (.str "DecodingError" 244)) (some (.str "DecodingError" 252)) (some (.bool true)) "Exception.__new__") := B.get (by rfl)
theorem strKeys_of (es : Array DictEntry) (h : (es.toList.all fun e => match e.key with | .str _ _ => true | _ => false) = true) : StrKeys es := fun e he => by
  have := List.all_eq_true.mp h e (Array.mem_toList_iff.mpr he)
  revert this
  cases e.key <;> simp
theorem ns_of {a : Addr} {o : Obj} {es : Array DictEntry} {n : Nat} (hg : h.get? a = some o) (hd : o.data = .dict es n) (hs : (es.toList.all fun e => match e.key with | .str _ _ => true | _ => false) = true) : h.Ns a (nsFind es) := ⟨o, es, n, hg, hd, strKeys_of es hs, fun _ => rfl⟩
theorem t74 (B : Base w h) : OwnTail h [.type "Exception", .type "BaseException", .type "object"] [.ref 31, .type "Exception", .type "BaseException", .type "object"] :=
  .own (B.get (a := 31) (by rfl)) (ns_of (a := 30) (B.get (by rfl)) (by rfl) (by rfl)) (by rfl) .base
theorem callWith_init {M : Model} {pos : Pos} {u e : Addr} {args : List (Bool × Sem Value)} {s : Shared} {Q : Value → Shared → Prop} (hplain : args.any (·.1) = false)
    (H : wpAny M A (evalArgs (.ref u) true args []) (fun x s₁ => s₁.heap.get? u = some (initBound e) ∧ wpAny M A (call (.ref u) ([] ++ x.pos) x.kw) Q E s₁) E s) : wpAny M A (callWith pos (.ref u) [] args []) Q E s := by
  unfold callWith
  refine wpAny_bind (wpAny_holding (wpAny_mono H (fun x s₁ h₁ => wpAny_bind (wpAny_standAt ?_)) fun _ _ x => x))
  obtain ⟨ho, hcall⟩ := h₁
  simp only [hplain, List.any_nil, Bool.or_false]
  refine wpAny_bind (m := keeperOf (.ref u)) ?_
  unfold keeperOf
  refine wpAny_bind (wpAny_load ho ?_)
  simp only [initBound, show (Value.type "method-wrapper" != Value.type "method") = true by decide, show (Value.type "method-wrapper" == Value.type "builtin_function_or_method" || Value.type "method-wrapper" == Value.type "method-wrapper") = true by decide, if_true]
  refine wpAny_pure ?_
  exact wpAny_bind (wpAny_mono hcall (fun r s₂ hr => wpAny_bind (wpAny_holding (wpAny_point (wpAny_pure hr)))) fun _ _ x => x)
theorem isi_exc {M : Model} {e : Addr} {oe : Obj} (B : Base w h) (he : h.get? e = some oe) (hcls : oe.cls = .ref 74) (A : Around) (t : Nat) :
    wpAny M A (isInstance (.ref e) (.type "Exception")) (fun b s => b = true ∧ s = ⟨h, gs, dr, t, os⟩) (fun _ _ => False) ⟨h, gs, dr, t, os⟩ := by
  have hC := c74 B
  unfold isInstance
  repeat (first | (with_reducible refine wpAny_loadPart_at he ?_; rw [hcls]) | (with_reducible refine wpAny_isSubtype_exc hC ?_) | wp_step)
  exact ⟨rfl, rfl⟩
open Builtin Builtin.ObjectAttr in
theorem set_entry {e : Addr} {oe : Obj} {vs : Array Value} {name : Str} {tk' : Tok} {v : Value} {Q : Fin → Shared → Prop} (B : Base w h) (he : h.get? e = some oe) (hc : oe.cls = .ref 74) (hdn : oe.dict = none) (hd : oe.data = .fields vs)
    (hf : findIn (objs w.params) (.ref 74) name = some none)
    (H : ∀ h' D tk', (∀ b o, b ≠ e → h.get? b = some o → h'.get? b = some o) → h'.get? e = some { cls := .ref 74, dict := some D, data := .fields vs, slots := oe.slots } → h'.Ns D (fun y => if y = name then some v else none) → h.get? D = none → Q (.done (.ret .none)) ⟨h', gs, dr, tk', os⟩) :
    wpAny (model pw w) A (Builtin.«object.__setattr__» ⟨[.ref e, .str name tk', v], []⟩) Q E ⟨h, gs, dr, tk, os⟩ := by
  have hC := c74 B
  have hpass := PySem.F.store_Exception.passes (.ref e)
  unfold Builtin.«object.__setattr__»
  repeat (first | rw [refuse_eq] | (rw [refuseLoop_ref, refuseLoop_ref, hpass]) | (with_reducible refine wpAny_loadPart_at he ?_; rw [hc]) | with_reducible refine wpAny_mroOf_exc hC ?_ | (with_reducible refine (looks_findIn B.inK hf).at ?_) | wp_step)
  obtain ⟨oc, od, oda, osl⟩ := oe
  dsimp only at hc hdn hd
  subst hc hdn hd
  dsimp only
  rw [if_neg (by simp [typeHasDict])]
  have he₁ : (h.push { cls := .type "dict", data := .dict #[] }).get? e = some ⟨.ref 74, none, .fields vs, osl⟩ := Heap.get?_push_of_some _ he
  have hes : e ≠ h.objs.size := Nat.ne_of_lt (Heap.lt_size he)
  refine wpAny_bind (wpAny_alloc' ?_)
  refine wpAny_bind (wpAny_update' he₁ ?_)
  refine wpAny_pure ?_
  have hgd : ((h.push { cls := .type "dict", data := .dict #[] }).update e fun o => { cls := o.cls, dict := some h.objs.size, data := o.data, slots := o.slots }).get? h.objs.size = some { cls := .type "dict", data := .dict #[] } :=
    (Heap.get?_update_ne _ _ _ _ hes.symm).trans (Heap.get?_push_at rfl rfl)
  have hnd : ((h.push { cls := .type "dict", data := .dict #[] }).update e fun o => { cls := o.cls, dict := some h.objs.size, data := o.data, slots := o.slots }).Ns h.objs.size (fun _ => none) :=
    ⟨_, #[], _, hgd, rfl, fun e he => absurd he (by simp), fun _ => rfl⟩
  show wpAny _ _ (storeInDict h.objs.size (.str name tk') name v) _ _ _
  unfold storeInDict newKeyGuard
  refine wpAny_bind (wpAny_pure (wpAny_bind (wpAny_nsSet1 (Heap.Ns1.of_empty hnd) fun h' hn' hs => ?_)))
  obtain ⟨oD, esD, epD, hoD, hdD, hcD⟩ := hn'.count (Within.cons name v Within.nil)
  refine wpAny_bind (wpAny_lookBehind hoD (by rw [hdD]; exact pastItsLine_dict (Nat.le_trans hcD (by rw [List.length_cons, List.length_nil, sizeLine_eq]; omega))) ?_)
  wp_walk
  refine H h' h.objs.size _ (fun b ob hbe hb => ?_) ?_ ?_ (Heap.get?_none_of_le (Nat.le_refl _))
  · exact (hs.2 b (Nat.ne_of_lt (Heap.lt_size hb))).trans ((Heap.get?_update_ne _ _ _ _ hbe).trans (Heap.get?_push_of_some _ hb))
  · exact (hs.2 e hes).trans (Heap.get?_update_self _ he₁ rfl)
  · obtain ⟨o', es, ep, e1, e2, e3, eu, e4⟩ := hn'
    exact ⟨o', es, ep, e1, e2, e3, fun y => by rw [e4 y]⟩
theorem check_sa {M : Model} {e : Addr} {oe : Obj} {nameV v : Value} {Q : Unit → Shared → Prop} (B : Base w h) (he : h.get? e = some oe) (hc : oe.cls = .ref 74) (hq : Q () ⟨h, gs, dr, tk, os⟩) :
    wpAny M A (checkBuiltinCall "object.__setattr__" ⟨[.ref e, nameV, v], []⟩) Q E ⟨h, gs, dr, tk, os⟩ := by
  have hC := c74 B
  have SF := PySem.F.store_object
  have ha := SF.args (.ref e) nameV v
  simp only [checkBuiltinCall, SF.kind, SF.split]
  refine wpAny_bind ?_
  · unfold isInstance
    repeat (first | (with_reducible refine wpAny_loadPart_at he ?_; rw [hc]) | (with_reducible refine wpAny_isSubtype_exc hC ?_) | wp_step)
    exact hq
theorem set_attr {e : Addr} {oe : Obj} {vs : Array Value} {name : Str} {v : Value} {Q : Unit → Shared → Prop} (B : Base w h) (he : h.get? e = some oe) (hc : oe.cls = .ref 74) (hdn : oe.dict = none) (hd : oe.data = .fields vs)
    (hf : findIn (objs w.params) (.ref 74) name = some none)
    (H : ∀ h' D tk', (∀ b o, b ≠ e → h.get? b = some o → h'.get? b = some o) → h'.get? e = some { cls := .ref 74, dict := some D, data := .fields vs, slots := oe.slots } → h'.Ns D (fun y => if y = name then some v else none) → h.get? D = none → Q () ⟨h', gs, dr, tk', os⟩) :
    wpAny (model pw w) A (setAttr (.ref e) name v) Q E ⟨h, gs, dr, tk, os⟩ := by
  have SF := PySem.F.store_object
  have f3 := SF.slot.bind (.ref e)
  have hsa : findIn (objs w.params) (.ref 74) "__setattr__" = some (some (.builtin "object.__setattr__")) := by rfl
  unfold setAttr callSpecial? specialOf
  repeat (any_goals (first | assumption | (with_reducible refine wpAny_loadPart_at he ?_; rw [hc]) | (with_reducible refine (looks_findIn B.inK hsa).at ?_) | wp_step))
  refine codeAny_call_builtin SF.slot.plain SF.entry (check_sa B he hc (set_entry B he hc hdn hd hf (fun h' D tk' k1 k2 k3 k4 => ?_)))
  repeat (any_goals (first | assumption | wp_step))
  exact H h' D tk' k1 k2 k3 k4
theorem dec_init {g₀ : Heap} {e : Addr} {t0 m r : Value} {Q : Value → Shared → Prop} (B₀ : Base w g₀) (k₀ : Ke g₀ h) (hn₀ : g₀.get? e = none) (hdep : A.depth < recursionLimit) (he : h.get? e = some { cls := .ref 74, data := .fields #[t0, .none, .none, .none, .bool false, .none] })
    (H : ∀ h' D ta tk', (∀ b o, b ≠ e → h.get? b = some o → h'.get? b = some o) → h'.get? e = some { cls := .ref 74, dict := some D, data := .fields #[.ref ta, .none, .none, .none, .bool false, .none] } → h'.get? ta = some { cls := .type "tuple", data := .seq #[m] } →
      h'.Ns D (fun y => if y = "rlp" then some r else none) → h.get? D = none → h.get? ta = none → Q .none ⟨h', gs, dr, tk', os⟩) :
    wpAny (model pw w) A (call (.ref 71) [.ref e, m, r]) Q E ⟨h, gs, dr, tk, os⟩ := by
  have B : Base w h := B₀.keeps k₀
  refine wpAny_call (ks_codeAny_call_defAt (s := ⟨h, gs, dr, tk, os⟩) (fd := fd71) (body := fdB (mAt 4 0)) (binds := [("self", .ref e), ("message", m), ("rlp", r)]) hdep (B.get (by rfl)) (by rfl) B.nolimit ⟨70, _, _, _, rfl, B.get (by rfl), rfl, rfl⟩ rfl (BindsTo.of_eq rfl) (by decide) (locs rfl) (fun h₁ hns hk => ?_))
  refine ks_wpAt_execs_cons ?_
  refine ks_wpAt_Expr_any ?_
  refine ks_wpAt_MethodCall ?_ (by rfl)
  refine ks_wpAt_super_base (f := 71) (cc := 70) (by rfl) (by rfl) (by rfl) (by rfl) (hk _ _ (B.get (by rfl))) (by rfl) (by rfl) (by rfl) (hk _ _ (B.get (by rfl))) (by rfl) (by rfl) (by rfl) (by rfl) ?_
  have B₁ : Base w h₁ := B.keeps hk
  have he₁ := hk _ _ he
  dsimp only at hns hk ⊢
  obtain ⟨mg, g1, g2, g3⟩ := B₁.g
  obtain ⟨mb, b1, b2⟩ := B₁.b
  refine ks_loadName_global (by rfl) (by rfl) (loadGlobal_builtin (env := callEnv fd71 h.objs.size 71) g1 (g3 _ (by decide)) b1 ((b2 _ (by decide)).trans (by kernel_rfl)) ⟨rfl, ?_⟩)
  refine wpAny_loadName_free (by rfl) (by rfl) (by rfl) ⟨_, B₁.get (by rfl), rfl⟩ ?_
  refine wpAny_loadName_local (by rfl) (by rfl) hns (by rfl) ?_
  refine ks_wpAny_isType_cls (B₁.get (by rfl)) (by rfl) ⟨rfl, ?_⟩
  refine ks_wpAny_call_super (C := 74) (B₁.get (by rfl)) (by rfl) he₁ rfl (fun c q => by cases q) (looks_mroIn B₁.inK (by rfl)) (fun h₂ hso hk₂ => ?_)
  have B₂ : Base w h₂ := B₁.keeps hk₂
  have he₂ := hk₂ _ _ he₁
  have hns₂ := hns.keeps hk₂
  refine get_init hso (looks_opaque B₂.inK (by rfl)) ((looks_clsIn B₂.inK (by rfl)).andThen .now) (by rfl) B₂.inK (by rfl) ?_ (isi_exc B₂ he₂ rfl) ?_
  · intro q
    subst q
    have := c74 B₂
    rw [he₂] at this
    cases this
  · dsimp only
    refine callWith_init (e := e) (by rfl) (evalArgs_plain ?_)
    refine spliced_cons ?_
    have k₃ : ∀ b o, h₂.get? b = some o → (h₂.push (initBound e)).get? b = some o := fun b o q => Heap.get?_push_of_some _ q
    have B₃ := B₂.keeps k₃
    have he₃ := k₃ _ _ he₂
    have hns₃ := hns₂.keeps k₃
    have hb₃ : (h₂.push (initBound e)).get? h₂.objs.size = some (initBound e) := Heap.get?_push_size _ rfl
    generalize h₂.push (initBound e) = h₃ at k₃ B₃ he₃ hns₃ hb₃ ⊢
    refine wpAny_Name (wpAny_loadName_local (by rfl) (by rfl) hns₃ (by rfl) ?_)
    refine spliced_nil ⟨hb₃, ?_⟩
    refine call_init (t74 B₃) (c74 B₃) he₃ rfl rfl (by simp) hb₃ ?_
    have k₄ : ∀ b o, b ≠ e → h₃.get? b = some o → ((h₃.push { cls := .type "tuple", data := .seq #[m] }).update e (Obj.mapFields (·.setIfInBounds 0 (.ref h₃.objs.size)))).get? b = some o := fun b o hb q => by
      rw [Heap.get?_update_other _ _ (Ne.symm hb)]
      exact Heap.get?_push_of_some _ q
    have he₄ : ((h₃.push { cls := .type "tuple", data := .seq #[m] }).update e (Obj.mapFields (·.setIfInBounds 0 (.ref h₃.objs.size)))).get? e = some { cls := .ref 74, data := .fields #[.ref h₃.objs.size, .none, .none, .none, .bool false, .none] } :=
      Heap.get?_update_self _ (Heap.get?_push_of_some _ he₃) rfl
    have ht₄ : ((h₃.push { cls := .type "tuple", data := .seq #[m] }).update e (Obj.mapFields (·.setIfInBounds 0 (.ref h₃.objs.size)))).get? h₃.objs.size = some { cls := .type "tuple", data := .seq #[m] } := by
      rw [Heap.get?_update_other _ _ (Nat.ne_of_lt (Heap.lt_size he₃))]
      exact Heap.get?_push_size _ rfl
    generalize (h₃.push { cls := .type "tuple", data := .seq #[m] }).update e (Obj.mapFields (·.setIfInBounds 0 (.ref h₃.objs.size))) = h₄ at k₄ he₄ ht₄ ⊢
    refine ks_wpAt_execs_cons ?_
    refine ks_wpAt_Assign_Attr ?_ (by rfl)
    refine wpAt_of_wpAny ?_
    have hns₄ := hns₃.at fun o q => k₄ _ o (fun z => Nat.ne_of_lt (Heap.lt_size he) z.symm) q
    refine wpAny_Name (wpAny_loadName_local (by rfl) (by rfl) hns₄ (by rfl) ?_)
    refine wpAny_Name (wpAny_loadName_local (by rfl) (by rfl) hns₄ (by rfl) ?_)
    have B₄ : Base w h₄ := B₀.keeps fun b o q => k₄ b o (fun z => by subst z; rw [hn₀] at q; cases q) (k₃ _ _ (hk₂ _ _ (hk _ _ (k₀ _ _ q))))
    refine set_attr B₄ he₄ rfl rfl rfl (by rfl) (fun h₅ D tk' k1 k2 k3 k4 => ?_)
    have fresh : ∀ b, h₃.get? b = none → h.get? b = none := fun b q => by
      cases z : h.get? b with
      | none => rfl
      | some o => rw [k₃ _ _ (hk₂ _ _ (hk _ _ z))] at q; cases q
    have hta : h₃.objs.size ≠ e := Nat.ne_of_gt (Heap.lt_size he₃)
    refine wpAt_of_wpAny (wpAny_execs_nil ?_)
    refine H h₅ D h₃.objs.size tk' (fun b o hb q => k1 b o hb (k₄ b o hb (k₃ _ _ (hk₂ _ _ (hk _ _ q))))) k2 (k1 _ _ hta ht₄) k3 ?_ (fresh _ (Heap.get?_none_of_le (Nat.le_refl _)))
    cases z : h.get? D with
    | none => rfl
    | some o =>
      by_cases hDe : D = e
      · subst hDe
        rw [he₄] at k4
        cases k4
      · rw [k₄ _ _ hDe (k₃ _ _ (hk₂ _ _ (hk _ _ z)))] at k4
        cases k4
end
end Mine
end

section
open PySem PySem.W PySem.Calls PyProof.Rows PySem.Spec
set_option Elab.async false
set_option maxRecDepth 100000
set_option maxHeartbeats 400000
namespace Mine
/-- a DecodingError stands at e: its words, its octets -/
def IsDec (g h : Heap) (e : Addr) (x : Ex) (m r : Value) : Prop := x.cls = .ref 74 ∧ ∃ D ta, x.dict = some D ∧ x.a0 = .ref ta ∧ h.TupAt ta [m] ∧ h.Ns D (fun y => if y = "rlp" then some r else none) ∧ g.get? D = none ∧ g.get? ta = none
theorem IsDec.upTo {g h h' : Heap} {e : Addr} {x : Ex} {m r : Value} (X : IsDec g h e x m r) (u : h.UpToSlots h') : IsDec g h' e x m r := by
  obtain ⟨a, D, ta, b, c, d, f, k⟩ := X
  exact ⟨a, D, ta, b, c, d.of_slots u, u.ns f, k⟩
theorem IsDec.down {g g' h : Heap} {e : Addr} {x : Ex} {m r : Value} (X : IsDec g' h e x m r) (k : ∀ b o, g.get? b = some o → g'.get? b = some o) : IsDec g h e x m r := by
  obtain ⟨a, D, ta, b, c, d, f, k1, k2⟩ := X
  have fresh : ∀ b, g'.get? b = none → g.get? b = none := fun b q => by
    cases z : g.get? b with
    | none => rfl
    | some o => rw [k _ _ z] at q; cases q
  exact ⟨a, D, ta, b, c, d, f, fresh _ k1, fresh _ k2⟩
theorem fresh1 {h h' : Heap} (k : ∀ b o, h.get? b = some o → h'.get? b = some o) {u : Addr} (q : h'.get? u = none) : h.get? u = none := by
  cases z : h.get? u with
  | none => rfl
  | some o => rw [k _ _ z] at q; cases q
section
variable {w : World} {A : Around} {E : Value → Shared → Prop} {h : Heap} {gs : Array GenState} {dr : Drawn} {tk : Nat} {os : OsState}
theorem dec_new {m r : Value} {Q : Value → Shared → Prop} (B : Base w h) (hdep : A.depth + 1 < recursionLimit)
    (H : ∀ h' e D ta tk', Ke h h' → h.get? e = none → h'.get? e = some { cls := .ref 74, dict := some D, data := .fields #[.ref ta, .none, .none, .none, .bool false, .none] } → h'.get? ta = some { cls := .type "tuple", data := .seq #[m] } →
      h'.Ns D (fun y => if y = "rlp" then some r else none) → h.get? D = none → h.get? ta = none → Q (.ref e) ⟨h', gs, dr, tk', os⟩) : wpAny (model pw w) A (call (.ref 74) [m, r]) Q E ⟨h, gs, dr, tk, os⟩ := by
  refine call_own PySem.F.excBase_Exception (t74 B) (c74 B) (ns_of (a := 73) (B.get (by rfl)) (by rfl) (by rfl)) (fI := 71) (by rfl) (B.get (by rfl)) (by rfl) (fun h₁ e M => ?_) (by show 2 ≤ sizeLine; decide)
  obtain ⟨t, he, _, _⟩ := M.there
  refine dec_init B M.keeps M.new (by simp only [depth_under_make]; exact hdep) he fun h₂ D ta tk' k1 k2 k3 k4 k5 k6 => ⟨rfl, H h₂ e D ta tk' (fun b o q => k1 b o (fun z => by subst z; rw [M.new] at q; cases q) (M.keeps _ _ q)) M.new k2 k3 k4 (fresh1 M.keeps k5) (fresh1 M.keeps k6)⟩
/-- the statement raise, of a made DecodingError, where no exception is being handled -/
theorem raise_made {env : Env} {x : Sem Value} {Q : Flow → Shared → Prop} {s : Shared} (hh : A.handled = none)
    (H : wpAny (model pw w) A x (fun v s₁ => ∃ e ta D, v = .ref e ∧ Base w s₁.heap ∧ s₁.heap.get? e = some { cls := .ref 74, dict := some D, data := .fields #[.ref ta, .none, .none, .none, .bool false, .none] } ∧ E (.ref e) s₁) E s) :
    wpAny (model pw w) A (raiseStmt env (some x) none) Q E s := by
  unfold raiseStmt
  refine wpAny_bind (wpAny_mono H (fun v s₁ h₁ => ?_) fun _ _ x => x)
  obtain ⟨e, ta, D, rfl, B, he, hE⟩ := h₁
  obtain ⟨hp, g, d, tk, os⟩ := s₁
  have hC := c74 B
  repeat (first | with_reducible refine wpAny_loadPart_at he ?_ | with_reducible refine wpAny_loadPart_at hC ?_ | (with_reducible refine wpAny_isSubtype_exc hC ?_) | wp_step)
  exact wpAny_raiseNew_none hh hE
theorem x_raise {env : Env} {c : Expr} {pos : Pos} {Q : Flow → Shared → Prop} {s : Shared} (hh : A.handled = none)
    (H : wpAny (model pw w) A (eval c env) (fun v s₁ => ∃ e ta D, v = .ref e ∧ Base w s₁.heap ∧ s₁.heap.get? e = some { cls := .ref 74, dict := some D, data := .fields #[.ref ta, .none, .none, .none, .bool false, .none] } ∧ E (.ref e) s₁) E s) :
    wpAny (model pw w) A (exec (.Raise (some c) none pos) env) Q E s := by
  rw [arm_exec_Raise]
  show wpAny _ A (do standAt pos; raiseStmt env (some (do let v ← eval c env; standAt pos; pure v)) none) Q E s
  exact wpAny_bind (wpAny_standAt (raise_made hh (wpAny_bind (wpAny_mono H (fun v s₁ h₁ => wpAny_bind (wpAny_standAt (wpAny_pure h₁))) fun _ _ x => x))))
variable {g : Heap} {L a : Addr} {mm : Str → Option Value} {news : List (Addr × Obj)} {name : Str} {scope : Scope} {cd : Value}
/-- the call of the class, up to its arguments -/
theorem x_dec {np pos : Pos} {e : Expr} {rest : List Expr} {Q : Value → Shared → Prop} (F : Fr g L h mm) (B : Base w g) (hk : scope.kind = .function) (hl : scope.names.lookup (Str.ofString "DecodingError") = some .globalImplicit)
    (he : starEach (e :: rest) (envOf name scope L a cd) = (false, eval e (envOf name scope L a cd)) :: starEach rest (envOf name scope L a cd)) (hp : (backTo pos (starEach (e :: rest) (envOf name scope L a cd))).any (·.1) = false)
    (H : wpAny (model pw w) A (spliced (backTo pos (starEach (e :: rest) (envOf name scope L a cd)))) (fun vs s₁ => Base w s₁.heap ∧ wpAny (model pw w) A (call (.ref 74) vs) Q E s₁) E ⟨h, gs, dr, tk, os⟩) :
    wpAny (model pw w) A (eval (.Call (.Name "DecodingError" np) (e :: rest) [] pos) (envOf name scope L a cd)) Q E ⟨h, gs, dr, tk, os⟩ := by
  refine wpAny_Call_ofName (x_glob F B (by rfl) hk hl (by decide) ?_)
  refine callWith_of (P := fun h => Base w h) (by rw [hp]; rfl) (fun h B => keeps_K (K := objs w.params) (by rfl) h B.inK) ?_
  rw [he] at H ⊢
  exact evalArgs_plain (wpAny_mono H (fun vs s₁ h₁ => ⟨h₁.1, h₁.2⟩) fun _ _ x => x)
end
end Mine
end

section
open PySem PySem.W PySem.Calls PyProof.Rows PySem.Spec
set_option Elab.async false
set_option maxRecDepth 100000
set_option maxHeartbeats 400000
namespace Mine
theorem news_ke {g h h' : Heap} {L : Addr} {news : List (Addr × Obj)} (N : News g L h news) (k : Ke h h') : News g L h' news := fun p hp => ⟨k _ _ (N p hp).1, (N p hp).2⟩
theorem sl_len (x : List UInt8) (a b : Int) (ha : 0 ≤ a) (hb : a ≤ b) : ((sl x (some a) (some b)).length : Int) ≤ b - a := by
  have h1 := clipAt_cast x.length a
  have h2 := clipAt_cast x.length b
  simp only [sl, Option.elim, List.length_take, List.length_drop]
  split at h1 <;> split at h2 <;> omega
theorem sl_le (x : List UInt8) (lo hi : Option Int) : (sl x lo hi).length ≤ x.length := by
  simp only [sl, List.length_take, List.length_drop]
  omega
section
variable {w : World} {A : Around} {E E'' : Value → Shared → Prop} {gs : Array GenState} {dr : Drawn} {tk : Nat} {os : OsState} {h g hb : Heap} {outer : List Env} {L a : Addr} {mm : Str → Option Value} {news : List (Addr × Obj)} {name : Str} {scope : Scope} {cd : Value} {Q : Value → Shared → Prop}
/-- DecodingError(m, r) is made in a body and leaves it -/
theorem dec_leave {m r : Value} (K : Below A hb outer g) (F : Fr g L h mm) (B : Base w g) (hk : scope.kind = .function) (hdep : A.depth + 2 < recursionLimit)
    (H : ∀ h'' e x tk', IsDec g h'' e x m r → Thrown g outer e x h'' → E (.ref e) ⟨h'', gs, dr, tk', os⟩) :
    Base w (⟨h, gs, dr, tk, os⟩ : Shared).heap ∧ wpAny (model pw w) (A.deeper (envOf name scope L a cd)) (call (.ref 74) [m, r]) (fun v s₁ => ∃ e ta D, v = .ref e ∧ Base w s₁.heap ∧
        s₁.heap.get? e = some { cls := .ref 74, dict := some D, data := .fields #[.ref ta, .none, .none, .none, .bool false, .none] } ∧
        wpAny (model pw w) (A.deeper (envOf name scope L a cd)) (leaving (envOf name scope L a cd) (.ref e)) (fun _ s'' => E (.ref e) s'') (fun e' s'' => E e' s'') s₁) E'' ⟨h, gs, dr, tk, os⟩ := by
  have Bh := B.keeps F.keep
  refine ⟨Bh, dec_new Bh (by show A.depth + 1 + 1 < _; exact hdep) fun h' e D ta tk' k1 k2 k3 k4 k5 k6 k7 => ⟨e, ta, D, rfl, Bh.keeps k1, k3, ?_⟩⟩
  have X : IsDec g h' e ⟨.ref 74, .ref ta, some D, .none⟩ m r := ⟨rfl, D, ta, rfl, rfl, ⟨_, 0, k4, rfl, rfl⟩, k5, fresh1 F.keep k6, fresh1 F.keep k7⟩
  exact leave_made (x := ⟨.ref 74, .ref ta, some D, .none⟩) K F hk k1 k2 ⟨_, _, k3, rfl, rfl, rfl, rfl, rfl, rfl⟩ fun h'' T u => H h'' e _ tk' (X.upTo u) T
/-- an item of bytes, within or past the end -/
theorem x_bitem_or {prog : Program} {x : List UInt8} {i : Int} {t ui : Tok} {value slice : Expr} (hA : A.handled = none) (h0 : 0 ≤ i) (hfit : x.length ≤ 1099511627776)
    (hs : subscripted slice false (.bytes x.toArray t) (.int i ui) = operate [.bytes x.toArray t, .int i ui] (getItem (.bytes x.toArray t) (.int i ui)))
    (ht : ∀ r, letTemporaryGo value (.bytes x.toArray t) r = pure ()) (Hout : (x.length : Int) ≤ i → ∀ h' e tk', Heap.NewExc h h' e "IndexError" → E (.ref e) ⟨h', gs, dr, tk', os⟩)
    (Hin : i < (x.length : Int) → ∀ t' tk', Q (.int (x.getD i.toNat 0).toNat t') ⟨h, gs, dr, tk', os⟩) :
    wpAny (model prog w) A (subscriptTail value slice (.bytes x.toArray t) (.int i ui)) Q E ⟨h, gs, dr, tk, os⟩ := by
  by_cases hi : i < (x.length : Int)
  · exact x_bitem h0 hi hfit hs ht (Hin hi)
  · exact x_bitem_out hA (by omega) hs ht (Hout (by omega))
theorem index_leave {e : Addr} {h' : Heap} {E' : Value → Shared → Prop} (K : Below A hb outer g) (F : Fr g L h mm) (hk : scope.kind = .function) (N : Heap.NewExc h h' e "IndexError")
    (H : ∀ h'' x, x.cls = .type "IndexError" ∧ x.ctx = .none → Thrown g outer e x h'' → E (.ref e) ⟨h'', gs, dr, tk, os⟩) :
    wpAny (model pw w) (A.deeper (envOf name scope L a cd)) (leaving (envOf name scope L a cd) (.ref e)) (fun _ s'' => E (.ref e) s'') E' ⟨h', gs, dr, tk, os⟩ := by
  obtain ⟨x, hx, hx2, X⟩ := exAt_new (B := h') N
  exact leave_made K F hk N.keeps N.new X fun h'' T _ => H h'' x ⟨hx, hx2⟩ T
theorem x_b2i {x : List UInt8} {t : Tok} (F : Fr g L h mm) (N : News g L h news) (B : Base w g) (hd : A.depth < recursionLimit) (hx : x.length ≤ 8)
    (H : ∀ h' t' tk', Fr g L h' mm → News g L h' news → Q (.int (be x) t') ⟨h', gs, dr, tk', os⟩) : wpAny (model pw w) A (call (.ref 1464) [.bytes x.toArray t]) Q E ⟨h, gs, dr, tk, os⟩ :=
  b2i (B.keeps F.keep) hd hx fun h' t' tk' k => H h' t' tk' (F.keeps k) (news_ke N k)
theorem x_badd_sl {prog : Program} {x y : List UInt8} {lo hi lo' hi' : Option Int} {t u : Tok} (hx : x.length ≤ 8388608) (hy : y.length ≤ 8388608) (H : ∀ t' tk', Q (.bytes (sl x lo hi ++ sl y lo' hi').toArray t') ⟨h, gs, dr, tk', os⟩) :
    wpAny (model prog w) A (binaryOp .Add (.bytes (sl x lo hi).toArray t) (.bytes (sl y lo' hi').toArray u)) Q E ⟨h, gs, dr, tk, os⟩ :=
  x_badd (Nat.le_trans (Nat.add_le_add (Nat.le_trans (sl_le x lo hi) hx) (Nat.le_trans (sl_le y lo' hi') hy)) (by decide)) H
theorem x_b2i_sl {x : List UInt8} {i j : Int} {t : Tok} (F : Fr g L h mm) (N : News g L h news) (B : Base w g) (hd : A.depth < recursionLimit) (h0 : 0 ≤ i) (h1 : i ≤ j) (h2 : j ≤ i + 8)
    (H : ∀ h' t' tk', Fr g L h' mm → News g L h' news → Q (.int (be (sl x (some i) (some j))) t') ⟨h', gs, dr, tk', os⟩) : wpAny (model pw w) A (call (.ref 1464) [.bytes (sl x (some i) (some j)).toArray t]) Q E ⟨h, gs, dr, tk, os⟩ :=
  x_b2i F N B hd (by have := sl_len x i j h0 h1; omega) H
end
end Mine
end

section
open PySem PySem.W PySem.Calls PyProof.Rows PySem.Spec
set_option Elab.async false
set_option maxRecDepth 100000
set_option maxHeartbeats 1000000
namespace Mine
local macro_rules | `(tactic| tb_start) => `(tactic| first
  | (with_reducible refine' wpAny_execs_cons ?_)
  | (with_reducible refine' wpAny_If ?_)
  | (with_reducible refine' wpAny_Return_some ?_)
  | ((with_reducible refine' wpAny_Assign_Name ?_ ?hs); (case hs => rfl))
  | ((with_reducible refine' wpAny_isTrue_Compare1 ?_ ?hs); (case hs => with_unfolding_all rfl))
  | ((with_reducible refine' wpAny_Compare1 ?_ ?hs); (case hs => with_unfolding_all rfl))
  | (with_reducible refine' wpAny_BinOp ?_)
  | (with_reducible refine' Subscript_ ?_)
  | (with_reducible refine' x_slice ?_)
  | (with_reducible refine' x_part ?_)
  | (with_reducible refine' x_nopart ?_)
  | (with_reducible refine' Tuple_ ?_)
  | (with_reducible refine' List_ ?_)
  | (with_reducible refine' wpAny_items_nil ?_)
  | ((with_reducible refine' wpAny_items_cons ?_ ?hs); (case hs => rfl))
  | ((with_reducible refine' MethodCall_ ?_ ?hs); (case hs => rfl))
  | ((with_reducible refine' x_name ?F ?hv ?hk ?hl ?hd ?_); (case F => assumption); (case hv => rfl); (case hk => rfl); (case hl => rfl); (case hd => decide))
  | ((with_reducible refine' x_glob ?F ?B ?hv ?hk ?hl ?hd ?_); (case F => assumption); (case B => assumption); (case hv => rfl); (case hk => rfl); (case hl => rfl); (case hd => decide))
  | ((with_reducible refine' x_blt ?F ?B ?hb ?hv ?hk ?hl ?hd ?hn ?_); (case F => assumption); (case B => assumption); (case hb => rfl); (case hv => first | reg3_boot | boot_fact); (case hk => rfl); (case hl => rfl); (case hd => decide); (case hn => decide))
  | ((with_reducible refine' x_int ?_); intro _ _)
  | ((with_reducible refine' x_str ?_); intro _ _)
  | ((with_reducible refine' x_bytes ?_); intro _ _)
  | (with_reducible refine' x_none ?_)
  | (with_reducible refine' x_bool ?_)
  | (with_reducible refine' x_truthy ?_)
  | ((with_reducible refine' x_add ?_); intro _ _)
  | ((with_reducible refine' x_sub ?_); intro _ _)
  | (with_reducible refine' x_lt ?_)
  | (with_reducible refine' x_eq ?_)
  | (with_reducible refine' x_beq ?_)
  | ((with_reducible refine' x_store ?F ?N ?hk ?hl ?_); (case F => assumption); (case N => assumption); (case hk => rfl); (case hl => rfl); intro _ _ _ _)
  | ((with_reducible refine' x_tup ?F ?N ?hz ?_); (case F => assumption); (case N => assumption); (case hz => simp); intro _ _ _ _ _)
  | ((with_reducible refine' x_btail ?F ?N ?hl ?hu ?hz ?hs ?ht ?_); (case F => assumption); (case N => assumption); (case hl => first | exact .int _ _ | exact .none); (case hu => first | exact .int _ _ | exact .none); (case hz => omega); (case hs => intro _; with_unfolding_all rfl); (case ht => intro _; with_unfolding_all rfl); intro _ _ _ _ _)
  | ((with_reducible refine' x_bitem_or ?hA ?h0 ?hf ?hs ?ht ?_ ?_); (case hA => assumption); (case h0 => omega); (case hf => omega); (case hs => with_unfolding_all rfl); (case ht => intro _; with_unfolding_all rfl))
  | ((with_reducible refine' x_call ?F ?B ?hv ?hk ?hl ?hd ?ho ?hdat ?he ?_); (case F => assumption); (case B => assumption); (case hv => rfl); (case hk => rfl); (case hl => rfl); (case hd => decide); (case ho => rfl); (case hdat => rfl); (case he => rfl))
  | ((with_reducible refine' x_called ?F ?B ?ho ?_); (case F => assumption); (case B => assumption); (case ho => rfl))
  | ((with_reducible refine' x_ite ?_ ?_) <;> intro _)
  | (with_reducible refine' wpAny_isTrue_BoolOp ?_)
  | (with_reducible refine' wpAny_allTrue_And_cons ?_)
  | (with_reducible refine' wpAny_allTrue_And_nil ?_)
  | (with_reducible refine' wpAny_execs_nil ?_)
  | ((with_reducible refine' x_raise ?hh ?_); (case hh => assumption))
  | ((with_reducible refine' x_dec ?F ?B ?hk ?hl ?he ?hp ?_); (case F => assumption); (case B => assumption); (case hk => rfl); (case hl => rfl); (case he => rfl); (case hp => rfl))
  | (with_reducible intro _)
  | ((with_reducible refine' x_badd_sl ?hx ?hy ?_); (case hx => omega); (case hy => omega))
  | ((with_reducible refine' x_b2i_sl ?F ?N ?B ?hd ?h0 ?h1 ?h2 ?_); (case F => assumption); (case N => assumption); (case B => assumption); (case hd => assumption); (case h0 => tb_rel); (case h1 => tb_rel); (case h2 => tb_rel))
  | (dsimp only))

local macro_rules | `(tactic| tb_rel) => `(tactic| first
  | omega
  | (simp only [decide_eq_true_eq, decide_eq_false_iff_not] at *; omega))
inductive PR where
  | ok (pre : List UInt8) (ty : Str) (len st : Int)
  | index
  | dec (m : Str)
/-- what consume_length_prefix answers -/
def clp (o : List UInt8) (st : Int) : PR :=
  if (o.length : Int) ≤ st then .index else
  let b0 : Int := (o.getD st.toNat 0).toNat
  if b0 < 128 then .ok [] "bytes" 1 st
  else if b0 < 184 then
    if b0 - 128 = 1 then
      if (o.length : Int) ≤ st + 1 then .index
      else if ((o.getD (st + 1).toNat 0).toNat : Int) < 128 then .dec "Encoded as short string although single byte was possible"
      else .ok (sl o (some st) (some (st + 1))) "bytes" (b0 - 128) (st + 1)
    else .ok (sl o (some st) (some (st + 1))) "bytes" (b0 - 128) (st + 1)
  else if b0 < 192 then
    if (sl o (some (st + 1)) (some (st + 2)) == [0]) = true then .dec "Length starts with zero bytes"
    else
      let p := sl o (some (st + 1)) (some (st + 1 + (b0 - 183)))
      if be p < 56 then .dec "Long string prefix used for short string" else .ok (sl o (some st) (some (st + 1)) ++ p) "bytes" (be p) (st + 1 + (b0 - 183))
  else if b0 < 248 then .ok (sl o (some st) (some (st + 1))) "list" (b0 - 192) (st + 1)
  else if (sl o (some (st + 1)) (some (st + 2)) == [0]) = true then .dec "Length starts with zero bytes"
  else
    let p := sl o (some (st + 1)) (some (st + 1 + (b0 - 192 - 56 + 1)))
    if be p < 56 then .dec "Long list prefix used for short list" else .ok (sl o (some st) (some (st + 1)) ++ p) "list" (be p) (st + 1 + (b0 - 192 - 56 + 1))
section
variable {w : World} {A : Around} {E : Value → Shared → Prop} {gs : Array GenState} {dr : Drawn} {tk : Nat} {os : OsState} {h hb : Heap} {outer : List Env} {Q : Value → Shared → Prop}
theorem clp_call {o : List UInt8} {st : Int} {t1 t2 : Tok} (B : Base w h) (K : Below A hb outer h) (hd : A.depth + 3 < recursionLimit) (hh : A.handled = none) (ho : o.length ≤ 10000) (hs : 0 ≤ st)
    (Hok : ∀ pre ty len st', clp o st = .ok pre ty len st' → ∀ h' u t1 t2 t3 t4 tk', Ke h h' → h.get? u = none → h'.get? u = some { cls := .type "tuple", data := .seq #[.bytes pre.toArray t1, .str ty t2, .int len t3, .int st' t4] } → Q (.ref u) ⟨h', gs, dr, tk', os⟩)
    (Hix : clp o st = .index → ∀ h' e x tk', (x.cls = .type "IndexError" ∧ x.ctx = .none) → Thrown h outer e x h' → E (.ref e) ⟨h', gs, dr, tk', os⟩)
    (Hdec : ∀ m, clp o st = .dec m → ∀ h' e x t1 t2 tk', IsDec h h' e x (.str m t1) (.bytes o.toArray t2) → Thrown h outer e x h' → E (.ref e) ⟨h', gs, dr, tk', os⟩) :
    wpAny (model pw w) A (call (.ref 1736) [.bytes o.toArray t1, .int st t2]) Q E ⟨h, gs, dr, tk, os⟩ := by
  refine x_enter B (by omega) (by rfl) (by rfl) (by rfl) (by rfl) (by rfl) (binds := [(Str.ofString "rlp", _), (Str.ofString "start", _)]) (by rfl) (locs (by rfl)) (by rfl) (by rfl) (by rfl) (by decide) ?_
  intro h₁ L tk' _ F N
  have hh' : (A.deeper (envOf (Str.ofString "consume_length_prefix") (fdS (sAt 35)) L 1736 (Value.ref 1735))).handled = none := hh
  have hd' : (A.deeper (envOf (Str.ofString "consume_length_prefix") (fdS (sAt 35)) L 1736 (Value.ref 1735))).depth < recursionLimit := by show A.depth + 1 < _; omega
  have hb0 : (o.getD st.toNat 0).toNat < 256 := UInt8.toNat_lt _
  show wpAny _ _ (execs (fdB (sAt 35)) _) _ _ _
  refine wpAny_execs_cons ?_
  repeat' tb_start
  all_goals try (refine index_leave K (by assumption) rfl (by assumption) (fun h'' x hx T => Hix ?_ h'' _ x _ hx T))
  all_goals try (refine dec_leave K (by assumption) B rfl (by omega) (fun h'' e x tk' X T => Hdec _ ?_ h'' e x _ _ tk' X T))
  all_goals try (refine Hok _ _ _ _ ?_ _ _ _ _ _ _ _ (Fr.keep (by assumption)) (News.fresh (by assumption) (.head _)) (News.get (by assumption) (.head _)))
  all_goals try (simp only [decide_eq_true_eq, decide_eq_false_iff_not, beq_iff_eq, Bool.true_eq_false, Bool.false_eq_true] at *)
  all_goals (unfold clp; dsimp only)
  all_goals ((repeat' split) <;> first | rfl | (exfalso; omega) | (exfalso; simp_all; done))
end
end Mine
end

section
open PySem PySem.W PySem.Calls PyProof.Rows PySem.Spec
set_option Elab.async false
set_option maxRecDepth 100000
set_option maxHeartbeats 400000
namespace Mine
theorem boot_bytearray : bootBuiltins (Str.ofString "bytearray") = some (.type "bytearray") := by kernel_rfl
/-- what a loop's turn has stored is said again in front: the names that the next turn asks -/
theorem look_front {ρ : List (Str × Value)} : ∀ {fr : List (Str × Value)}, (∀ p ∈ fr, ρ.lookup p.1 = some p.2) → look (fr ++ ρ) = look ρ
  | [], _ => rfl
  | (k, v) :: fr, H => by
    have ih := look_front (fr := fr) fun p hp => H p (.tail _ hp)
    funext y
    show List.lookup y ((k, v) :: (fr ++ ρ)) = List.lookup y ρ
    rw [List.lookup_cons]
    by_cases e : y = k
    · subst e
      simp only [beq_self_eq_true]
      exact (H _ (.head _)).symm
    · rw [beq_eq_false_iff_ne.mpr e]
      exact congrFun ih y
theorem fr_front {g h : Heap} {L : Addr} {ρ : List (Str × Value)} (F : Fr g L h (look ρ)) (fr : List (Str × Value)) (H : ∀ p ∈ fr, ρ.lookup p.1 = some p.2) : Fr g L h (look (fr ++ ρ)) := by rw [look_front H]; exact F
section
variable {w : World} {A : Around} {E E'' : Value → Shared → Prop} {gs : Array GenState} {dr : Drawn} {tk : Nat} {os : OsState} {h g hb : Heap} {outer : List Env} {L a : Addr} {mm : Str → Option Value} {news : List (Addr × Obj)} {name : Str} {scope : Scope} {cd : Value}
theorem extBut_ke {h h' : Heap} (x : Heap.ExtBut h.objs.size h h') : Ke h h' := fun b o e => x b o (Nat.ne_of_lt (Heap.lt_size e)) e
/-- a tuple that stands is unpacked -/
theorem x_unpack {t : Addr} {items : List Value} {targets : List (Bool × (Value → Sem Unit))} {Q : Unit → Shared → Prop} (F : Fr g L h mm) (N : News g L h news) (hh : A.handled = none) (ht : IsTup h t items.toArray) (hn : targets.length = items.length) (hstar : targets.findIdx? (·.1) = none)
    (H : ∀ h', Fr g L h' mm → News g L h' news → wpAny (model pw w) A (assignInOrder (targets.map (·.2)) items) Q E ⟨h', gs, dr, tk, os⟩) : wpAny (model pw w) A (unpack (.ref t) targets) Q E ⟨h, gs, dr, tk, os⟩ :=
  unpack_tuple (s := ⟨h, gs, dr, tk, os⟩) hh ht (by simpa using hn) hstar fun h' x => by
    have := H h' (F.keeps (extBut_ke x)) (news_ke N (extBut_ke x))
    simpa using this
theorem x_assign_tup {env : Env} {elts : List Expr} {k : Nat} {pos : Pos} {t : Addr} {items : List Value} {Q : Unit → Shared → Prop} (F : Fr g L h mm) (N : News g L h news) (hh : A.handled = none) (ht : IsTup h t items.toArray)
    (hn : (assignEach elts env).length = items.length) (hstar : (assignEach elts env).findIdx? (·.1) = none)
    (H : ∀ h', Fr g L h' mm → News g L h' news → wpAny (model pw w) A (assignInOrder ((assignEach elts env).map (·.2)) items) Q E ⟨h', gs, dr, tk, os⟩) : wpAny (model pw w) A (assign (.Tuple elts k pos) env (.ref t)) Q E ⟨h, gs, dr, tk, os⟩ :=
  assign_Tuple_tuple (s := ⟨h, gs, dr, tk, os⟩) hh ht (by simpa using hn) hstar fun h' x => by
    have := H h' (F.keeps (extBut_ke x)) (news_ke N (extBut_ke x))
    simpa using this
theorem isTup_of {t : Addr} {items : List Value} {n : Nat} (hg : h.get? t = some { cls := .type "tuple", data := .seq items.toArray n }) : IsTup h t items.toArray := ⟨_, hg, rfl, n, rfl⟩
theorem x_streq {prog : Program} {x y : Str} {t u : Tok} {Q : Value → Shared → Prop} (H : Q (.bool (x == y)) ⟨h, gs, dr, tk, os⟩) : wpAny (model prog w) A (compareOp .Eq (.str x t) (.str y u)) Q E ⟨h, gs, dr, tk, os⟩ := eq_str H
theorem x_badd_r {prog : Program} {b y : List UInt8} {lo hi : Option Int} {t u : Tok} {Q : Value → Shared → Prop} (hx : b.length ≤ 8388608) (hy : y.length ≤ 8388608) (H : ∀ t' tk', Q (.bytes (b ++ sl y lo hi).toArray t') ⟨h, gs, dr, tk', os⟩) :
    wpAny (model prog w) A (binaryOp .Add (.bytes b.toArray t) (.bytes (sl y lo hi).toArray u)) Q E ⟨h, gs, dr, tk, os⟩ :=
  x_badd (Nat.le_trans (Nat.add_le_add hx (Nat.le_trans (sl_le y lo hi) hy)) (by decide)) H
theorem x_streq_t {prog : Program} {x y : Str} {t u : Tok} {Q : Value → Shared → Prop} (e : (x == y) = true) (H : Q (.bool true) ⟨h, gs, dr, tk, os⟩) : wpAny (model prog w) A (compareOp .Eq (.str x t) (.str y u)) Q E ⟨h, gs, dr, tk, os⟩ := x_streq (by rw [e]; exact H)
theorem x_streq_f {prog : Program} {x y : Str} {t u : Tok} {Q : Value → Shared → Prop} (e : (x == y) = false) (H : Q (.bool false) ⟨h, gs, dr, tk, os⟩) : wpAny (model prog w) A (compareOp .Eq (.str x t) (.str y u)) Q E ⟨h, gs, dr, tk, os⟩ := x_streq (by rw [e]; exact H)
theorem x_ite_t {P R : Prop} (H : P) : if true = true then P else R := by rw [if_pos rfl]; exact H
theorem x_ite_f {P R : Prop} (H : R) : if false = true then P else R := by rw [if_neg (by decide)]; exact H
/-- a built-in function is called by its name -/
theorem x_callb {x : Str} {np pos : Pos} {e : Expr} {rest : List Expr} {id : String} {Q : Value → Shared → Prop} (F : Fr g L h mm) (B : Base w g) (hb : bltNames.contains x = true) (hv : bootBuiltins x = some (.builtin id)) (hk : scope.kind = .function) (hl : scope.names.lookup x = some .globalImplicit)
    (hd : (x == ("__debug__" : Str)) = false) (hn : x ≠ "__name__") (he : starEach (e :: rest) (envOf name scope L a cd) = (false, eval e (envOf name scope L a cd)) :: starEach rest (envOf name scope L a cd)) (hp : (backTo pos (starEach rest (envOf name scope L a cd))).any (·.1) = false)
    (H : wpAny (model pw w) A (spliced (backTo pos (starEach (e :: rest) (envOf name scope L a cd)))) (fun vs s₁ => wpAny (model pw w) A (call (.builtin id) vs) Q E s₁) E ⟨h, gs, dr, tk, os⟩) :
    wpAny (model pw w) A (eval (.Call (.Name x np) (e :: rest) [] pos) (envOf name scope L a cd)) Q E ⟨h, gs, dr, tk, os⟩ :=
  wpAny_Call_ofName (x_blt F B hb hv hk hl hd hn (callWith_builtin1 H he hp))
theorem x_callt {x : Str} {np pos : Pos} {e : Expr} {rest : List Expr} {T : String} {Q : Value → Shared → Prop} (F : Fr g L h mm) (B : Base w g) (hb : bltNames.contains x = true) (hv : bootBuiltins x = some (.type T)) (hk : scope.kind = .function) (hl : scope.names.lookup x = some .globalImplicit)
    (hd : (x == ("__debug__" : Str)) = false) (hn : x ≠ "__name__") (he : starEach (e :: rest) (envOf name scope L a cd) = (false, eval e (envOf name scope L a cd)) :: starEach rest (envOf name scope L a cd)) (hp : (backTo pos (starEach rest (envOf name scope L a cd))).any (·.1) = false)
    (H : wpAny (model pw w) A (spliced (backTo pos (starEach (e :: rest) (envOf name scope L a cd)))) (fun vs s₁ => wpAny (model pw w) A (call (.type T) vs) Q E s₁) E ⟨h, gs, dr, tk, os⟩) :
    wpAny (model pw w) A (eval (.Call (.Name x np) (e :: rest) [] pos) (envOf name scope L a cd)) Q E ⟨h, gs, dr, tk, os⟩ :=
  wpAny_Call_ofName (x_blt F B hb hv hk hl hd hn (PyProof.Rows.callWith_type1 H he hp))
end
end Mine
end

section
open PySem PySem.W PySem.Calls PyProof.Rows PySem.Spec
set_option Elab.async false
set_option maxRecDepth 100000
set_option maxHeartbeats 1000000
namespace Mine
local macro_rules | `(tactic| tb_start) => `(tactic| first
  | (with_reducible refine' wpAny_execs_cons ?_)
  | (with_reducible refine' wpAny_If ?_)
  | (with_reducible refine' wpAny_Return_some ?_)
  | ((with_reducible refine' wpAny_Assign_Name ?_ ?hs); (case hs => rfl))
  | ((with_reducible refine' wpAny_isTrue_Compare1 ?_ ?hs); (case hs => with_unfolding_all rfl))
  | ((with_reducible refine' wpAny_Compare1 ?_ ?hs); (case hs => with_unfolding_all rfl))
  | (with_reducible refine' wpAny_BinOp ?_)
  | (with_reducible refine' Subscript_ ?_)
  | (with_reducible refine' x_slice ?_)
  | (with_reducible refine' x_part ?_)
  | (with_reducible refine' x_nopart ?_)
  | (with_reducible refine' Tuple_ ?_)
  | (with_reducible refine' List_ ?_)
  | (with_reducible refine' wpAny_items_nil ?_)
  | ((with_reducible refine' wpAny_items_cons ?_ ?hs); (case hs => rfl))
  | ((with_reducible refine' MethodCall_ ?_ ?hs); (case hs => rfl))
  | ((with_reducible refine' x_name ?F ?hv ?hk ?hl ?hd ?_); (case F => assumption); (case hv => rfl); (case hk => rfl); (case hl => rfl); (case hd => decide))
  | ((with_reducible refine' x_glob ?F ?B ?hv ?hk ?hl ?hd ?_); (case F => assumption); (case B => assumption); (case hv => rfl); (case hk => rfl); (case hl => rfl); (case hd => decide))
  | ((with_reducible refine' x_blt ?F ?B ?hb ?hv ?hk ?hl ?hd ?hn ?_); (case F => assumption); (case B => assumption); (case hb => rfl); (case hv => first | reg3_boot | boot_fact); (case hk => rfl); (case hl => rfl); (case hd => decide); (case hn => decide))
  | ((with_reducible refine' x_int ?_); intro _ _)
  | ((with_reducible refine' x_str ?_); intro _ _)
  | ((with_reducible refine' x_bytes ?_); intro _ _)
  | (with_reducible refine' x_none ?_)
  | (with_reducible refine' x_bool ?_)
  | (with_reducible refine' x_truthy ?_)
  | ((with_reducible refine' x_add ?_); intro _ _)
  | ((with_reducible refine' x_sub ?_); intro _ _)
  | (with_reducible refine' x_lt ?_)
  | (with_reducible refine' x_eq ?_)
  | (with_reducible refine' x_beq ?_)
  | ((with_reducible refine' x_store ?F ?N ?hk ?hl ?_); (case F => assumption); (case N => assumption); (case hk => rfl); (case hl => rfl); intro _ _ _ _)
  | ((with_reducible refine' x_tup ?F ?N ?hz ?_); (case F => assumption); (case N => assumption); (case hz => simp); intro _ _ _ _ _)
  | ((with_reducible refine' x_btail ?F ?N ?hl ?hu ?hz ?hs ?ht ?_); (case F => assumption); (case N => assumption); (case hl => first | exact .int _ _ | exact .none); (case hu => first | exact .int _ _ | exact .none); (case hz => omega); (case hs => intro _; with_unfolding_all rfl); (case ht => intro _; with_unfolding_all rfl); intro _ _ _ _ _)
  | ((with_reducible refine' x_bitem_or ?hA ?h0 ?hf ?hs ?ht ?_ ?_); (case hA => assumption); (case h0 => omega); (case hf => omega); (case hs => with_unfolding_all rfl); (case ht => intro _; with_unfolding_all rfl))
  | ((with_reducible refine' x_call ?F ?B ?hv ?hk ?hl ?hd ?ho ?hdat ?he ?_); (case F => assumption); (case B => assumption); (case hv => rfl); (case hk => rfl); (case hl => rfl); (case hd => decide); (case ho => rfl); (case hdat => rfl); (case he => rfl))
  | ((with_reducible refine' x_called ?F ?B ?ho ?_); (case F => assumption); (case B => assumption); (case ho => rfl))
  | (with_reducible refine' x_ite_t ?_)
  | (with_reducible refine' x_ite_f ?_)
  | ((with_reducible refine' x_ite ?_ ?_) <;> intro _)
  | (with_reducible refine' wpAny_isTrue_BoolOp ?_)
  | (with_reducible refine' wpAny_allTrue_And_cons ?_)
  | (with_reducible refine' wpAny_allTrue_And_nil ?_)
  | (with_reducible refine' wpAny_execs_nil ?_)
  | ((with_reducible refine' x_raise ?hh ?_); (case hh => assumption))
  | ((with_reducible refine' x_dec ?F ?B ?hk ?hl ?he ?hp ?_); (case F => assumption); (case B => assumption); (case hk => rfl); (case hl => rfl); (case he => rfl); (case hp => rfl))
  | ((with_reducible refine' x_badd_r ?hx ?hy ?_); (case hx => omega); (case hy => omega))
  | ((with_reducible refine' x_streq_t ?e ?_); (case e => decide))
  | ((with_reducible refine' x_streq_f ?e ?_); (case e => decide))
  | ((with_reducible refine' x_list ?F ?N ?hz ?_); (case F => assumption); (case N => assumption); (case hz => simp); intro _ _ _ _ _)
  | (with_reducible intro _)
  | ((with_reducible refine' x_badd_sl ?hx ?hy ?_); (case hx => omega); (case hy => omega))
  | ((with_reducible refine' x_b2i_sl ?F ?N ?B ?hd ?h0 ?h1 ?h2 ?_); (case F => assumption); (case N => assumption); (case B => assumption); (case hd => assumption); (case h0 => tb_rel); (case h1 => tb_rel); (case h2 => tb_rel))
  | (dsimp only))

local macro_rules | `(tactic| tb_rel) => `(tactic| omega)
section
variable {w : World} {A : Around} {E : Value → Shared → Prop} {gs : Array GenState} {dr : Drawn} {tk : Nat} {os : OsState} {h hb : Heap} {outer : List Env} {Q : Value → Shared → Prop}
theorem pay_bytes {o p : List UInt8} {st len : Int} {t1 t2 t3 t4 t5 : Tok} (B : Base w h) (hd : A.depth + 3 < recursionLimit) (hh : A.handled = none) (ho : o.length ≤ 10000) (hp : p.length ≤ 10000)
    (H : ∀ h' u r t1 t2 t3 tk', Ke h h' → h.get? u = none → h.get? r = none → h'.get? u = some { cls := .type "tuple", data := .seq #[.bytes (sl o (some st) (some (st + len))).toArray t1, .ref r, .int (st + len) t2] } →
      h'.get? r = some { cls := .type "list", data := .seq #[.bytes (p ++ sl o (some st) (some (st + len))).toArray t3] } → Q (.ref u) ⟨h', gs, dr, tk', os⟩) :
    wpAny (model pw w) A (call (.ref 1743) [.bytes o.toArray t1, .bytes p.toArray t2, .int st t3, .str "bytes" t4, .int len t5]) Q E ⟨h, gs, dr, tk, os⟩ := by
  refine x_enter B (by omega) (by rfl) (by rfl) (by rfl) (by rfl) (by rfl) (binds := [(Str.ofString "rlp", _), (Str.ofString "prefix", _), (Str.ofString "start", _), (Str.ofString "type_", _), (Str.ofString "length", _)]) (by rfl) (locs (by rfl)) (by rfl) (by rfl) (by rfl) (by decide) ?_
  intro h₁ L tk' _ F N
  show wpAny _ _ (execs (fdB (sAt 36)) _) _ _ _
  refine wpAny_execs_cons ?_
  repeat' tb_start
  exact H _ _ _ _ _ _ _ (Fr.keep (by assumption)) (News.fresh (by assumption) (.head _)) (News.fresh (by assumption) (.tail _ (.head _))) (News.get (by assumption) (.head _)) (News.get (by assumption) (.tail _ (.head _)))
end
end Mine
end

section
open PySem PySem.W PySem.Calls PyProof.Rows PySem.Spec
set_option Elab.async false
set_option maxRecDepth 100000
set_option maxHeartbeats 400000
namespace Mine
section
variable {w : World} {A : Around} {E E'' : Value → Shared → Prop} {gs : Array GenState} {dr : Drawn} {tk : Nat} {os : OsState} {h g hb h' : Heap} {outer : List Env} {L a e : Addr} {mm : Str → Option Value} {news : List (Addr × Obj)} {name : Str} {scope : Scope} {cd : Value} {x : Ex}
/-- an exception that comes up within a loop of the body: noted, flown on, and out of the frame -/
theorem loop_leave {st : Option Value} (K : Below A hb outer g) (F : Fr g L h mm) (X : Fly (hideAll h (fs (envOf name scope L a cd :: outer))) (envOf name scope L a cd :: outer) e x st h') (hst : st = none ∨ st = some .none) (u : h.UpToSlots h')
    (H : ∀ h'', Thrown g outer e x h'' → h'.UpToSlots h'' → E (.ref e) ⟨h'', gs, dr, tk, os⟩) :
    notedBy (model pw w) (A.deeper (envOf name scope L a cd)) (envOf name scope L a cd) (fun e s' => cameBackBy (model pw w) (A.deeper (envOf name scope L a cd)) (envOf name scope L a cd) (fun e s' =>
      wpAny (model pw w) (A.deeper (envOf name scope L a cd)) (leaving (envOf name scope L a cd) e) (fun _ s'' => E e s'') (fun e' s'' => E e' s'') s') e s') (.ref e) ⟨h', gs, dr, tk, os⟩ := by
  have hfr := Around.frames_deeper (env := envOf name scope L a cd) K.stack
  unfold notedBy
  refine fly_note hfr rfl X hst fun h1 X1 u1 => ?_
  unfold cameBackBy
  obtain ⟨_, _, _, oe, vs, he, _, _, hd, _, _, T, _, _, h1', _⟩ := id X1
  refine wpAny_bind (wpAny_field he hd h1' ?_)
  rw [if_neg (show ¬ ((Value.ref T == Value.none) = true) from by simp)]
  refine fly_flight (to := some L) X1 fun h2 X2 u2 => ?_
  exact fly_leave hfr rfl X2 (.inr rfl) fun h3 X3 u3 => H h3 ⟨X3.weaken (hide_in F rfl), (Heap.UpToSlots.of_keeps F.keep).trans (u.trans (u1.trans (u2.trans u3)))⟩ (u1.trans (u2.trans u3))
end
end Mine
end

section
open PySem PySem.W PySem.Calls PyProof.Rows PySem.Spec
set_option Elab.async false
set_option maxRecDepth 100000
set_option maxHeartbeats 400000
namespace Mine
theorem noI_bytes_add : typeLookup (.type "bytes") (dunderI "add") = pure none := by rw [typeLookup_type, builtinLookup_eq_fast]; kernel_rfl
section
variable {prog : Program} {w : World} {A : Around} {E : Value → Shared → Prop} {gs : Array GenState} {dr : Drawn} {tk : Nat} {os : OsState} {h : Heap} {Q : Value → Shared → Prop} {t u : Tok}
theorem x_biadd {b c : List UInt8} (hsz : b.length + c.length ≤ 16777216) (H : ∀ t' tk', Q (.bytes (b ++ c).toArray t') ⟨h, gs, dr, tk', os⟩) : wpAny (model prog w) A (inplaceOp .Add (.bytes b.toArray t) (.bytes c.toArray u)) Q E ⟨h, gs, dr, tk, os⟩ := by
  have hsz' : b.toArray.size + c.toArray.size ≤ 16777216 := by simpa using hsz
  refine iconcat_gives (typeIs_bytes _ _ _) (typeIs_bytes _ _ _) noI_bytes_add KBy.noFill_bytes_add KBy.seq_bytes_add FB.slot_bytes_add FB.entry_bytes_add (FB.args_bytes_add_2 _ _) (KBy.gives_bytes_add (KBy.tooLong_not hsz')) ?_
  by_cases hb : b.toArray.isEmpty = true
  · rw [if_pos hb]
    have e : b = [] := by simpa using hb
    subst e
    exact H u _
  · rw [if_neg hb]
    by_cases hc : c.toArray.isEmpty = true
    · rw [if_pos hc]
      have e : c = [] := by simpa using hc
      subst e
      have := H t tk
      rw [List.append_nil] at this
      exact this
    · rw [if_neg hc]
      refine ⟨by rw [Array.size_append, sizeLine_eq]; exact hsz', ?_⟩
      have := H tk (tk + 1)
      rw [← List.append_toArray] at this
      exact this
/-- an item of a list that stands -/
theorem x_litem {l : Addr} {items : List Value} {n : Nat} {i : Int} {ui : Tok} {x : Value} {value slice : Expr} (hg : h.get? l = some { cls := .type "list", data := .seq items.toArray n }) (h0 : 0 ≤ i) (hfit : i < 2 ^ 63) (hx : items[i.toNat]? = some x)
    (hs : subscripted slice false (.ref l) (.int i ui) = operate [.ref l, .int i ui] (getItem (.ref l) (.int i ui))) (ht : ∀ r, letTemporaryGo value (.ref l) r = pure ()) (H : Q x ⟨h, gs, dr, tk, os⟩) :
    wpAny (model prog w) A (subscriptTail value slice (.ref l) (.int i ui)) Q E ⟨h, gs, dr, tk, os⟩ := by
  have hl : Heap.IsList h l items.toArray := ⟨_, hg, rfl, n, rfl⟩
  exact subscriptTail_builtin hl.typeIs PySem.F.slot_list_getitem.lookup (wpAny_getItem_list (s := ⟨h, gs, dr, tk, os⟩) hl h0 hfit (by simpa using hx) H) hs ht
end
end Mine
end

section
open PySem PySem.W PySem.Calls PyProof.Rows PySem.Spec
set_option Elab.async false
set_option maxRecDepth 100000
set_option maxHeartbeats 400000
namespace Mine
local macro_rules | `(tactic| tb_start) => `(tactic| first
  | (with_reducible refine' wpAny_execs_cons ?_)
  | (with_reducible refine' wpAny_If ?_)
  | (with_reducible refine' wpAny_Return_some ?_)
  | ((with_reducible refine' wpAny_Assign_Name ?_ ?hs); (case hs => rfl))
  | ((with_reducible refine' wpAny_isTrue_Compare1 ?_ ?hs); (case hs => with_unfolding_all rfl))
  | ((with_reducible refine' wpAny_Compare1 ?_ ?hs); (case hs => with_unfolding_all rfl))
  | (with_reducible refine' wpAny_BinOp ?_)
  | (with_reducible refine' Subscript_ ?_)
  | (with_reducible refine' x_slice ?_)
  | (with_reducible refine' x_part ?_)
  | (with_reducible refine' x_nopart ?_)
  | (with_reducible refine' Tuple_ ?_)
  | (with_reducible refine' List_ ?_)
  | (with_reducible refine' wpAny_items_nil ?_)
  | ((with_reducible refine' wpAny_items_cons ?_ ?hs); (case hs => rfl))
  | ((with_reducible refine' MethodCall_ ?_ ?hs); (case hs => rfl))
  | ((with_reducible refine' x_name ?F ?hv ?hk ?hl ?hd ?_); (case F => assumption); (case hv => rfl); (case hk => rfl); (case hl => rfl); (case hd => decide))
  | ((with_reducible refine' x_glob ?F ?B ?hv ?hk ?hl ?hd ?_); (case F => assumption); (case B => assumption); (case hv => rfl); (case hk => rfl); (case hl => rfl); (case hd => decide))
  | ((with_reducible refine' x_blt ?F ?B ?hb ?hv ?hk ?hl ?hd ?hn ?_); (case F => assumption); (case B => assumption); (case hb => rfl); (case hv => first | reg3_boot | boot_fact | exact boot_bytearray); (case hk => rfl); (case hl => rfl); (case hd => decide); (case hn => decide))
  | ((with_reducible refine' x_int ?_); intro _ _)
  | ((with_reducible refine' x_str ?_); intro _ _)
  | ((with_reducible refine' x_bytes ?_); intro _ _)
  | (with_reducible refine' x_none ?_)
  | (with_reducible refine' x_bool ?_)
  | (with_reducible refine' x_truthy ?_)
  | ((with_reducible refine' x_add ?_); intro _ _)
  | ((with_reducible refine' x_sub ?_); intro _ _)
  | (with_reducible refine' x_lt ?_)
  | (with_reducible refine' x_eq ?_)
  | (with_reducible refine' x_beq ?_)
  | ((with_reducible refine' x_store ?F ?N ?hk ?hl ?_); (case F => assumption); (case N => assumption); (case hk => rfl); (case hl => rfl); intro _ _ _ _)
  | ((with_reducible refine' x_tup ?F ?N ?hz ?_); (case F => assumption); (case N => assumption); (case hz => simp); intro _ _ _ _ _)
  | ((with_reducible refine' x_btail ?F ?N ?hl ?hu ?hz ?hs ?ht ?_); (case F => assumption); (case N => assumption); (case hl => first | exact .int _ _ | exact .none); (case hu => first | exact .int _ _ | exact .none); (case hz => omega); (case hs => intro _; with_unfolding_all rfl); (case ht => intro _; with_unfolding_all rfl); intro _ _ _ _ _)
  | ((with_reducible refine' x_bitem_or ?hA ?h0 ?hf ?hs ?ht ?_ ?_); (case hA => assumption); (case h0 => omega); (case hf => omega); (case hs => with_unfolding_all rfl); (case ht => intro _; with_unfolding_all rfl))
  | ((with_reducible refine' x_call ?F ?B ?hv ?hk ?hl ?hd ?ho ?hdat ?he ?_); (case F => assumption); (case B => assumption); (case hv => rfl); (case hk => rfl); (case hl => rfl); (case hd => decide); (case ho => rfl); (case hdat => rfl); (case he => rfl))
  | ((with_reducible refine' x_called ?F ?B ?ho ?_); (case F => assumption); (case B => assumption); (case ho => rfl))
  | (with_reducible refine' x_ite_t ?_)
  | (with_reducible refine' x_ite_f ?_)
  | ((with_reducible refine' x_ite ?_ ?_) <;> intro _)
  | (with_reducible refine' wpAny_isTrue_BoolOp ?_)
  | (with_reducible refine' wpAny_allTrue_And_cons ?_)
  | (with_reducible refine' wpAny_allTrue_And_nil ?_)
  | (with_reducible refine' wpAny_execs_nil ?_)
  | ((with_reducible refine' x_raise ?hh ?_); (case hh => assumption))
  | ((with_reducible refine' x_dec ?F ?B ?hk ?hl ?he ?hp ?_); (case F => assumption); (case B => assumption); (case hk => rfl); (case hl => rfl); (case he => rfl); (case hp => rfl))
  | ((with_reducible refine' x_badd_r ?hx ?hy ?_); (case hx => omega); (case hy => omega))
  | ((with_reducible refine' x_streq_t ?e ?_); (case e => decide))
  | ((with_reducible refine' x_streq_f ?e ?_); (case e => decide))
  | ((with_reducible refine' x_list ?F ?N ?hz ?_); (case F => assumption); (case N => assumption); (case hz => simp); intro _ _ _ _ _)
  | ((with_reducible refine' x_callb ?F ?B ?hb ?hv ?hk ?hl ?hd ?hn ?he ?hp ?_); (case F => assumption); (case B => assumption); (case hb => rfl); (case hv => first | reg3_boot | boot_fact | exact boot_bytearray); (case hk => rfl); (case hl => rfl); (case hd => decide); (case hn => decide); (case he => rfl); (case hp => rfl))
  | ((with_reducible refine' x_callt ?F ?B ?hb ?hv ?hk ?hl ?hd ?hn ?he ?hp ?_); (case F => assumption); (case B => assumption); (case hb => rfl); (case hv => first | reg3_boot | boot_fact | exact boot_bytearray); (case hk => rfl); (case hl => rfl); (case hd => decide); (case hn => decide); (case he => rfl); (case hp => rfl))
  | (with_reducible intro _)
  | ((with_reducible refine' x_badd_sl ?hx ?hy ?_); (case hx => omega); (case hy => omega))
  | ((with_reducible refine' x_b2i_sl ?F ?N ?B ?hd ?h0 ?h1 ?h2 ?_); (case F => assumption); (case N => assumption); (case B => assumption); (case hd => assumption); (case h0 => tb_rel); (case h1 => tb_rel); (case h2 => tb_rel))
  | (dsimp only))

local macro_rules | `(tactic| tb_rel) => `(tactic| omega)
section
variable {w : World} {A : Around} {E : Value → Shared → Prop} {gs : Array GenState} {dr : Drawn} {tk : Nat} {os : OsState} {h : Heap} {Q : Value → Shared → Prop} {t u : Tok}
theorem x_isi_bytes {x : List UInt8} {tp : Addr} (B : Base w h) (htp : h.get? tp = some { cls := .type "tuple", data := .seq #[.type "bytes", .type "bytearray"] }) (H : ∀ tk', Q (.bool true) ⟨h, gs, dr, tk', os⟩) :
    wpAny (model pw w) A (call (.builtin "isinstance") [.bytes x.toArray t, .ref tp]) Q E ⟨h, gs, dr, tk, os⟩ :=
  kia_tup (K := objs w.params) (its := [.type "bytes", .type "bytearray"]) kitx_bytes B.inK trivial htp (by rfl) (by simp) (fun tk' => H tk')
theorem is_bytes_call {x : List UInt8} (B : Base w h) (hd : A.depth + 1 < recursionLimit) (H : ∀ h' tk', Ke h h' → Q (.bool true) ⟨h', gs, dr, tk', os⟩) : wpAny (model pw w) A (call (.ref 1457) [.bytes x.toArray t]) Q E ⟨h, gs, dr, tk, os⟩ := by
  refine x_enter B (by omega) (by rfl) (by rfl) (by rfl) (by rfl) (by rfl) (binds := [(Str.ofString "value", _)]) (by rfl) (locs (by rfl)) (by rfl) (by rfl) (by rfl) (by decide) ?_
  intro h₁ L tk' _ F N
  show wpAny _ _ (execs (fdB (sAt 11)) _) _ _ _
  refine wpAny_execs_cons ?_
  repeat' tb_start
  refine x_isi_bytes (B.keeps (Fr.keep (by assumption))) (News.get (by assumption) (.head _)) (fun tk' => H _ _ (Fr.keep (by assumption)))
end
end Mine
end

section
open PySem PySem.W PySem.Calls PyProof.Rows PySem.Spec
set_option Elab.async false
set_option maxRecDepth 100000
set_option maxHeartbeats 1000000
namespace Mine
theorem mem_map_eq {α β γ : Type} {f : α → β} {k : γ → α} {v : γ → β} : ∀ {l : List γ}, (l.map k).map f = l.map v → ∀ p ∈ l, f (k p) = v p
  | [], _, p, hp => by cases hp
  | c :: l, e, p, hp => by
    rw [List.map_cons, List.map_cons, List.map_cons] at e
    injection e with e1 e2
    rcases List.mem_cons.mp hp with rfl | hp
    · exact e1
    · exact mem_map_eq e2 p hp
theorem y3_of {w : World} {s₀ : Shared} (y3 : (Yf s₀).2.2.1 = (Ya w).2.2.1) : ((objs w.params ++ [(1702, ob1702 w.params)]).map Prod.fst).map s₀.heap.get? = (objs w.params ++ [(1702, ob1702 w.params)]).map (fun x : Nat × Obj => some x.2) := y3
theorem base_of {w : World} {s₀ s₁ : Shared} {mg mb : Str → Option Value} (G : Ground qv lse [] (fun _ _ => True) w s₀ mg mb s₁.heap) (Y : Yf s₀ = Ya w) (keeps : ∀ b o, s₀.heap.get? b = some o → s₁.heap.get? b = some o) : Base w s₁.heap := by
  have y1 : s₀.heap.isNs mainGlobals = true := congrArg Prod.fst Y
  have y2 := congrArg (fun x => x.2.1) Y
  have y3 := congrArg (fun x => x.2.2.1) Y
  have y4 : s₀.heap.get? 1450 = some tupO := congrArg (fun x => x.2.2.2) Y
  have hmg : mg = s₀.heap.nsMap mainGlobals := (G.T.g.eq_nsMap).trans ((Heap.Ns.of_isNs y1).keeps keeps).eq_nsMap.symm
  refine ⟨fun p hp => keeps _ _ (mem_map_eq (k := Prod.fst) (v := fun x => some x.2) (l := objs w.params ++ [(1702, ob1702 w.params)]) (y3_of y3) p (List.mem_append_left _ hp)), keeps _ _ y4, ⟨mg, G.T.g, fun p hp => ?_, fun x hx => ?_⟩, ⟨mb, G.T.b, G.T.builtins⟩, G.T.nolimit, G.T.nodigits⟩
  · rw [hmg]
    exact mem_map_eq (k := Prod.fst) (v := fun x => some x.2) (l := globs) y2 p hp
  · have key : (bltNames.all fun x => !(startupNames.contains x) && !((looseW qv lse).contains x) && !(((recsOf qv).map (·.name)).contains x) && !(((litsOf qv).map (·.1)).contains x) && !(((clssOf qv (looseW qv lse)).map (·.name)).contains x)) = true := by decide +kernel
    have := List.all_eq_true.mp key x hx
    simp only [Bool.and_eq_true, Bool.not_eq_true', List.contains_eq_mem, decide_eq_false_iff_not] at this
    obtain ⟨⟨⟨⟨a1, a2⟩, a3⟩, a4⟩, a5⟩ := this
    exact G.T.free x a1 a2 a3 a4 a5
/-- the table of encode_raw's code at the top's end -/
theorem tab_of {w : World} {s₀ : Shared} (Y : Yf s₀ = Ya w) : s₀.heap.get? 1702 = some (ob1702 w.params) :=
  mem_map_eq (k := Prod.fst) (v := fun x => some x.2) (l := objs w.params ++ [(1702, ob1702 w.params)]) (y3_of (congrArg (fun x => x.2.2.1) Y)) (1702, ob1702 w.params) (List.mem_append_right _ (.head _))
end Mine
end
section
open PySem PySem.W PySem.Calls PyProof.Rows PySem.Spec
set_option maxRecDepth 100000
set_option maxHeartbeats 0
namespace Mine
set_option hygiene true
section
variable {g h h' : Heap} {L u : Addr} {mm : Str → Option Value} {news : List (Addr × Obj)} {o : Obj}
/-- an object that a call made is put into the ledger -/
theorem news_add (F : Fr g L h mm) (k : Ke h h') (hn : h.get? u = none) (hg : h'.get? u = some o) (N : News g L h' news) : News g L h' ((u, o) :: news) := by
  intro p hp
  rcases List.mem_cons.mp hp with rfl | hp
  · refine ⟨hg, fun e => ?_, ?_⟩
    · obtain ⟨oL, _, _, hL, _⟩ := F.ns
      dsimp only at e
      rw [e, hL] at hn
      cases hn
    · cases q : g.get? u with
      | none => rfl
      | some o' => rw [F.keep _ _ q] at hn; cases hn
  · exact N p hp
theorem ke_fresh (k : Ke h h') (hn : h'.get? u = none) : h.get? u = none := by
  cases q : h.get? u with
  | none => rfl
  | some o => rw [k _ _ q] at hn; cases hn
end
section
variable {M : Model} {A : Around} {E : Value → Shared → Prop} {s : Shared} {env : Env}
theorem g_eval {e : Expr} {Q : Value → Shared → Prop} (h : wpAny M A (eval e env) Q E s) : wpAny M A (eval e env) Q E s := h
theorem g_exec {e : Stmt} {Q : Flow → Shared → Prop} (h : wpAny M A (exec e env) Q E s) : wpAny M A (exec e env) Q E s := h
theorem g_isTrue {e : Expr} {m : Sem Value} {Q : Bool → Shared → Prop} (h : wpAny M A (isTrue e env m) Q E s) : wpAny M A (isTrue e env m) Q E s := h
theorem g_bin {o : Operator} {a b : Value} {Q : Value → Shared → Prop} (h : wpAny M A (binaryOp o a b) Q E s) : wpAny M A (binaryOp o a b) Q E s := h
theorem g_cmp {o : CmpOp} {a b : Value} {Q : Value → Shared → Prop} (h : wpAny M A (compareOp o a b) Q E s) : wpAny M A (compareOp o a b) Q E s := h
end
theorem bt_str : bootBuiltins (Str.ofString "str") = some (.type "str") := by kernel_rfl
theorem bt_bytes : bootBuiltins (Str.ofString "bytes") = some (.type "bytes") := by kernel_rfl
theorem bt_bytearray : bootBuiltins (Str.ofString "bytearray") = some (.type "bytearray") := by kernel_rfl
theorem bt_list : bootBuiltins (Str.ofString "list") = some (.type "list") := by kernel_rfl
theorem bt_int : bootBuiltins (Str.ofString "int") = some (.type "int") := by kernel_rfl
theorem bt_bool : bootBuiltins (Str.ofString "bool") = some (.type "bool") := by kernel_rfl
theorem bt_range : bootBuiltins (Str.ofString "range") = some (.type "range") := by kernel_rfl
theorem bt_tuple : bootBuiltins (Str.ofString "tuple") = some (.type "tuple") := by kernel_rfl
theorem bt_zip : bootBuiltins (Str.ofString "zip") = some (.type "zip") := by kernel_rfl
theorem bt_enumerate : bootBuiltins (Str.ofString "enumerate") = some (.type "enumerate") := by kernel_rfl
theorem bt_super : bootBuiltins (Str.ofString "super") = some (.type "super") := by kernel_rfl
theorem bt_IndexError : bootBuiltins (Str.ofString "IndexError") = some (.type "IndexError") := by kernel_rfl
theorem bt_ValueError : bootBuiltins (Str.ofString "ValueError") = some (.type "ValueError") := by kernel_rfl
theorem bt_TypeError : bootBuiltins (Str.ofString "TypeError") = some (.type "TypeError") := by kernel_rfl
theorem bt_Exception : bootBuiltins (Str.ofString "Exception") = some (.type "Exception") := by kernel_rfl
theorem bt_len : bootBuiltins (Str.ofString "len") = some (.builtin "len") := by kernel_rfl
theorem bt_isinstance : bootBuiltins (Str.ofString "isinstance") = some (.builtin "isinstance") := by kernel_rfl
theorem bt_any : bootBuiltins (Str.ofString "any") = some (.builtin "any") := by kernel_rfl
theorem bt_all : bootBuiltins (Str.ofString "all") = some (.builtin "all") := by kernel_rfl
theorem bt_sorted : bootBuiltins (Str.ofString "sorted") = some (.builtin "sorted") := by kernel_rfl
theorem bt_sum : bootBuiltins (Str.ofString "sum") = some (.builtin "sum") := by kernel_rfl
theorem bt_min : bootBuiltins (Str.ofString "min") = some (.builtin "min") := by kernel_rfl
theorem bt_max : bootBuiltins (Str.ofString "max") = some (.builtin "max") := by kernel_rfl
local macro_rules | `(tactic| tb_rel) => `(tactic| first
  | with_reducible exact bt_str
  | with_reducible exact bt_bytes
  | with_reducible exact bt_bytearray
  | with_reducible exact bt_list
  | with_reducible exact bt_int
  | with_reducible exact bt_bool
  | with_reducible exact bt_range
  | with_reducible exact bt_tuple
  | with_reducible exact bt_zip
  | with_reducible exact bt_enumerate
  | with_reducible exact bt_super
  | with_reducible exact bt_IndexError
  | with_reducible exact bt_ValueError
  | with_reducible exact bt_TypeError
  | with_reducible exact bt_Exception
  | with_reducible exact bt_len
  | with_reducible exact bt_isinstance
  | with_reducible exact bt_any
  | with_reducible exact bt_all
  | with_reducible exact bt_sorted
  | with_reducible exact bt_sum
  | with_reducible exact bt_min
  | with_reducible exact bt_max
  | omega)
set_option hygiene false
local macro_rules | `(tactic| tb_start) => `(tactic| first
  | ((with_reducible refine' g_eval ?_); first
    | ((with_reducible refine' x_name ?F ?hv ?hk ?hl ?hd ?_); (case F => exact F); (case hv => rfl); (case hk => rfl); (case hl => rfl); (case hd => decide))
    | ((with_reducible refine' x_int ?_); intro _ _)
    | ((with_reducible refine' x_str ?_); intro _ _)
    | ((with_reducible refine' x_bytes ?_); intro _ _)
    | (with_reducible refine' x_none ?_)
    | (with_reducible refine' x_bool ?_)
    | ((with_reducible refine' wpAny_Compare1 ?_ ?hs); (case hs => with_unfolding_all rfl))
    | (with_reducible refine' wpAny_BinOp ?_)
    | (with_reducible refine' Subscript_ ?_)
    | (with_reducible refine' x_slice ?_)
    | (with_reducible refine' Tuple_ ?_)
    | (with_reducible refine' List_ ?_)
    | ((with_reducible refine' MethodCall_ ?_ ?hs); (case hs => rfl))
    | ((with_reducible refine' x_call ?F ?B ?hv ?hk ?hl ?hd ?ho ?hdat ?he ?_); (case F => exact F); (case B => assumption); (case hv => rfl); (case hk => rfl); (case hl => rfl); (case hd => decide); (case ho => rfl); (case hdat => rfl); (case he => rfl))
    | ((with_reducible refine' x_dec ?F ?B ?hk ?hl ?he ?hp ?_); (case F => exact F); (case B => assumption); (case hk => rfl); (case hl => rfl); (case he => rfl); (case hp => rfl))
    | ((with_reducible refine' x_callb ?F ?B ?hb ?hv ?hk ?hl ?hd ?hn ?he ?hp ?_); (case F => exact F); (case B => assumption); (case hb => rfl); (case hv => tb_rel); (case hk => rfl); (case hl => rfl); (case hd => decide); (case hn => decide); (case he => rfl); (case hp => rfl))
    | ((with_reducible refine' x_callt ?F ?B ?hb ?hv ?hk ?hl ?hd ?hn ?he ?hp ?_); (case F => exact F); (case B => assumption); (case hb => rfl); (case hv => tb_rel); (case hk => rfl); (case hl => rfl); (case hd => decide); (case hn => decide); (case he => rfl); (case hp => rfl))
    | ((with_reducible refine' x_glob ?F ?B ?hv ?hk ?hl ?hd ?_); (case F => exact F); (case B => assumption); (case hv => rfl); (case hk => rfl); (case hl => rfl); (case hd => decide))
    | ((with_reducible refine' x_blt ?F ?B ?hb ?hv ?hk ?hl ?hd ?hn ?_); (case F => exact F); (case B => assumption); (case hb => rfl); (case hv => tb_rel); (case hk => rfl); (case hl => rfl); (case hd => decide); (case hn => decide)))
  | ((with_reducible refine' g_exec ?_); first
    | (with_reducible refine' wpAny_If ?_)
    | (with_reducible refine' wpAny_Return_some ?_)
    | ((with_reducible refine' wpAny_Assign_Name ?_ ?hs); (case hs => rfl))
    | ((with_reducible refine' x_raise ?hh ?_); (case hh => assumption))
    | ((with_reducible refine' Assign_Tuple ?_ ?hs ?hw); (case hs => rfl); (case hw => rfl))
    | ((with_reducible refine' wpAny_Expr_any ?_ ?hi ?hs); (case hi => rfl); (case hs => rfl))
    | (with_reducible refine' wpAny_AugAssign_Name ?_))
  | ((with_reducible refine' g_isTrue ?_); first
    | ((with_reducible refine' wpAny_isTrue_Compare1 ?_ ?hs); (case hs => with_unfolding_all rfl))
    | (with_reducible refine' wpAny_isTrue_BoolOp ?_))
  | ((with_reducible refine' g_bin ?_); first
    | ((with_reducible refine' x_add ?_); intro _ _)
    | ((with_reducible refine' x_sub ?_); intro _ _)
    | ((with_reducible refine' x_badd_sl ?hx ?hy ?_); (case hx => omega); (case hy => omega); intro _ _)
    | ((with_reducible refine' x_badd_r ?hx ?hy ?_); (case hx => omega); (case hy => omega); intro _ _))
  | ((with_reducible refine' g_cmp ?_); first
    | (with_reducible refine' x_lt ?_)
    | (with_reducible refine' x_gt ?_)
    | (with_reducible refine' x_ge ?_)
    | (with_reducible refine' x_eq ?_)
    | (with_reducible refine' x_beq ?_)
    | ((with_reducible refine' x_streq_t ?e ?_); (case e => decide))
    | ((with_reducible refine' x_streq_f ?e ?_); (case e => decide)))
  | (with_reducible refine' wpAny_execs_cons ?_)
  | (with_reducible refine' wpAny_execs_nil ?_)
  | (with_reducible refine' wpAny_items_nil ?_)
  | ((with_reducible refine' wpAny_items_cons ?_ ?hs); (case hs => rfl))
  | ((with_reducible refine' x_store (news := _) ?F ?N ?hk ?hl ?_); (case F => exact F); (case N => exact N); (case hk => rfl); (case hl => rfl); (clear F N); intro _ _ F N)
  | (with_reducible refine' x_part ?_)
  | (with_reducible refine' x_nopart ?_)
  | ((with_reducible refine' x_load ?F ?hv ?hk ?hl ?_); (case F => exact F); (case hv => rfl); (case hk => rfl); (case hl => rfl))
  | (with_reducible refine' x_truthy ?_)
  | ((with_reducible refine' x_tup ?F ?N ?hz ?_); (case F => exact F); (case N => exact N); (case hz => simp); (clear F N); intro _ _ _ F N)
  | ((with_reducible refine' x_list ?F ?N ?hz ?_); (case F => exact F); (case N => exact N); (case hz => simp); (clear F N); intro _ _ _ F N)
  | ((with_reducible refine' x_btail ?F ?N ?hl ?hu ?hz ?hs ?ht ?_); (case F => exact F); (case N => exact N); (case hl => first | exact .int _ _ | exact .none); (case hu => first | exact .int _ _ | exact .none); (case hz => omega); (case hs => intro _; with_unfolding_all rfl); (case ht => intro _; with_unfolding_all rfl); (clear F N); intro _ _ _ F N)
  | ((with_reducible refine' x_bitem_or ?hA ?h0 ?hf ?hs ?ht ?_ ?_); (case hA => assumption); (case h0 => omega); (case hf => omega); (case hs => with_unfolding_all rfl); (case ht => intro _; with_unfolding_all rfl))
  | ((with_reducible refine' x_called ?F ?B ?ho ?_); (case F => exact F); (case B => assumption); (case ho => rfl))
  | (with_reducible refine' x_ite_t ?_)
  | (with_reducible refine' x_ite_f ?_)
  | ((with_reducible refine' x_ite ?_ ?_) <;> intro _)
  | (with_reducible refine' wpAny_allTrue_And_cons ?_)
  | (with_reducible refine' wpAny_allTrue_And_nil ?_)
  | ((with_reducible refine' x_assign_tup ?F ?N ?hh ?ht ?hn ?hst ?_); (case F => exact F); (case N => exact N); (case hh => assumption); (case ht => first | exact isTup_of (News.get N (.head _)) | exact isTup_of (News.get N (.tail _ (.head _)))); (case hn => rfl); (case hst => rfl); (clear F N); intro _ F N; dsimp only [assignEach, List.map_cons, List.map_nil])
  | (with_reducible refine' assignInOrder_cons ?_)
  | (with_reducible refine' assignInOrder_nil ?_)
  | (with_reducible refine' assign_Name ?_)
  | (with_reducible refine' callWith_method0 ?_)
  | ((with_reducible refine' callWith_method1 ?_ ?he ?hp); (case he => rfl); (case hp => rfl))
  | ((with_reducible refine' x_biadd ?hz ?_); (case hz => omega); intro _ _)
  | (dsimp only)
  | (fail "no step"))

section
/-! what the decoder answers, in plain functions -/
inductive Tr where
  | b (x : List UInt8)
  | l (ts : List Tr)
inductive IR where
  | ok (t : Tr) (rl : List UInt8) (e : Int)
  | index
  | dec (m : Str)
  | deep
/-- the parts of a row, from next up to endp; n: turns at most -/
def rowF (item1 : Int → IR) (endp : Int) : Nat → Int → List Tr → List UInt8 → IR
  | 0, _, _, _ => .deep
  | n + 1, next, acc, rl =>
    if next < endp then
      match item1 next with
      | .ok t r e => rowF item1 endp n e (acc ++ [t]) (rl ++ r)
      | x => x
    else if next > endp then .dec "List length prefix announced a too small length"
    else .ok (.l acc) rl next
def payF (item1 : Int → IR) (o : List UInt8) (n : Nat) (pre : List UInt8) (ty : Str) (len s : Int) : IR :=
  if ty = "bytes" then .ok (.b (sl o (some s) (some (s + len)))) (pre ++ sl o (some s) (some (s + len))) (s + len)
  else rowF item1 (s + len) n s [] pre
/-- n: turns of a row at most, f: rows within rows at most -/
def itemF (o : List UInt8) (n : Nat) : Nat → Int → IR
  | 0, _ => .deep
  | f + 1, st => match clp o st with
    | .ok pre ty len s => payF (itemF o n f) o n pre ty len s
    | .index => .index
    | .dec m => .dec m
/-! sizes -/
theorem be_nonneg (x : List UInt8) : 0 ≤ be x := by
  unfold be KFB.value KBw.bInts
  have h : ∀ (l : List UInt8) (a : Int), 0 ≤ a → 0 ≤ (l.map fun c => ((c.toNat : Nat) : Int)).foldl (fun a k => a * 256 + k) a := by
    intro l
    induction l with
    | nil => intro a h; exact h
    | cons c l ih => intro a h; rw [List.map_cons, List.foldl_cons]; exact ih _ (by omega)
  exact h _ 0 (Int.le_refl 0)
theorem be_lt (x : List UInt8) : be x < (256 : Int) ^ x.length := by
  unfold be KFB.value KBw.bInts
  have h := KFB.fold_lt x 0
  have e := KFB.fold_cast x 0
  rw [show (List.map (fun c => ((c.toNat : Nat) : Int)) x.toArray.toList) = x.map fun c => ((c.toNat : Nat) : Int) by simp]
  rw [show ((0 : Nat) : Int) = 0 from rfl] at e
  rw [← e]
  have : ((256 : Int) ^ x.length) = ((256 ^ x.length : Nat) : Int) := by simp
  rw [this]
  simp only [Nat.zero_add, Nat.one_mul] at h
  exact Int.ofNat_lt.mpr h
theorem be_lt8 (x : List UInt8) (h : x.length ≤ 8) : be x < 18446744073709551616 := by
  have h1 := be_lt x
  have h2 : (256 : Int) ^ x.length ≤ 256 ^ 8 := by
    have : (256 : Nat) ^ x.length ≤ 256 ^ 8 := Nat.pow_le_pow_right (by decide) h
    have e : ((256 : Int) ^ x.length) = ((256 ^ x.length : Nat) : Int) := by simp
    rw [e]
    exact_mod_cast this
  have : (256 : Int) ^ 8 = 18446744073709551616 := by decide
  omega
theorem clipAt_nn (n : Nat) (i : Int) (h : 0 ≤ i) : clipAt n i = min i.toNat n := by
  have := clipAt_cast n i
  rw [if_neg (by omega)] at this
  omega
theorem sl_nat (o : List UInt8) (a b : Int) (h0 : 0 ≤ a) (h1 : a ≤ b) : sl o (some a) (some b) = (o.drop a.toNat).take (b.toNat - a.toNat) := by
  simp only [sl, Option.elim, clipAt_nn _ _ h0, clipAt_nn _ _ (Int.le_trans h0 h1)]
  by_cases h : a.toNat ≤ o.length
  · rw [Nat.min_eq_left h, List.take_eq_take_iff, List.length_drop]
    omega
  · rw [show min b.toNat o.length - min a.toNat o.length = 0 by omega, List.take_zero, List.drop_eq_nil_of_le (show o.length ≤ a.toNat by omega), List.take_nil]
theorem sl_length (o : List UInt8) (a b : Int) (h0 : 0 ≤ a) (h1 : a ≤ b) : (sl o (some a) (some b)).length = min (b.toNat - a.toNat) (o.length - a.toNat) := by
  rw [sl_nat o a b h0 h1, List.length_take, List.length_drop]
theorem clp_sane {o : List UInt8} {st : Int} {pre ty len s} (h0 : 0 ≤ st) (e : clp o st = .ok pre ty len s) :
    st < o.length ∧ 0 ≤ len ∧ st ≤ s ∧ (pre.length : Int) ≤ s - st ∧ (pre.length : Int) ≤ o.length - st ∧ ((ty = "bytes" ∧ st < s + len) ∨ (ty = "list" ∧ st < s)) ∧ len < 18446744073709551616 ∧ s ≤ st + 9 := by
  unfold clp at e
  dsimp only at e
  have hb := be_nonneg
  have hb0 : (o.getD st.toNat 0).toNat < 256 := UInt8.toNat_lt _
  repeat' split at e
  all_goals try (cases e; done)
  all_goals (injection e with e1 e2 e3 e4; subst e1 e2 e3 e4)
  all_goals try (have hbe := hb (sl o (some (st + 1)) (some (st + 1 + (((o.getD st.toNat 0).toNat : Int) - 183)))))
  all_goals try (have hbe2 := hb (sl o (some (st + 1)) (some (st + 1 + (((o.getD st.toNat 0).toNat : Int) - 192 - 56 + 1)))))
  all_goals try (have hbl := be_lt8 (sl o (some (st + 1)) (some (st + 1 + (((o.getD st.toNat 0).toNat : Int) - 183)))) (by rw [sl_length o (st + 1) _ (by omega) (by omega)]; omega))
  all_goals try (have hbl2 := be_lt8 (sl o (some (st + 1)) (some (st + 1 + (((o.getD st.toNat 0).toNat : Int) - 192 - 56 + 1)))) (by rw [sl_length o (st + 1) _ (by omega) (by omega)]; omega))
  all_goals (refine ⟨by omega, by omega, by omega, ?_, ?_, by first | (exact .inl ⟨rfl, by omega⟩) | (exact .inr ⟨rfl, by omega⟩), by omega, by omega⟩)
  all_goals (simp only [List.length_append, List.length_nil, sl_length o st (st + 1) h0 (by omega)])
  all_goals try (rw [sl_length o (st + 1) _ (by omega) (by omega)])
  all_goals omega
/-- what an item that is read takes of the octets -/
def IR.Sane (o : List UInt8) (st : Int) : IR → Prop
  | .ok _ rl e => st < o.length ∧ st < e ∧ (rl.length : Int) ≤ o.length - st ∧ (rl.length : Int) ≤ e - st ∧ e < o.length + 36893488147419103232
  | _ => True
theorem row_sane {o : List UInt8} {item1 : Int → IR} {endp : Int} (H : ∀ x, 0 ≤ x → (item1 x).Sane o x) : ∀ (n : Nat) (next : Int) acc (rl : List UInt8) (st : Int), 0 ≤ st → st < o.length → st < next → (rl.length : Int) ≤ o.length - st → (rl.length : Int) ≤ next - st → next < o.length + 36893488147419103232 → (rowF item1 endp n next acc rl).Sane o st
  | 0, _, _, _, _, _, _, _, _, _, _ => trivial
  | n + 1, next, acc, rl, st, h0, h1, h2, h3, h4, h5 => by
    unfold rowF
    split
    · have hn := H next (by omega)
      cases e : item1 next with
      | ok t r e' =>
        rw [e] at hn
        obtain ⟨a, b, c, d, d5⟩ := hn
        exact row_sane H n e' _ _ st h0 h1 (by omega) (by rw [List.length_append]; omega) (by rw [List.length_append]; omega) d5
      | index => trivial
      | dec m => trivial
      | deep => trivial
    · split
      · trivial
      · exact ⟨h1, h2, h3, h4, h5⟩
theorem pay_sane {o : List UInt8} {item1 : Int → IR} {pre : List UInt8} {ty : Str} {len s st : Int} {n : Nat} (H : ∀ x, 0 ≤ x → (item1 x).Sane o x) (h0 : 0 ≤ st) (h1 : st < o.length) (hl : 0 ≤ len) (hs : st ≤ s) (p1 : (pre.length : Int) ≤ s - st) (p2 : (pre.length : Int) ≤ o.length - st)
    (ht : (ty = "bytes" ∧ st < s + len) ∨ (ty = "list" ∧ st < s)) (hb : len < 18446744073709551616 ∧ s ≤ st + 9) : (payF item1 o n pre ty len s).Sane o st := by
  unfold payF
  rcases ht with ⟨rfl, h⟩ | ⟨rfl, h⟩
  · rw [if_pos rfl]
    refine ⟨h1, h, ?_, ?_, by omega⟩ <;> (rw [List.length_append, sl_length o s (s + len) (by omega) (by omega)]; omega)
  · rw [if_neg (by decide)]
    exact row_sane H _ _ _ _ _ h0 h1 h p2 p1 (by omega)
theorem item_sane (o : List UInt8) (n : Nat) : ∀ (f : Nat) (st : Int), 0 ≤ st → (itemF o n f st).Sane o st
  | 0, _, _ => trivial
  | f + 1, st, h0 => by
    unfold itemF
    cases e : clp o st with
    | ok pre ty len s =>
      obtain ⟨a, b, c, d, e1, f1, g1⟩ := clp_sane h0 e
      exact pay_sane (item_sane o n f) h0 a b c d e1 f1 g1
    | index => trivial
    | dec m => trivial
/-- enough fuel -/
theorem row_deep {o : List UInt8} {item1 : Int → IR} {endp : Int} (S : ∀ x, 0 ≤ x → (item1 x).Sane o x) {k : Int} (H : ∀ x, k ≤ x → item1 x ≠ .deep) : ∀ (n : Nat) (next : Int) acc (rl : List UInt8), 0 ≤ next → k ≤ next → (o.length : Int) + 1 ≤ n + next → 0 < n → rowF item1 endp n next acc rl ≠ .deep
  | 0, _, _, _, _, _, _, h => by omega
  | n + 1, next, acc, rl, h0, hk, h1, _ => by
    unfold rowF
    split
    · have hn := S next h0
      have hd := H next hk
      cases e : item1 next with
      | ok t r e' =>
        rw [e] at hn
        obtain ⟨a, b, c, d, d5⟩ := hn
        exact row_deep S H n e' _ _ (by omega) (by omega) (by omega) (by omega)
      | index => intro h; cases h
      | dec m => intro h; cases h
      | deep => exact absurd e hd
    · split <;> (intro h; cases h)
theorem item_deep (o : List UInt8) (n : Nat) (hn : o.length + 1 ≤ n) : ∀ (f : Nat) (st : Int), 0 ≤ st → (o.length : Int) + 2 ≤ f + st → 0 < f → itemF o n f st ≠ .deep
  | 0, _, _, _, h => by omega
  | f + 1, st, h0, h1, _ => by
    unfold itemF
    cases e : clp o st with
    | ok pre ty len s =>
      obtain ⟨a, b, c, d, e1, f1, g1⟩ := clp_sane h0 e
      show payF (itemF o n f) o n pre ty len s ≠ .deep
      unfold payF
      rcases f1 with ⟨rfl, h⟩ | ⟨rfl, h⟩
      · rw [if_pos rfl]; intro h; cases h
      · rw [if_neg (by decide)]
        exact row_deep (item_sane o n f) (k := s) (fun x hx => item_deep o n hn f x (by omega) (by omega) (by omega)) _ _ _ _ (by omega) (by omega) (by omega) (by omega)
    | index => intro h; cases h
    | dec m => intro h; cases h
/-- the locals hold these names, among others -/
inductive Has (ρ : List (Str × Value)) : List (Str × Value) → Prop
  | nil : Has ρ []
  | cons {k v fr} : ρ.lookup k = some v → Has ρ fr → Has ρ ((k, v) :: fr)
theorem Has.all {ρ : List (Str × Value)} : ∀ {fr}, Has ρ fr → ∀ p ∈ fr, ρ.lookup p.1 = some p.2
  | _, .nil, _, hp => nomatch hp
  | _, .cons h t, p, hp => by
    rcases List.mem_cons.mp hp with rfl | hp
    · exact h
    · exact t.all p hp
theorem fr_has {g h : Heap} {L : Addr} {ρ fr : List (Str × Value)} (F : Fr g L h (look ρ)) (H : Has ρ fr) : Fr g L h (look (fr ++ ρ)) := fr_front F fr H.all
/-! a nested list that stands: its lists lie in the ledger T -/
abbrev Ledger := List (Addr × Obj)
abbrev lob (vs : List Value) (n : Nat) : Obj := { cls := .type "list", data := .seq vs.toArray n }
abbrev tob (vs : List Value) : Obj := { cls := .type "tuple", data := .seq vs.toArray }
mutual
inductive Rep (T : Ledger) : Value → Tr → Prop
  | b {x : List UInt8} {t : Tok} : Rep T (.bytes x.toArray t) (.b x)
  | l {a : Addr} {vs : List Value} {n : Nat} {ts : List Tr} : (a, lob vs n) ∈ T → Reps T vs ts → Rep T (.ref a) (.l ts)
inductive Reps (T : Ledger) : List Value → List Tr → Prop
  | nil : Reps T [] []
  | cons {v vs t ts} : Rep T v t → Reps T vs ts → Reps T (v :: vs) (t :: ts)
end
mutual
theorem Rep.mono {T T' : Ledger} (k : ∀ p ∈ T, p ∈ T') : ∀ {v t}, Rep T v t → Rep T' v t
  | _, _, .b => .b
  | _, _, .l h1 h2 => .l (k _ h1) (Reps.mono k h2)
theorem Reps.mono {T T' : Ledger} (k : ∀ p ∈ T, p ∈ T') : ∀ {v t}, Reps T v t → Reps T' v t
  | _, _, .nil => .nil
  | _, _, .cons h1 h2 => .cons (Rep.mono k h1) (Reps.mono k h2)
end
theorem Reps.snoc {T : Ledger} : ∀ {vs : List Value} {ts : List Tr} {v t}, Reps T vs ts → Rep T v t → Reps T (vs ++ [v]) (ts ++ [t])
  | _, _, _, _, .nil, R => .cons R .nil
  | _, _, _, _, .cons a b, R => .cons a (b.snoc R)
theorem Reps.length {T : Ledger} : ∀ {vs : List Value} {ts : List Tr}, Reps T vs ts → vs.length = ts.length
  | _, _, .nil => rfl
  | _, _, .cons _ b => by rw [List.length_cons, List.length_cons, b.length]
/-- what a call has made -/
def New (h h' : Heap) (T : Ledger) : Prop := ∀ p ∈ T, h'.get? p.1 = some p.2 ∧ h.get? p.1 = none
theorem New.nil {h h' : Heap} : New h h' [] := fun _ hp => nomatch hp
theorem New.one {h h' : Heap} {u : Addr} {o : Obj} (h1 : h.get? u = none) (h2 : h'.get? u = some o) : New h h' [(u, o)] := by
  intro p hp
  rw [List.mem_singleton] at hp
  subst hp
  exact ⟨h2, h1⟩
theorem New.app {h h' : Heap} {T T' : Ledger} (a : New h h' T) (b : New h h' T') : New h h' (T ++ T') := fun p hp => (List.mem_append.mp hp).elim (a p) (b p)
theorem New.sub {h h' : Heap} {T T' : Ledger} (a : New h h' T) (k : ∀ p ∈ T', p ∈ T) : New h h' T' := fun p hp => a p (k p hp)
theorem New.of_news {g h : Heap} {L : Addr} {news : Ledger} (N : News g L h news) : New g h news := fun p hp => ⟨(N p hp).1, (N p hp).2.2⟩
theorem New.off {h h' : Heap} {T : Ledger} {D : Addr} {o : Obj} (a : New h h' T) (hD : h.get? D = some o) : ∀ p ∈ T, p.1 ≠ D := fun p hp e => by
  have := (a p hp).2
  rw [e, hD] at this
  cases this
theorem New.before {h h' h'' : Heap} {T : Ledger} (a : New h' h'' T) (k : Ke h h') : New h h'' T := fun p hp => ⟨(a p hp).1, ke_fresh k (a p hp).2⟩
/-- what a call made is put into the ledger -/
theorem news_adds {g h h' : Heap} {L : Addr} {mm : Str → Option Value} {news T : Ledger} (F : Fr g L h mm) (N : News g L h news) (k : Ke h h') (X : New h h' T) : News g L h' (T ++ news) := by
  intro p hp
  rcases List.mem_append.mp hp with hp | hp
  · refine ⟨(X p hp).1, fun e => ?_, ?_⟩
    · obtain ⟨oL, _, _, hL, _⟩ := F.ns
      have := (X p hp).2
      rw [e, hL] at this
      cases this
    · cases q : g.get? p.1 with
      | none => rfl
      | some o' => have := (X p hp).2; rw [F.keep _ _ q] at this; cases this
  · exact news_ke N k p hp
theorem upd_app {D : Addr} {o o' : Obj} {r r' : Ledger} : ∀ {T : Ledger}, (∀ p ∈ T, p.1 ≠ D) → Upd D o o' r r' → Upd D o o' (T ++ r) (T ++ r')
  | [], _, U => U
  | p :: _, h, U => .tail (h p (.head _)) (upd_app (fun q hq => h q (.tail _ hq)) U)
theorem off_nil {D : Addr} : ∀ p ∈ ([] : Ledger), p.1 ≠ D := fun _ hp => nomatch hp
theorem off_cons {D a : Addr} {o : Obj} {T : Ledger} (h : a ≠ D) (t : ∀ p ∈ T, p.1 ≠ D) : ∀ p ∈ (a, o) :: T, p.1 ≠ D := fun p hp => by
  rcases List.mem_cons.mp hp with rfl | hp
  · exact h
  · exact t p hp
theorem off_app {D : Addr} {T T' : Ledger} (h : ∀ p ∈ T, p.1 ≠ D) (t : ∀ p ∈ T', p.1 ≠ D) : ∀ p ∈ T ++ T', p.1 ≠ D := fun p hp => (List.mem_append.mp hp).elim (h p) (t p)
end

set_option hygiene true
section
variable {prog : Program} {w : World} {A : Around} {E : Value → Shared → Prop} {gs : Array GenState} {dr : Drawn} {tk : Nat} {os : OsState} {h g : Heap} {L : Addr} {mm : Str → Option Value} {news news' : List (Addr × Obj)} {Q : Value → Shared → Prop}
theorem news_lt (N : News g L h news) : ∀ p ∈ news, p.1 ≠ h.objs.size := fun p hp e => by
  exact absurd (e ▸ Heap.lt_size (N p hp).1) (Nat.lt_irrefl _)
theorem news_sub {T : Ledger} (N : News g L h news) (k : ∀ p ∈ T, p ∈ news) : News g L h T := fun p hp => N p (k p hp)
theorem x_tupU {vs : List Value} (F : Fr g L h mm) (N : News g L h news) (hsz : vs.length ≤ 4096) (H : ∀ h' u, (∀ p ∈ news, p.1 ≠ u) → Fr g L h' mm → News g L h' ((u, tob vs) :: news) → Q (.ref u) ⟨h', gs, dr, tk, os⟩) :
    wpAny (model prog w) A (newTuple vs) Q E ⟨h, gs, dr, tk, os⟩ := x_tup F N hsz fun h' u hu F' N' => H h' u (hu ▸ news_lt N) F' N'
theorem x_listU {vs : List Value} (F : Fr g L h mm) (N : News g L h news) (hsz : vs.length ≤ 4096) (H : ∀ h' u, (∀ p ∈ news, p.1 ≠ u) → Fr g L h' mm → News g L h' ((u, lob vs 0) :: news) → Q (.ref u) ⟨h', gs, dr, tk, os⟩) :
    wpAny (model prog w) A (newList vs) Q E ⟨h, gs, dr, tk, os⟩ := x_list F N hsz fun h' u hu F' N' => H h' u (hu ▸ news_lt N) F' N'
theorem x_getm {D : Addr} {vs : List Value} {n : Nat} {name : Str} {id : String} {pl : Sem Bool} {Q : Value × List Value → Shared → Prop} (N : News g L h news) (hm : (D, lob vs n) ∈ news) (slot : Slot "list" name id) (hty : typeOf (.builtin id) = pure (.type "method_descriptor"))
    (k : Q (.builtin id, [.ref D]) ⟨h, gs, dr, tk, os⟩) : wpAny (model prog w) A (getMethod (.ref D) name pl) Q E ⟨h, gs, dr, tk, os⟩ := listMethod_K (s := ⟨h, gs, dr, tk, os⟩) N hm slot hty k
theorem x_getm_append {D : Addr} {vs : List Value} {n : Nat} {pl : Sem Bool} {Q : Value × List Value → Shared → Prop} (N : News g L h news) (hm : (D, lob vs n) ∈ news)
    (k : Q (.builtin "list.append", [.ref D]) ⟨h, gs, dr, tk, os⟩) : wpAny (model prog w) A (getMethod (.ref D) (Str.ofString "append") pl) Q E ⟨h, gs, dr, tk, os⟩ := x_getm N hm PySem.F.slot_list_append PySem.F.type_list_append k
theorem x_getm_insert {D : Addr} {vs : List Value} {n : Nat} {pl : Sem Bool} {Q : Value × List Value → Shared → Prop} (N : News g L h news) (hm : (D, lob vs n) ∈ news)
    (k : Q (.builtin "list.insert", [.ref D]) ⟨h, gs, dr, tk, os⟩) : wpAny (model prog w) A (getMethod (.ref D) (Str.ofString "insert") pl) Q E ⟨h, gs, dr, tk, os⟩ := x_getm N hm PySem.F.slot_list_insert PySem.F.type_list_insert k
theorem x_append {D : Addr} {vs : List Value} {n : Nat} {x : Value} (F : Fr g L h mm) (N : News g L h news) (hm : (D, lob vs n) ∈ news) (U : Upd D (lob vs n) (lob (vs ++ [x]) (n + 1)) news news') (hsz : vs.length ≤ 100000)
    (H : ∀ h', Fr g L h' mm → News g L h' news' → Q .none ⟨h', gs, dr, tk, os⟩) : wpAny (model prog w) A (call (.builtin "list.append") ([.ref D] ++ [x])) Q E ⟨h, gs, dr, tk, os⟩ := by
  obtain ⟨pre, post, rfl, rfl, a, b⟩ := U.split
  have z := N (D, lob vs n) (List.mem_append.mpr (.inr (.head _)))
  refine append_at (s := ⟨h, gs, dr, tk, os⟩) (hsz := ?hz) z.1 fun h' hs ho' => H h' (F.change hs z.2.1 z.2.2) (news_set N a b hs ?ho)
  case hz => rw [List.size_toArray, sizeLine_eq]; omega
  case ho => rw [ho']; simp [lob]
theorem x_insert0 {D : Addr} {vs : List Value} {n : Nat} {x : Value} {u : Tok} (F : Fr g L h mm) (N : News g L h news) (hm : (D, lob vs n) ∈ news) (U : Upd D (lob vs n) (lob (x :: vs) (n + 1)) news news') (hsz : vs.length ≤ 100000)
    (H : ∀ h', Fr g L h' mm → News g L h' news' → Q .none ⟨h', gs, dr, tk, os⟩) : wpAny (model prog w) A (call (.builtin "list.insert") ([.ref D] ++ [.int 0 u, x])) Q E ⟨h, gs, dr, tk, os⟩ := by
  obtain ⟨pre, post, rfl, rfl, a, c⟩ := U.split
  have z := N (D, lob vs n) (List.mem_append.mpr (.inr (.head _)))
  refine call_meets PySem.F.slot_list_insert ⟨_, z.1, rfl⟩ PySem.F.entry_list_insert (PySem.F.args_list_insert_3 _ _ _) (PySem.AutoSeq1.list_insert_list_int_val_1 D _ n 0 u x (by decide +kernel) (by rw [List.size_toArray, sizeLine_eq]; omega)) ⟨z.1, ?_⟩
  refine H _ (F.change (Heap.SameBut.update ..) z.2.1 z.2.2) (kl_turn _ N a c ?_ ?_)
  · show (vs.toArray.extract 0 (if (0 : Int) < 0 then _ else min (0 : Int).toNat vs.toArray.size)).push x ++ vs.toArray.extract (if (0 : Int) < 0 then _ else min (0 : Int).toNat vs.toArray.size) = (x :: vs).toArray
    apply Array.toList_inj.mp
    simp
  · simp
/-- item 0 of a list of the ledger -/
theorem x_litem0 {l : Addr} {vs : List Value} {n : Nat} {ui : Tok} {x : Value} {value slice : Expr} (N : News g L h news) (hm : (l, lob (x :: vs) n) ∈ news)
    (hs : subscripted slice false (.ref l) (.int 0 ui) = operate [.ref l, .int 0 ui] (getItem (.ref l) (.int 0 ui))) (ht : ∀ r, letTemporaryGo value (.ref l) r = pure ()) (H : Q x ⟨h, gs, dr, tk, os⟩) :
    wpAny (model prog w) A (subscriptTail value slice (.ref l) (.int 0 ui)) Q E ⟨h, gs, dr, tk, os⟩ :=
  x_litem (items := x :: vs) (N.get hm) (Int.le_refl 0) (by decide) rfl hs ht H
end
section
variable {M : Model} {A : Around} {E : Value → Shared → Prop} {s : Shared} {env : Env}
theorem g_getm {v : Value} {n : Str} {pl : Sem Bool} {Q : Value × List Value → Shared → Prop} (h : wpAny M A (getMethod v n pl) Q E s) : wpAny M A (getMethod v n pl) Q E s := h
theorem g_call {f : Value} {vs : List Value} {Q : Value → Shared → Prop} (h : wpAny M A (call f vs) Q E s) : wpAny M A (call f vs) Q E s := h
end
local macro_rules | `(tactic| tb_rel) => `(tactic| first
  | assumption
  | with_reducible exact List.mem_cons_self
  | ((with_reducible refine List.mem_cons_of_mem _ ?_); tb_rel)
  | ((with_reducible refine List.mem_append_right _ ?_); tb_rel)
  | ((with_reducible refine List.mem_append_left _ ?_); tb_rel)
  | with_reducible exact off_nil
  | ((with_reducible refine off_cons ?_ ?_) <;> tb_rel)
  | ((with_reducible refine off_app ?_ ?_) <;> tb_rel)
  | (with_reducible exact Ne.symm (by assumption))
  | ((with_reducible refine' Upd.head ?a); (case a => tb_rel))
  | ((with_reducible refine' Upd.tail ?a ?b); (case a => tb_rel); (case b => tb_rel))
  | ((with_reducible refine' upd_app ?a ?b); (case a => tb_rel); (case b => tb_rel))
  | with_reducible exact Has.nil
  | ((with_reducible refine Has.cons ?_ ?_); (first | rfl | (fail "Has: no such local")); tb_rel))
set_option hygiene false
local macro_rules | `(tactic| tb_start) => `(tactic| first
  | ((with_reducible refine' g_getm ?_); first
    | ((with_reducible refine' x_getm_append ?N ?hm ?_); (case N => exact N); (case hm => tb_rel))
    | ((with_reducible refine' x_getm_insert ?N ?hm ?_); (case N => exact N); (case hm => tb_rel)))
  | ((with_reducible refine' g_call ?_); first
    | ((with_reducible refine' x_append ?F ?N ?hm ?U ?hz ?_); (case F => exact F); (case N => exact N); (case hm => tb_rel); (case U => tb_rel); (case hz => omega); (clear F N); intro _ F N)
    | ((with_reducible refine' x_insert0 ?F ?N ?hm ?U ?hz ?_); (case F => exact F); (case N => exact N); (case hm => tb_rel); (case U => tb_rel); (case hz => omega); (clear F N); intro _ F N))
  | ((with_reducible refine' x_tupU ?F ?N ?hz ?_); (case F => exact F); (case N => exact N); (case hz => simp); (clear F N); intro _ _ _ F N)
  | ((with_reducible refine' x_listU ?F ?N ?hz ?_); (case F => exact F); (case N => exact N); (case hz => simp); (clear F N); intro _ _ _ F N)
  | ((with_reducible refine' x_litem0 ?N ?hm ?hs ?ht ?_); (case N => exact N); (case hm => tb_rel); (case hs => with_unfolding_all rfl); (case ht => intro _; with_unfolding_all rfl))
  | ((with_reducible refine' x_assign_tup ?F ?N ?hh ?ht ?hn ?hst ?_); (case F => exact F); (case N => exact N); (case hh => assumption); (case ht => exact isTup_of (News.get N (by tb_rel))); (case hn => rfl); (case hst => rfl); (clear F N); intro _ F N; dsimp only [assignEach, List.map])
  | (fail "no step"))

section
section
variable {w : World} {A : Around} {E : Value → Shared → Prop} {gs : Array GenState} {dr : Drawn} {tk : Nat} {os : OsState} {h hb : Heap} {outer : List Env} {Q : Value → Shared → Prop}
/-- what a call that reads an item gives back -/
def ItemOk (h h' : Heap) (u : Addr) (t : Tr) (rl : List UInt8) (e : Int) : Prop :=
  ∃ v r vs n t1 t2 T, Ke h h' ∧ New h h' ((u, tob [v, .ref r, .int e t2]) :: (r, lob (.bytes rl.toArray t1 :: vs) n) :: T) ∧ Rep T v t
theorem row_lt {item1 : Int → IR} {endp next : Int} {n : Nat} {acc : List Tr} {rl : List UInt8} (h : next < endp) : rowF item1 endp (n + 1) next acc rl = match item1 next with
      | .ok t r e => rowF item1 endp n e (acc ++ [t]) (rl ++ r)
      | x => x := by (rw [rowF, if_pos h]); try rfl
theorem row_ge {item1 : Int → IR} {endp next : Int} {n : Nat} {acc : List Tr} {rl : List UInt8} (h : ¬ next < endp) : rowF item1 endp (n + 1) next acc rl = if next > endp then .dec "List length prefix announced a too small length" else .ok (.l acc) rl next := by rw [rowF, if_neg h]
theorem pay_b {item1 : Int → IR} {n : Nat} {o p : List UInt8} {st len : Int} {t1 t2 t3 t4 t5 : Tok} (B : Base w h) (hd : A.depth + 3 < recursionLimit) (hh : A.handled = none) (ho : o.length ≤ 10000) (hp : p.length ≤ 10000)
    (R : IR) (hR : payF item1 o n p "bytes" len st = R) (Hok : ∀ t rl e, R = .ok t rl e → ∀ h' u tk', ItemOk h h' u t rl e → Q (.ref u) ⟨h', gs, dr, tk', os⟩) :
    wpAny (model pw w) A (call (.ref 1743) [.bytes o.toArray t1, .bytes p.toArray t2, .int st t3, .str "bytes" t4, .int len t5]) Q E ⟨h, gs, dr, tk, os⟩ := by
  rw [payF, if_pos rfl] at hR
  exact pay_bytes B hd hh ho hp fun h' u r t1 t2 t3 tk' k hu hr gu gr => Hok _ _ _ hR.symm h' u tk' ⟨_, r, [], 0, t3, t2, [], k, (New.one hu gu).app (New.one hr gr), .b⟩
def PayOk (w : World) (dr : Drawn) (os : OsState) (N₁ f : Nat) : Prop :=
  ∀ {A : Around} {E : Value → Shared → Prop} {gs : Array GenState} {tk : Nat} {h hb : Heap} {outer : List Env} {Q : Value → Shared → Prop} {o p : List UInt8} {ty : Str} {st len : Int} {t1 t2 t3 t4 t5 : Tok} (B : Base w h) (K : Below A hb outer h) (hd : A.depth + f + 3 < recursionLimit) (hh : A.handled = none)
    (ho : o.length ≤ 10000) (hp : p.length ≤ 10000) (hs : 0 ≤ st) (hl : 0 ≤ len) (hty : ty = "bytes" ∨ ty = "list") (R : IR) (hR : payF (itemF o N₁ f) o N₁ p ty len st = R) (hnd : R ≠ .deep)
    (Hok : ∀ t rl e, R = .ok t rl e → ∀ h' u tk', ItemOk h h' u t rl e → Q (.ref u) ⟨h', gs, dr, tk', os⟩)
    (Hix : R = .index → ∀ h' e x tk', (x.cls = .type "IndexError" ∧ x.ctx = .none) → Thrown h outer e x h' → E (.ref e) ⟨h', gs, dr, tk', os⟩)
    (Hdec : ∀ m, R = .dec m → ∀ h' e x t1 t2 tk', IsDec h h' e x (.str m t1) (.bytes o.toArray t2) → Thrown h outer e x h' → E (.ref e) ⟨h', gs, dr, tk', os⟩),
    wpAny (model pw w) A (call (.ref 1743) [.bytes o.toArray t1, .bytes p.toArray t2, .int st t3, .str ty t4, .int len t5]) Q E ⟨h, gs, dr, tk, os⟩
theorem pay_step {N₁ f : Nat} (hN₁ : N₁ ≤ 1500) (ih : ∀ f', f = f' + 1 → PayOk w dr os N₁ f') : PayOk w dr os N₁ f := by
  intro A E gs tk h hb outer Q o p ty st len t1 t2 t3 t4 t5 B K hd hh ho hp hs hl hty R hR hnd Hok Hix Hdec
  rcases hty with rfl | rfl
  · exact pay_b B (by omega) hh ho hp R hR Hok
  · refine x_enter B (by omega) (by rfl) (by rfl) (by rfl) (by rfl) (by rfl) (binds := [(Str.ofString "rlp", _), (Str.ofString "prefix", _), (Str.ofString "start", _), (Str.ofString "type_", _), (Str.ofString "length", _)]) (by rfl) (locs (by rfl)) (by rfl) (by rfl) (by rfl) (by decide) ?_
    intro h₁ L tk' _ F N
    have hh' : (A.deeper (envOf (Str.ofString "consume_payload") (fdS (sAt 36)) L 1743 (Value.ref 1742))).handled = none := hh
    have hdd : (A.deeper (envOf (Str.ofString "consume_payload") (fdS (sAt 36)) L 1743 (Value.ref 1742))).depth = A.depth + 1 := rfl
    have hf : f < 1000 := by have : recursionLimit = 1000 := rfl; omega
    show wpAny _ _ (execs (fdB (sAt 36)) _) _ _ _
    refine wpAny_execs_cons ?_
    repeat' tb_start
    refine wpAny_While ?_
    rename_i uI huI _ _ _ uP huP _ _ _ _ _ _ te _ h₀ tk₀
    have hIP : uI ≠ uP := huP _ (.head _)
    have hPI : uP ≠ uI := hIP.symm
    refine codeAny_whileLoop (fun n s => ∃ h' tk' ρ next acc rl vs ps nI nP tn trl T, s = ⟨h', gs, dr, tk', os⟩ ∧ Fr h L h' (look ([(Str.ofString "next_item_start", Value.int next tn), (Str.ofString "list_rlp", .bytes (List.toArray rl) trl), (Str.ofString "end", .int (st + len) te), (Str.ofString "per_item_rlp", .ref uP), (Str.ofString "items", .ref uI), (Str.ofString "rlp", Value.bytes o.toArray t1)] ++ ρ)) ∧
      News h L h' ((uP, lob ps nP) :: (uI, lob vs nI) :: T) ∧ (∀ p ∈ T, p.1 ≠ uP) ∧ (∀ p ∈ T, p.1 ≠ uI) ∧ Reps T vs acc ∧ vs.length + n ≤ N₁ ∧ ps.length = vs.length ∧ 0 ≤ next ∧ rl.length ≤ 10000 + 10000 * vs.length ∧ rowF (itemF o N₁ f) (st + len) n next acc rl = R) (fun n s hI => ?_) N₁ ?_
    · obtain ⟨h₂, tk₂, ρ, next, acc, rl, vs, ps, nI, nP, tn, trl, T, rfl, F, N, hTP, hTI, RR, hv, hps, hn0, hrl, hrow⟩ := hI
      cases n with
      | zero => exact absurd hrow.symm hnd
      | succ n =>
      repeat' tb_start
      · have hlt : next < st + len := by simpa using ‹decide (next < st + len) = true›
        rw [row_lt hlt] at hrow
        cases f with
        | zero => exact absurd hrow.symm hnd
        | succ f =>
        rw [itemF] at hrow
        refine clp_call (B.keeps F.keep) (K.push F rfl) (by omega) hh' ho hn0 (fun pre ty len' st' hclp h₃ u3 s1 s2 s3 s4 tk₃ k₃ hu3 hg3 => ?_) (fun hclp h₃ e x tk₃ hx T => ?_) (fun m hclp h₃ e x s1 s2 tk₃ hX T => ?_)
        · rw [hclp] at hrow
          dsimp only at hrow
          obtain ⟨q1, q2, q3, q4, q5, q6, q7⟩ := clp_sane hn0 hclp
          replace N := news_adds F N k₃ (.one hu3 hg3)
          replace F := F.keeps k₃
          repeat' tb_start
          have hnd1 : payF (itemF o N₁ f) o N₁ pre ty len' st' ≠ .deep := fun e => by
            rw [e] at hrow
            exact hnd hrow.symm
          refine ih f rfl (B.keeps F.keep) (K.push F rfl) (by omega) hh' ho (by omega) (by omega) q2 (q6.elim (fun q => .inl q.1) fun q => .inr q.1) _ rfl hnd1 (fun t r e hpay h₄ u4 tk₄ hI => ?_) (fun hpay h₄ e x tk₄ hx T => ?_) (fun m hpay h₄ e x s5 s6 tk₄ hX T => ?_)
          · obtain ⟨v4, r4, vs4, n4, s7, s8, T4, k₄, X4, R4⟩ := hI
            have hsn := pay_sane (n := N₁) (item_sane o N₁ f) hn0 q1 q2 q3 q4 q5 q6 q7
            rw [hpay] at hrow hsn
            obtain ⟨_, z1, z2, z3, _⟩ := hsn
            have oP := X4.off (N.get (a := uP) (o := lob ps nP) (by tb_rel))
            have oI := X4.off (N.get (a := uI) (o := lob vs nI) (by tb_rel))
            replace N := news_adds F N k₄ X4
            replace F := F.keeps k₄
            obtain ⟨T₂, X₂⟩ : ∃ T₂ : Ledger, T₂ = (u4, tob [v4, .ref r4, .int e s8]) :: (r4, lob (.bytes r.toArray s7 :: vs4) n4) :: (T4 ++ T) := ⟨_, rfl⟩
            replace N : News h L h₄ ((uP, lob ps nP) :: (uI, lob vs nI) :: T₂) := news_sub N (by subst X₂; intro p hp; simp only [List.mem_cons, List.mem_append, List.mem_singleton] at hp ⊢; rcases hp with h | h | h | h | h | h <;> simp only [h, true_or, or_true])
            have hu4 : (u4, tob [v4, .ref r4, .int e s8]) ∈ T₂ := by subst X₂; exact .head _
            have hr4 : (r4, lob (.bytes r.toArray s7 :: vs4) n4) ∈ T₂ := by subst X₂; exact .tail _ (.head _)
            have o2P : ∀ p ∈ T₂, p.1 ≠ uP := by subst X₂; exact fun p hp => (List.mem_append.mp (show p ∈ ((u4, tob [v4, .ref r4, .int e s8]) :: (r4, lob (.bytes r.toArray s7 :: vs4) n4) :: T4) ++ T from hp)).elim (oP p) (hTP p)
            have o2I : ∀ p ∈ T₂, p.1 ≠ uI := by subst X₂; exact fun p hp => (List.mem_append.mp (show p ∈ ((u4, tob [v4, .ref r4, .int e s8]) :: (r4, lob (.bytes r.toArray s7 :: vs4) n4) :: T4) ++ T from hp)).elim (oI p) (hTI p)
            replace R4 : Rep T₂ v4 t := R4.mono fun p hp => by subst X₂; exact .tail _ (.tail _ (List.mem_append_left _ hp))
            replace RR : Reps T₂ vs acc := RR.mono fun p hp => by subst X₂; exact .tail _ (.tail _ (List.mem_append_right _ hp))
            clear oP oI X₂ X4
            repeat' tb_start
            refine ⟨n, Nat.lt_succ_self n, _, _, _, e, acc ++ [t], rl ++ r, vs ++ [v4], ps ++ [.ref r4], _, _, _, _, T₂, rfl, fr_has F (by tb_rel), N, o2P, o2I, RR.snoc R4, by rw [List.length_append]; show vs.length + 1 + n ≤ _; omega, by simp [hps], by omega, by rw [List.length_append, List.length_append]; show _ ≤ 10000 + 10000 * (vs.length + 1); omega, hrow⟩
          · rw [hpay] at hrow
            exact loop_leave K F T.1 (.inr rfl) T.2 fun h'' T' _ => Hix hrow.symm _ _ _ _ hx T'
          · rw [hpay] at hrow
            exact loop_leave K F T.1 (.inr rfl) T.2 fun h'' T' u => Hdec m hrow.symm _ _ _ _ _ _ ((hX.upTo u).down F.keep) T'
        · rw [hclp] at hrow
          exact loop_leave K F T.1 (.inr rfl) T.2 fun h'' T' _ => Hix hrow.symm _ _ _ _ hx T'
        · rw [hclp] at hrow
          exact loop_leave K F T.1 (.inr rfl) T.2 fun h'' T' u => Hdec m hrow.symm _ _ _ _ _ _ ((hX.upTo u).down F.keep) T'
      · have h1 : ¬ next < st + len := by simpa using ‹decide (next < st + len) = false›
        have h2 : next > st + len := by simpa using ‹decide (next > st + len) = true›
        rw [row_ge h1, if_pos h2] at hrow
        exact dec_leave K F B rfl (by omega) fun h'' e x tk' X T => Hdec _ hrow.symm h'' e x _ _ tk' X T
      · have h1 : ¬ next < st + len := by simpa using ‹decide (next < st + len) = false›
        have h2 : ¬ next > st + len := by simpa using ‹decide (next > st + len) = false›
        rw [row_ge h1, if_neg h2] at hrow
        refine Hok _ _ _ hrow.symm _ _ _ ⟨_, _, _, _, _, _, (uI, lob vs nI) :: T, F.keep, New.of_news N, .l (.head _) (RR.mono fun p hp => .tail _ hp)⟩
    · refine ⟨h₀, tk₀, _, st, [], p, [], [], 0, 0, t3, t2, [], rfl, fr_has F (by tb_rel), N, off_nil, off_nil, .nil, by simp, rfl, hs, by simpa using hp, ?_⟩
      rw [← hR, payF, if_neg (by decide)]
theorem pay_call {N₁ : Nat} (hN₁ : N₁ ≤ 1500) (f : Nat) : PayOk w dr os N₁ f := by
  induction f with
  | zero =>
    refine pay_step (f := 0) hN₁ ?_
    intro f' h
    omega
  | succ f ih =>
    refine pay_step (f := f + 1) hN₁ ?_
    intro f' h
    have : f = f' := by omega
    subst this
    exact @ih
end
end

section
/-! behind a call in which an exception was caught: the outer frames' slots may have turned; the walk goes on over a ground of its own -/
structure Kp (l : List Env) (h h' : Heap) : Prop where
  stays : (hideAll h (fs l)).StaysIn h'
  slots : h.UpToSlots h'
theorem Kp.of_ke {l : List Env} {h h' : Heap} (k : Ke h h') : Kp l h h' := ⟨fun b o q => k b o (of_hideAll _ q), Heap.UpToSlots.of_keeps k⟩
theorem Kp.refl {l : List Env} {h : Heap} : Kp l h h := .of_ke fun _ _ e => e
theorem Kp.trans {l : List Env} {h₁ h₂ h₃ : Heap} (a : Kp l h₁ h₂) (b : Kp l h₂ h₃) : Kp l h₁ h₃ :=
  ⟨fun p o q => b.stays p o (hideAll_get _ (a.stays p o q) fun hm => by rw [hideAll_none _ hm] at q; cases q), a.slots.trans b.slots⟩
theorem Kp.of_thrown {g h' : Heap} {l : List Env} {e : Addr} {x : Ex} (T : Thrown g l e x h') : Kp l g h' := ⟨T.1.1, T.2⟩
def freedO : Obj := { cls := .none, data := .freed }
def regr (g h' : Heap) : Heap := { h' with objs := Array.ofFn (n := g.objs.size) fun i => if (g.get? i.val).isSome then (h'.get? i.val).getD freedO else freedO }
theorem get?_nf {h : Heap} {b : Addr} {o : Obj} (e : h.get? b = some o) : o.data ≠ .freed := by
  unfold Heap.get? at e
  split at e
  · cases e
  · rename_i hno
    intro hd
    obtain ⟨c, d, dt, sl⟩ := o
    dsimp only at hd
    subst hd
    exact hno c d sl e
theorem regr_get {g h' : Heap} {b : Addr} : (regr g h').get? b = if (g.get? b).isSome then h'.get? b else none := by
  unfold regr
  show (match (Array.ofFn (n := g.objs.size) fun i => if (g.get? i.val).isSome then (h'.get? i.val).getD freedO else freedO)[b]? with | some ⟨_, _, .freed, _⟩ => none | o => o) = _
  rw [Array.getElem?_ofFn]
  by_cases hb : b < g.objs.size
  · rw [dif_pos hb]
    by_cases hs : (g.get? b).isSome = true
    · simp only [hs, if_true]
      cases e : h'.get? b with
      | none => rfl
      | some o =>
        have := get?_nf e
        obtain ⟨c, d, dt, sl⟩ := o
        simp only [Option.getD_some]
        cases dt <;> first | rfl | exact absurd rfl this
    · simp only [hs]
      rfl
  · rw [dif_neg hb]
    have : g.get? b = none := Heap.get?_none_of_le (Nat.le_of_not_lt hb)
    rw [this]
    rfl
theorem regr_of {g h' : Heap} {b : Addr} {o : Obj} (e : (regr g h').get? b = some o) : h'.get? b = some o := by
  rw [regr_get] at e
  split at e
  · exact e
  · cases e
theorem regr_at {g h' : Heap} {b : Addr} {o o' : Obj} (e : g.get? b = some o) (e' : h'.get? b = some o') : (regr g h').get? b = some o' := by
  rw [regr_get, e]
  exact e'
theorem regr_none {g h' : Heap} {b : Addr} (e : g.get? b = none) : (regr g h').get? b = none := by
  rw [regr_get, e]; rfl
theorem regr_size {g h' : Heap} : (regr g h').objs.size = g.objs.size := by simp [regr]
theorem fs_cons {env : Env} {l : List Env} {L : Addr} (hf : env.frame = some L) : fs (env :: l) = L :: fs l := by
  rw [fs, List.filterMap_cons, hf]
section
variable {A : Around} {hb g h h' : Heap} {outer : List Env} {L a : Addr} {mm : Str → Option Value} {news T : Ledger} {name : Str} {scope : Scope} {cd : Value}
theorem reground (K : Below A hb outer g) (F : Fr g L h mm) (N : News g L h news) (kp : Kp (envOf name scope L a cd :: outer) h h') (X : New h h' T) :
    ∃ g', Kp outer g g' ∧ (∀ b, g'.get? b = none ↔ g.get? b = none) ∧ Below A hb outer g' ∧ Fr g' L h' mm ∧ News g' L h' (T ++ news) := by
  have hfs : fs (envOf name scope L a cd :: outer) = L :: fs outer := fs_cons rfl
  have low : ∀ b o, g.get? b = some o → b ≠ L := fun b o e => Nat.ne_of_lt (Nat.lt_of_lt_of_le (Heap.lt_size e) F.above)
  have s1 : ∀ b o, g.get? b = some o → b ∉ fs outer → h'.get? b = some o := fun b o e hn => by
    refine kp.stays b o (hideAll_get _ (F.keep b o e) ?_)
    rw [hfs]
    intro hm
    rcases List.mem_cons.mp hm with rfl | hm
    · exact low _ _ e rfl
    · exact hn hm
  have s2 : ∀ b o, g.get? b = some o → (∀ vs, o.data ≠ .fields vs) → ∃ sl, h'.get? b = some { o with slots := sl } := fun b o e hd => kp.slots b o (F.keep b o e) hd
  refine ⟨regr g h', ⟨fun b o e => ?_, fun b o e hd => ?_⟩, fun b => ⟨fun e => ?_, fun e => regr_none e⟩, ⟨K.stack, fun b o e => ?_, ?_⟩, ⟨kp.slots.ns F.ns, fun b o e => regr_of e, by rw [regr_size]; exact F.above⟩, ?_⟩
  · have e' := of_hideAll _ e
    exact regr_at e' (s1 b o e' fun hm => by rw [hideAll_none _ hm] at e; cases e)
  · obtain ⟨sl, hs⟩ := s2 b o e hd
    exact ⟨sl, regr_at e hs⟩
  · cases q : g.get? b with
    | none => rfl
    | some o =>
      have hx : ∃ o', h'.get? b = some o' := by
        by_cases hm : b ∈ fs outer
        · obtain ⟨_, o₂, ho, hd⟩ := K.frames.mem hm
          rw [q] at ho
          cases ho
          obtain ⟨sl, hs⟩ := s2 b o q hd
          exact ⟨_, hs⟩
        · exact ⟨o, s1 b o q hm⟩
      obtain ⟨o', ho'⟩ := hx
      rw [regr_at q ho'] at e
      cases e
  · have e' := K.stays b o e
    refine regr_at e' (s1 b o e' fun hm => ?_)
    have := (K.frames.mem hm).1
    rw [e] at this
    cases this
  · refine K.frames.of_keeps fun b o e hd => ?_
    obtain ⟨sl, hs⟩ := s2 b o e hd
    exact ⟨_, regr_at e hs, rfl⟩
  · intro p hp
    rcases List.mem_append.mp hp with hp | hp
    · obtain ⟨x1, x2⟩ := X p hp
      refine ⟨x1, fun e => ?_, regr_none ?_⟩
      · obtain ⟨oL, _, _, hL, _⟩ := F.ns
        rw [e, hL] at x2
        cases x2
      · cases q : g.get? p.1 with
        | none => rfl
        | some o' => rw [F.keep _ _ q] at x2; cases x2
    · obtain ⟨n1, n2, n3⟩ := N p hp
      refine ⟨kp.stays _ _ (hideAll_get _ n1 ?_), n2, regr_none n3⟩
      rw [hfs]
      intro hm
      rcases List.mem_cons.mp hm with e | hm
      · exact n2 e
      · obtain ⟨o, ho, _⟩ := (K.frames.mem hm).2
        rw [n3] at ho
        cases ho
theorem thrown_ground {g' : Heap} {e : Addr} {x : Ex} (kp : Kp outer g g') (T : Thrown g' outer e x h') : Thrown g outer e x h' :=
  ⟨T.1.weaken fun b o q => hideAll_get _ (kp.stays b o q) fun hm => (by rw [hideAll_none _ hm] at q; cases q), kp.slots.trans T.2⟩
/-- the exception's object -/
theorem fly_obj {l : List Env} {e : Addr} {x : Ex} {st : Option Value} {h3 : Heap} (X : Fly (hideAll h (fs l)) l e x st h3) :
    ∃ oe vs, h3.get? e = some oe ∧ oe.cls = x.cls ∧ oe.dict = x.dict ∧ oe.data = .fields vs ∧ vs[0]? = some x.a0 ∧ vs[2]? = some x.ctx ∧ h.get? e = none := by
  obtain ⟨_, hn, hl, oe, vs, he, h1, h2, h3', h4, h5, _⟩ := X
  refine ⟨oe, vs, he, h1, h2, h3', h4, h5, ?_⟩
  cases q : h.get? e with
  | none => rfl
  | some o =>
    by_cases hm : e ∈ fs l
    · obtain ⟨_, o₂, ho, hd⟩ := hl.mem hm
      rw [he] at ho
      cases ho
      exact absurd h3' (hd vs)
    · rw [hideAll_get _ q hm] at hn
      cases hn
theorem base_below {w : World} (B : Base w hb) (K : Below A hb outer g) : Base w g := B.keeps K.stays
end
end

section
section
variable {prog : Program} {w : World} {A : Around} {E E' : Value → Shared → Prop} {gs : Array GenState} {dr : Drawn} {tk : Nat} {os : OsState} {hb g h h' h2 BB : Heap} {outer : List Env} {L a e : Addr} {mm : Str → Option Value} {news : Ledger} {name : Str} {scope : Scope} {cd c : Value} {x : Ex} {Q : Flow → Shared → Prop} {t : Expr} {b₀ : Stmt} {suite : List Stmt} {pos : Pos} {rest hs : List ExceptHandler} {env : Env}
theorem land (hfr : A.frames = some (env :: outer)) (hf : env.frame = some L) (X : Fly BB (env :: outer) e x (some .none) h')
    (H : ∀ h2, Fly BB (env :: outer) e x (some .none) h2 → h'.UpToSlots h2 → wpAny (model prog w) A (handleBy (.ref e) env hs) Q E ⟨h2, gs, dr, tk, os⟩) :
    wpAny (model prog w) A (noteFrame (.ref e) env) (fun _ s₂ => wpAny (model prog w) A (setFlight (.ref e) none) (fun _ s₃ => wpAny (model prog w) A (handleBy (.ref e) env hs) Q E s₃) E s₂) E ⟨h', gs, dr, tk, os⟩ :=
  fly_note hfr hf X (.inr rfl) fun h1 X1 u1 => fly_flight (to := none) X1 fun h2 X2 u2 => H h2 X2 (u1.trans u2)
theorem clause_yes (X : Fly BB (env :: outer) e x (some .none) h2)
    (ht : ∀ {Q' : Value → Shared → Prop} {E' : Value → Shared → Prop}, Q' c ⟨h2, gs, dr, tk, os⟩ → wpAny (model prog w) (A.mark (some (.ref e))) (eval t env) Q' E' ⟨h2, gs, dr, tk, os⟩)
    (hm : ∀ {Q' : Bool → Shared → Prop} {E' : Value → Shared → Prop}, Q' true ⟨h2, gs, dr, tk, os⟩ → wpAny (model prog w) (A.mark (some (.ref e))) (excMatches (.ref e) c) Q' E' ⟨h2, gs, dr, tk, os⟩)
    (H : ∀ h3, Fly BB (env :: outer) e x (some .none) h3 → h2.UpToSlots h3 → wpAny (model prog w) (A.mark (some (.ref e))) (execs (b₀ :: suite) env) Q (notedBy (model prog w) (A.mark (some (.ref e))) env (cameBackBy (model prog w) A env E)) ⟨h3, gs, dr, tk, os⟩) :
    wpAny (model prog w) A (handleBy (.ref e) env (.ExceptHandler (some t) none (b₀ :: suite) pos :: rest)) Q E ⟨h2, gs, dr, tk, os⟩ := by
  refine wpAny_handleBy_cons (codeAny_handlers_test (ht (hm ?_))) (by intro q; cases q)
  exact codeAny_handlers_suite (fly_flight (to := none) X fun h3 X3 u3 => H h3 X3 u3)
theorem clause_as {n : Str} (X : Fly BB (env :: outer) e x (some .none) h2)
    (ht : ∀ {Q' : Value → Shared → Prop} {E' : Value → Shared → Prop}, Q' c ⟨h2, gs, dr, tk, os⟩ → wpAny (model prog w) (A.mark (some (.ref e))) (eval t env) Q' E' ⟨h2, gs, dr, tk, os⟩)
    (hm : ∀ {Q' : Bool → Shared → Prop} {E' : Value → Shared → Prop}, Q' true ⟨h2, gs, dr, tk, os⟩ → wpAny (model prog w) (A.mark (some (.ref e))) (excMatches (.ref e) c) Q' E' ⟨h2, gs, dr, tk, os⟩)
    (H : ∀ h3, Fly BB (env :: outer) e x (some .none) h3 → h2.UpToSlots h3 → wpAny (model prog w) (A.mark (some (.ref e))) (storeName env n (.ref e)) (fun _ s₃ =>
            wpAny (model prog w) (A.mark (some (.ref e))) (execs (b₀ :: suite) env)
              (fun f s₄ => wpAny (model prog w) A (do bindName env n .none; unbindBehindTheSuite env n pos) (fun _ s₅ => Q f s₅) E s₄)
              (fun x s₄ => wpAny (model prog w) (A.mark (some (.ref e))) (noteFrame x env) (fun _ s₄' =>
                wpAny (model prog w) (A.mark (some (.ref e))) (do bindName env n .none; unbindBehindTheSuite env n pos)
                  (fun _ s₅ => wpAny (model prog w) (A.mark (some (.ref e))) (passOn "try.except-as" x env : Sem Flow) (fun _ _ => False) (notedBy (model prog w) (A.mark (some (.ref e))) env (cameBackBy (model prog w) A env E)) s₅)
                  (fun y s₅ => wpAny (model prog w) (A.mark (some (.ref e))) (setFlight x none) (fun _ s₆ => (notedBy (model prog w) (A.mark (some (.ref e))) env (cameBackBy (model prog w) A env E)) y s₆) (notedBy (model prog w) (A.mark (some (.ref e))) env (cameBackBy (model prog w) A env E)) s₅) s₄') (notedBy (model prog w) (A.mark (some (.ref e))) env (cameBackBy (model prog w) A env E)) s₄) s₃) (notedBy (model prog w) (A.mark (some (.ref e))) env (cameBackBy (model prog w) A env E)) ⟨h3, gs, dr, tk, os⟩) :
    wpAny (model prog w) A (handleBy (.ref e) env (.ExceptHandler (some t) (some n) (b₀ :: suite) pos :: rest)) Q E ⟨h2, gs, dr, tk, os⟩ := by
  refine wpAny_handleBy_cons (codeAny_handlers_test (ht (hm ?_))) (by intro q; cases q)
  exact codeAny_handlers_suite_as (fly_flight (to := none) X fun h3 X3 u3 => H h3 X3 u3)
theorem clause_no {n : Option Str} (ht : ∀ {Q' : Value → Shared → Prop} {E' : Value → Shared → Prop}, Q' c ⟨h2, gs, dr, tk, os⟩ → wpAny (model prog w) (A.mark (some (.ref e))) (eval t env) Q' E' ⟨h2, gs, dr, tk, os⟩)
    (hm : ∀ {Q' : Bool → Shared → Prop} {E' : Value → Shared → Prop}, Q' false ⟨h2, gs, dr, tk, os⟩ → wpAny (model prog w) (A.mark (some (.ref e))) (excMatches (.ref e) c) Q' E' ⟨h2, gs, dr, tk, os⟩)
    (H : wpAny (model prog w) A (handleBy (.ref e) env rest) Q E ⟨h2, gs, dr, tk, os⟩) :
    wpAny (model prog w) A (handleBy (.ref e) env (.ExceptHandler (some t) n (b₀ :: suite) pos :: rest)) Q E ⟨h2, gs, dr, tk, os⟩ :=
  wpAny_handleBy_cons (codeAny_handlers_test (ht (hm H))) (by intro q; cases q)
theorem clause_end (hf : env.frame = some L) (X : Fly BB (env :: outer) e x (some .none) h2) (H : ∀ h3, Fly BB (env :: outer) e x (some (rawInt L)) h3 → h2.UpToSlots h3 → E (.ref e) ⟨h3, gs, dr, tk, os⟩) :
    wpAny (model prog w) A (handleBy (.ref e) env []) Q E ⟨h2, gs, dr, tk, os⟩ := by
  refine wpAny_handleBy_nil ?_
  unfold PySem.passOn
  obtain ⟨_, _, _, oe, vs, he, _, _, hd, _, _, T, _, _, h1', _⟩ := id X
  refine wpAny_bind (wpAny_field he hd h1' ?_)
  rw [if_neg (show ¬ ((Value.ref T == Value.none) = true) from by simp)]
  rw [hf]
  exact wpAny_bind (fly_flight (to := some L) X fun h3 X3 u3 => wpAny_throw (H h3 X3 u3))
/-- a made exception is raised within a handler: it bears the handled one -/
theorem raise_in {α : Type} {x1 : Ex} {e1 : Addr} {oh : Obj} {vh : Array Value} {Q : α → Shared → Prop} (hh : A.handled = some (.ref e)) (hne : e1 ≠ e) (he : h.get? e = some oh) (hd : oh.data = .fields vh) (h2 : vh[2]? = some .none)
    (ht : ExAt h BB e1 x1 none) (H : ∀ h', (∀ b, b ≠ e1 → h'.get? b = h.get? b) → ExAt h' BB e1 { x1 with ctx := .ref e } none → E (.ref e1) ⟨h', gs, dr, tk, os⟩) :
    wpAny (model prog w) A (raiseNew (.ref e1) : Sem α) Q E ⟨h, gs, dr, tk, os⟩ := by
  unfold raiseNew
  refine wpAny_bind (wpAny_handled ?_)
  rw [hh]
  dsimp only
  rw [if_pos (show (Value.ref e != Value.ref e1) = true by simp [Ne.symm hne])]
  refine wpAny_bind (wpAny_holding (wpAny_runValue (codeAny_builtin (b := Builtin.«proto.unchain») (id := "proto.unchain") (entryFor_of_tree (by kernel_rfl)) ?_)))
  unfold Builtin.«proto.unchain»
  dsimp only
  refine wpAny_bind (wpAny_field he hd h2 ?_)
  rw [if_pos (by decide)]
  obtain ⟨o1, v1, q1, q2, q3, q4, q5, q6, q7⟩ := ht
  refine wpAny_bind (wpAny_pure (wpAny_pure ?_))
  dsimp only
  unfold updateField
  refine wpAny_bind (wpAny_bind (wpAny_load q1 ?_))
  rw [q4]
  dsimp only
  rw [if_pos (Array.getElem?_eq_some_iff.mp q6).1]
  refine wpAny_update' q1 (wpAny_throw ?_)
  refine H _ (fun b hb => Heap.get?_update_other _ _ (Ne.symm hb)) ⟨_, _, Heap.get?_update_self _ q1 (Obj.isFreed_of_fields (Obj.data_mapFields q4 _)), (Obj.cls_mapFields _ _).trans q2, (dict_mapFields _ _).trans q3, Obj.data_mapFields q4 _, ?_, ?_, ?_⟩
  · rw [Array.getElem?_setIfInBounds_ne (by decide)]; exact q5
  · simp [(Array.getElem?_eq_some_iff.mp q6).1]
  · show _ = _
    rw [Array.getElem?_setIfInBounds_ne (by decide)]; exact q7
end
section
variable {w : World} {A : Around} {E : Value → Shared → Prop} {gs : Array GenState} {dr : Drawn} {tk : Nat} {os : OsState} {hb g h h' : Heap} {outer : List Env} {L a e : Addr} {mm : Str → Option Value} {name : Str} {scope : Scope} {cd : Value} {x : Ex} {Q : Flow → Shared → Prop} {v : Option Value}
/-- out of a suite that handles an exception -/
theorem mark_leave {st : Option Value} (K : Below A hb outer g) (F : Fr g L h mm) (X : Fly (hideAll h (fs (envOf name scope L a cd :: outer))) (envOf name scope L a cd :: outer) e x st h') (hst : st = none ∨ st = some .none) (u : h.UpToSlots h')
    (H : ∀ h'', Thrown g outer e x h'' → h'.UpToSlots h'' → E (.ref e) ⟨h'', gs, dr, tk, os⟩) :
    notedBy (model pw w) ((A.deeper (envOf name scope L a cd)).mark v) (envOf name scope L a cd) (fun e s' => cameBackBy (model pw w) (A.deeper (envOf name scope L a cd)) (envOf name scope L a cd) (fun e s' =>
      wpAny (model pw w) (A.deeper (envOf name scope L a cd)) (leaving (envOf name scope L a cd) e) (fun _ s'' => E e s'') (fun e' s'' => E e' s'') s') e s') (.ref e) ⟨h', gs, dr, tk, os⟩ := by
  have hfr := Around.frames_deeper (env := envOf name scope L a cd) K.stack
  have hfr' : ((A.deeper (envOf name scope L a cd)).mark v).frames = some (envOf name scope L a cd :: outer) := hfr
  unfold notedBy
  refine fly_note hfr' rfl X hst fun h1 X1 u1 => ?_
  unfold cameBackBy
  obtain ⟨_, _, _, oe, vs, he, _, _, hd, _, _, T, _, _, h1', _⟩ := id X1
  refine wpAny_bind (wpAny_field he hd h1' ?_)
  rw [if_neg (show ¬ ((Value.ref T == Value.none) = true) from by simp)]
  refine fly_flight (to := some L) X1 fun h2 X2 u2 => ?_
  exact fly_leave hfr rfl X2 (.inr rfl) fun h3 X3 u3 => H h3 ⟨X3.weaken (hide_in F rfl), (Heap.UpToSlots.of_keeps F.keep).trans (u.trans (u1.trans (u2.trans u3)))⟩ (u1.trans (u2.trans u3))
/-- raise DecodingError(m, r) in a suite that handles e -/
theorem x_raise_in {env : Env} {c : Expr} {pos : Pos} {s : Shared} (hh : A.handled = some (.ref e))
    (H : wpAny (model pw w) A (eval c env) (fun v s₁ => ∃ e1 ta D oh vh, v = .ref e1 ∧ Base w s₁.heap ∧ s₁.heap.get? e1 = some { cls := .ref 74, dict := some D, data := .fields #[.ref ta, .none, .none, .none, .bool false, .none] } ∧
      e1 ≠ e ∧ s₁.heap.get? e = some oh ∧ oh.data = .fields vh ∧ vh[2]? = some .none ∧ ∀ h', (∀ b, b ≠ e1 → h'.get? b = s₁.heap.get? b) → ExAt h' h' e1 ⟨.ref 74, .ref ta, some D, .ref e⟩ none → E (.ref e1) { s₁ with heap := h' }) E s) :
    wpAny (model pw w) A (exec (.Raise (some c) none pos) env) Q E s := by
  rw [arm_exec_Raise]
  show wpAny _ A (do standAt pos; raiseStmt env (some (do let v ← eval c env; standAt pos; pure v)) none) Q E s
  refine wpAny_bind (wpAny_standAt ?_)
  unfold raiseStmt
  refine wpAny_bind (wpAny_mono (wpAny_bind (wpAny_mono H (fun v s₁ h₁ => wpAny_bind (wpAny_standAt (wpAny_pure h₁))) fun _ _ x => x)) (fun v s₁ h₁ => ?_) fun _ _ x => x)
  obtain ⟨e1, ta, D, oh, vh, rfl, B, he, hne, hoh, hdh, h2h, hE⟩ := h₁
  obtain ⟨hp, g, d, tk, os⟩ := s₁
  have hC := c74 B
  repeat (first | with_reducible refine wpAny_loadPart_at he ?_ | with_reducible refine wpAny_loadPart_at hC ?_ | (with_reducible refine wpAny_isSubtype_exc hC ?_) | wp_step)
  exact raise_in (BB := hp) (x1 := ⟨.ref 74, .ref ta, some D, .none⟩) hh hne hoh hdh h2h ⟨_, _, he, rfl, rfl, rfl, rfl, rfl, rfl⟩ fun h' k X => hE h' k X
end
end

section
section
variable {w : World} {A : Around} {E : Value → Shared → Prop} {gs : Array GenState} {dr : Drawn} {tk : Nat} {os : OsState} {h hb : Heap} {outer : List Env} {Q : Value → Shared → Prop}
theorem item_call {N₁ f : Nat} (hN₁ : N₁ ≤ 1500) {o : List UInt8} {st : Int} {t1 t2 : Tok} (B : Base w h) (K : Below A hb outer h) (hd : A.depth + f + 4 < recursionLimit) (hh : A.handled = none)
    (ho : o.length ≤ 10000) (hs : 0 ≤ st) (R : IR) (hR : itemF o N₁ (f + 1) st = R) (hnd : R ≠ .deep)
    (Hok : ∀ t rl e, R = .ok t rl e → ∀ h' u tk', ItemOk h h' u t rl e → Q (.ref u) ⟨h', gs, dr, tk', os⟩)
    (Hix : R = .index → ∀ h' e x tk', (x.cls = .type "IndexError" ∧ x.ctx = .none) → Thrown h outer e x h' → E (.ref e) ⟨h', gs, dr, tk', os⟩)
    (Hdec : ∀ m, R = .dec m → ∀ h' e x t1 t2 tk', IsDec h h' e x (.str m t1) (.bytes o.toArray t2) → Thrown h outer e x h' → E (.ref e) ⟨h', gs, dr, tk', os⟩) :
    wpAny (model pw w) A (call (.ref 1750) [.bytes o.toArray t1, .int st t2]) Q E ⟨h, gs, dr, tk, os⟩ := by
  refine x_enter B (by omega) (by rfl) (by rfl) (by rfl) (by rfl) (by rfl) (binds := [(Str.ofString "rlp", _), (Str.ofString "start", _)]) (by rfl) (locs (by rfl)) (by rfl) (by rfl) (by rfl) (by decide) ?_
  intro h₁ L tk' _ F N
  have hh' : (A.deeper (envOf (Str.ofString "consume_item") (fdS (sAt 37)) L 1750 (Value.ref 1749))).handled = none := hh
  have hdd : (A.deeper (envOf (Str.ofString "consume_item") (fdS (sAt 37)) L 1750 (Value.ref 1749))).depth = A.depth + 1 := rfl
  show wpAny _ _ (execs (fdB (sAt 37)) _) _ _ _
  refine wpAny_execs_cons ?_
  repeat' tb_start
  rw [itemF] at hR
  refine clp_call (B.keeps F.keep) (K.push F rfl) (by omega) hh' ho hs (fun pre ty len' st' hclp h₃ u3 s1 s2 s3 s4 tk₃ k₃ hu3 hg3 => ?_) (fun hclp h₃ e x tk₃ hx T => ?_) (fun m hclp h₃ e x s1 s2 tk₃ hX T => ?_)
  · rw [hclp] at hR
    dsimp only at hR
    obtain ⟨q1, q2, q3, q4, q5, q6, q7⟩ := clp_sane hs hclp
    replace N := news_adds F N k₃ (.one hu3 hg3)
    replace F := F.keeps k₃
    repeat' tb_start
    refine pay_call hN₁ f (B.keeps F.keep) (K.push F rfl) (by omega) hh' ho (by omega) (by omega) q2 (q6.elim (fun q => .inl q.1) fun q => .inr q.1) _ hR hnd (fun t r e hpay h₄ u4 tk₄ hI => ?_) (fun hpay h₄ e x tk₄ hx T => ?_) (fun m hpay h₄ e x s5 s6 tk₄ hX T => ?_)
    · obtain ⟨v4, r4, vs4, n4, s7, s8, T4, k₄, X4, R4⟩ := hI
      exact Hok _ _ _ hpay _ _ _ ⟨v4, r4, vs4, n4, s7, s8, T4, Ke.trans F.keep k₄, X4.before F.keep, R4⟩
    · exact leave_thrown K F T fun h'' T' u => Hix hpay _ _ _ _ hx T'
    · exact leave_thrown K F T fun h'' T' u => Hdec m hpay _ _ _ _ _ _ ((hX.upTo u).down F.keep) T'
  · rw [hclp] at hR
    exact leave_thrown K F T fun h'' T' u => Hix hR.symm _ _ _ _ hx T'
  · rw [hclp] at hR
    exact leave_thrown K F T fun h'' T' u => Hdec m hR.symm _ _ _ _ _ _ ((hX.upTo u).down F.keep) T'
end
end

set_option hygiene true
theorem str_len_app (x y : Str) : (x ++ y).length = x.length + y.length := strLen_append x y
section
variable {prog : Program} {w : World} {A : Around} {E : Value → Shared → Prop} {gs : Array GenState} {dr : Drawn} {tk : Nat} {os : OsState} {h g : Heap} {L a : Addr} {mm : Str → Option Value} {news news' : List (Addr × Obj)} {Q : Value → Shared → Prop} {t u : Tok} {env : Env} {name : Str} {scope : Scope} {cd : Value}
theorem x_lenb {x : List UInt8} (hfit : x.length ≤ 1099511627776) (H : ∀ t' tk', Q (.int (x.length : Int) t') ⟨h, gs, dr, tk', os⟩) : wpAny (model prog w) A (call (.builtin "len") [.bytes x.toArray t]) Q E ⟨h, gs, dr, tk, os⟩ :=
  KBw.len_K (s := ⟨h, gs, dr, tk, os⟩) (ks := KBw.bInts x.toArray) rfl (by rw [KBw.ints_length]; simpa using hfit) (by rw [KBw.ints_length]; exact H _ _)
/-! f-strings -/
/-- a text of at most n thousand letters -/
def Sm (n : Nat) (x : Str) : Prop := x.length ≤ n * 1000
theorem sm_app {n m : Nat} {x y : Str} (a : Sm n x) (b : Sm m y) : Sm (n + m) (x ++ y) := by
  unfold Sm at *
  rw [str_len_app]
  omega
theorem sm_of {x : Str} (h : x.length ≤ 1000) : Sm 1 x := by unfold Sm; omega
theorem sm_int {i : Int} (hi : i.natAbs < 2 ^ 70) : Sm 1 (Str.ofString (toString i)) := by
  have hl : i.natAbs.log2 < 70 := by
    by_cases h0 : i.natAbs = 0
    · rw [h0]; decide
    · exact (Nat.log2_lt h0).mpr hi
  have h1 := int_text_length_le (k := 70) (by decide) hl
  refine sm_of ?_
  rw [PySem.ofString_length]
  omega
abbrev Short (x : Str) : Prop := ∃ n, Sm n x ∧ n ≤ 10000
theorem short_of {n : Nat} {x : Str} (a : Sm n x) (b : n ≤ 10000) : Short x := ⟨n, a, b⟩
theorem Short.le {x : Str} (h : Short x) : x.length ≤ 10000000 := by
  obtain ⟨n, h1, h2⟩ := h
  unfold Sm at h1
  omega
theorem Short.app {x y : Str} (h : Short x) (k : Sm 1 y) : (x ++ y).length ≤ 16777216 := by
  have := h.le
  unfold Sm at k
  rw [str_len_app]
  omega
def FmtQ (prog : Program) (w : World) (A : Around) (E Q : Value → Shared → Prop) (out : Str) (rest : List (Sem Value)) (v : Value) (s : Shared) : Prop :=
  wpAny (model prog w) A (formatField v Str.empty) (fun v s₁ => match v with | .str y _ => (out ++ y).length ≤ sizeLine ∧ wpAny (model prog w) A (joinParts (out ++ y) rest) Q E s₁ | _ => False) E s
theorem x_jp_str {out x : Str} {k : Nat} {pos : Pos} {rest : List (Sem Value)} (hz : Short out) (hx : x.length ≤ 1000) (H : ∀ tk', wpAny (model prog w) A (joinParts (out ++ x) rest) Q E ⟨h, gs, dr, tk', os⟩) :
    wpAny (model prog w) A (joinParts out (eval (.Constant (.str x) k pos) env :: rest)) Q E ⟨h, gs, dr, tk, os⟩ := joinParts_cons (x_str fun t tk' => ⟨hz.app (sm_of hx), H tk'⟩)
theorem x_jp_fmt {out : Str} {value : Expr} {pos : Pos} {rest : List (Sem Value)} (H : wpAny (model prog w) A (eval value env) (FmtQ prog w A E Q out rest) E ⟨h, gs, dr, tk, os⟩) :
    wpAny (model prog w) A (joinParts out (eval (.FormattedValue value (-1) none pos) env :: rest)) Q E ⟨h, gs, dr, tk, os⟩ := joinParts_cons (FormattedValue_plain H)
theorem x_fmt_int {out : Str} {rest : List (Sem Value)} {i : Int} (hi : i.natAbs < 2 ^ 70) (hz : Short out) (H : ∀ tk', wpAny (model prog w) A (joinParts (out ++ Str.ofString (toString i)) rest) Q E ⟨h, gs, dr, tk', os⟩) :
    FmtQ prog w A E Q out rest (.int i t) ⟨h, gs, dr, tk, os⟩ := by
  have hl : i.natAbs.log2 < 70 := by
    by_cases h0 : i.natAbs = 0
    · rw [h0]; decide
    · exact (Nat.log2_lt h0).mpr hi
  refine formatField_int_small (Nat.lt_trans hl (by decide)) ⟨hz.app (sm_int hi), H _⟩
theorem x_jp_end {out : Str} (hz : Short out) (H : ∀ t tk', Q (.str out t) ⟨h, gs, dr, tk', os⟩) : wpAny (model prog w) A (joinParts out []) Q E ⟨h, gs, dr, tk, os⟩ := joinParts_nil (H _ _) (Nat.le_trans hz.le (by decide))
/-- len(x) -/
theorem x_load_free (F : Fr g L h mm) : Fr g L h mm := F
end
local macro_rules | `(tactic| tb_rel) => `(tactic| first
  | ((with_reducible refine' sm_app ?a ?b); (case a => tb_rel); (case b => tb_rel))
  | ((with_reducible refine sm_int ?_); omega)
  | ((with_reducible refine sm_of ?_); decide +kernel))
local macro_rules | `(tactic| tb_rel) => `(tactic| ((with_reducible refine' short_of ?a ?b); (case a => tb_rel); (case b => decide)))
set_option hygiene false
local macro_rules | `(tactic| tb_start) => `(tactic| first
  | ((with_reducible refine' g_isTrue ?_); ((with_reducible refine' isTrue_plain ?_ ?he); (case he => rfl)))
  | ((with_reducible refine' g_eval ?_); (with_reducible refine' JoinedStr_many ?_); dsimp only [evalEach])
  | (with_reducible refine' x_jp_fmt ?_)
  | ((with_reducible refine' x_jp_str ?hz ?hx ?_); (case hz => tb_rel); (case hx => decide +kernel); intro _)
  | ((with_reducible refine' x_jp_end ?hz ?_); (case hz => tb_rel); intro _ _)
  | ((with_reducible refine' x_fmt_int ?hi ?hz ?_); (case hi => omega); (case hz => tb_rel); intro _)
  | ((with_reducible refine' g_call ?_); (with_reducible refine' x_lenb ?hz ?_); (case hz => omega); intro _ _)
  | ((with_reducible refine' g_cmp ?_); (with_reducible refine' x_ne ?_))
  | (fail "no step"))

section
inductive DR where
  | ok (t : Tr)
  | dec (m : Str)
/-- the words for octets too many, as the f-string lays them -/
def superfl (k : Int) : Str := Str.empty ++ Str.ofString "RLP string ends with " ++ Str.ofString (toString k) ++ Str.ofString " superfluous bytes"
def rawF (R : IR) (len : Int) (strict : Bool) : DR := match R with
  | .ok t _ e => if (e != len) = true then (if strict then .dec (superfl (len - e)) else .ok t) else .ok t
  | .index => .dec "RLP string too short"
  | .dec m => .dec m
  | .deep => .dec ""
def RawOk (h h' : Heap) (u : Addr) (t : Tr) : Prop := ∃ v r T, Ke h h' ∧ New h h' ((u, tob [v, r]) :: T) ∧ Rep T v t
section
variable {w : World} {A : Around} {E : Value → Shared → Prop} {gs : Array GenState} {dr : Drawn} {tk : Nat} {os : OsState} {h hb : Heap} {outer : List Env} {Q : Value → Shared → Prop}
theorem raw_call {N₁ f : Nat} (hN₁ : N₁ ≤ 1500) {o : List UInt8} {strict : Bool} {v3 : Value} {t1 : Tok} (B₀ : Base w hb) (K : Below A hb outer h) (hd : A.depth + f + 5 < recursionLimit) (hh : A.handled = none)
    (ho : o.length ≤ 10000) (R : IR) (hR : itemF o N₁ (f + 1) 0 = R) (hnd : R ≠ .deep)
    (Hok : ∀ t, rawF R o.length strict = .ok t → ∀ h' u tk', RawOk h h' u t → Q (.ref u) ⟨h', gs, dr, tk', os⟩)
    (Hdec : ∀ m, rawF R o.length strict = .dec m → ∀ h' e x t1 t2 tk', IsDec h h' e x (.str m t1) (.bytes o.toArray t2) → Thrown h outer e x h' → E (.ref e) ⟨h', gs, dr, tk', os⟩) :
    wpAny (model pw w) A (call (.ref 1714) [.bytes o.toArray t1, .bool strict, v3]) Q E ⟨h, gs, dr, tk, os⟩ := by
  have B := base_below B₀ K
  refine x_enter B (by omega) (by rfl) (by rfl) (by rfl) (by rfl) (by rfl) (binds := [(Str.ofString "item", _), (Str.ofString "strict", _), (Str.ofString "_", _)]) (by rfl) (locs (by rfl)) (by rfl) (by rfl) (by rfl) (by decide) ?_
  intro h₁ L tk' _ F N
  have hh' : (A.deeper (envOf (Str.ofString "decode_raw") (fdS (sAt 30)) L 1714 (Value.ref 1713))).handled = none := hh
  have hdd : (A.deeper (envOf (Str.ofString "decode_raw") (fdS (sAt 30)) L 1714 (Value.ref 1713))).depth = A.depth + 1 := rfl
  show wpAny _ _ (execs (fdB (sAt 30)) _) _ _ _
  refine wpAny_execs_cons ?_
  refine wpAny_Try_except ?_
  repeat' tb_start
  have hsn := item_sane o N₁ (f + 1) 0 (Int.le_refl 0)
  refine item_call hN₁ (B.keeps F.keep) (K.push F rfl) (by omega) hh' ho (Int.le_refl 0) R hR hnd (fun t r e hit h₄ u4 tk₄ hI => ?_) (fun hix h₄ e x tk₄ hx T => ?_) (fun m hdec h₄ e x s5 s6 tk₄ hX T => ?_)
  · obtain ⟨v4, r4, vs4, n4, s7, s8, T4, k₄, X4, R4⟩ := hI
    rw [hR, hit] at hsn
    obtain ⟨z1, z2, z3, z4, z5⟩ := hsn
    replace N := news_adds F N k₄ X4
    replace F := F.keeps k₄
    repeat' tb_start
    · refine dec_leave K F B rfl (by omega) fun h'' e' x tk' X T => Hdec _ ?_ h'' e' x _ _ tk' X T
      rw [hit, rawF, if_pos (by assumption), if_pos (by assumption)]
      rfl
    · refine Hok t ?_ _ _ _ ⟨v4, .ref r4, _, F.keep, New.sub (New.of_news N) ?_, R4⟩
      · rw [hit, rawF, if_pos (by assumption), if_neg (by simp_all)]
      · exact fun p hp => (List.mem_cons.mp hp).elim (fun h => h ▸ .head _) fun hp => .tail _ (.tail _ (.tail _ (List.mem_append_left _ hp)))
    · refine Hok t ?_ _ _ _ ⟨v4, .ref r4, _, F.keep, New.sub (New.of_news N) ?_, R4⟩
      · rw [hit, rawF, if_neg (by simp_all)]
      · exact fun p hp => (List.mem_cons.mp hp).elim (fun h => h ▸ .head _) fun hp => .tail _ (.tail _ (.tail _ (List.mem_append_left _ hp)))
  · refine land (Around.frames_deeper K.stack) rfl T.1 fun h₅ X₅ u₅ => ?_
    obtain ⟨oe, vs, he, hec, hedi, hed, he0, he2, hen⟩ := fly_obj X₅
    obtain ⟨g5, kp5, hdom5, K5, F5, N5⟩ := reground K F N ⟨X₅.1, T.2.trans u₅⟩ (New.one hen he)
    have B5 := base_below B₀ K5
    refine clause_yes (c := .type "IndexError") X₅ (fun hq => x_blt F5 B5 (by rfl) bt_IndexError (by rfl) (by rfl) (by decide) (by decide) hq)
      (fun hq => wpAny_excMatches_type (X := "IndexError") ⟨oe, he, hec.trans hx.1⟩ PySem.F.isExc_IndexError PySem.F.notTuple_IndexError (by rw [isSubtype_type]; kernel_rfl) hq) fun h₆ X₆ u₆ => ?_
    obtain ⟨oe, vs, he, hec, hedi, hed, he0, he2, hen⟩ := fly_obj X₆
    obtain ⟨g6, kp6, hdom6, K6, F6, N6⟩ := reground K F N ⟨X₆.1, (T.2.trans u₅).trans u₆⟩ (New.one hen he)
    have B6 := base_below B₀ K6
    replace F := F6
    replace N := N6
    refine wpAny_execs_cons ?_
    refine x_raise_in (e := e) rfl ?_
    replace B := B6
    repeat' tb_start
    rename_i tm _
    refine ⟨B.keeps F.keep, dec_new (B.keeps F.keep) (by show A.depth + 1 + 1 < _; omega) fun h₇ e1 D ta tk₇ k1 k2 k3 k4 k5 k6 k7 => ⟨e1, ta, D, oe, vs, rfl, (B.keeps F.keep).keeps k1, k3, ?_, ?_, hed, by rw [he2, hx.2], fun h₈ k8 X8 => ?_⟩⟩
    · intro q
      subst q
      rw [N.get (.head _)] at k2
      cases k2
    · exact k1 _ _ (N.get (.head _))
    · have k18 : Ke _ h₈ := fun b o q => (k8 b fun z => by rw [z, k2] at q; cases q).trans (k1 b o q)
      refine mark_leave K6 F (fly_made K6 F rfl k18 k2 X8) (.inl rfl) (Heap.UpToSlots.of_keeps k18) fun h₉ T9 u9 => ?_
      have hta : ta ≠ e1 := fun q => by rw [q, k3] at k4; cases k4
      have hD : D ≠ e1 := fun q => by
        obtain ⟨o, es, ep, q1, q2, _⟩ := k5
        rw [q, k3] at q1
        cases q1
        cases q2
      have ID : IsDec h h₉ e1 ⟨.ref 74, .ref ta, some D, .ref e⟩ (.str "RLP string too short" tm) (.bytes o.toArray t1) :=
        IsDec.upTo (h := h₈) ⟨rfl, D, ta, rfl, rfl, ⟨_, 0, (k8 ta hta).trans k4, rfl, rfl⟩, k5.at fun o q => (k8 D hD).trans q, (hdom6 _).mp (fresh1 F.keep k6), (hdom6 _).mp (fresh1 F.keep k7)⟩ u9
      exact Hdec "RLP string too short" (by rw [hix]; rfl) h₉ e1 _ _ _ _ ID (thrown_ground kp6 T9)
  · refine land (Around.frames_deeper K.stack) rfl T.1 fun h₅ X₅ u₅ => ?_
    obtain ⟨oe, vs, he, hec, hedi, hed, he0, he2, hen⟩ := fly_obj X₅
    obtain ⟨g5, kp5, hdom5, K5, F5, N5⟩ := reground K F N ⟨X₅.1, T.2.trans u₅⟩ (New.one hen he)
    have B5 := base_below B₀ K5
    refine clause_no (c := .type "IndexError") (fun hq => x_blt F5 B5 (by rfl) bt_IndexError (by rfl) (by rfl) (by decide) (by decide) hq)
      (fun hq => wpAny_excMatches_sub_type (c74 (B5.keeps F5.keep)) he (hec.trans hX.1) PySem.F.isExc_IndexError PySem.F.notTuple_IndexError hq) ?_
    refine clause_end (L := L) rfl X₅ fun h₆ X₆ u₆ => ?_
    refine fly_leave (Around.frames_deeper K.stack) rfl X₆ (.inr rfl) fun h₇ X₇ u₇ => ?_
    exact Hdec m (by rw [hdec]; rfl) h₇ e x _ _ _ (((hX.upTo u₅).upTo (u₆.trans u₇)).down F.keep) ⟨X₇.weaken (hide_in F rfl), (Heap.UpToSlots.of_keeps F.keep).trans (T.2.trans (u₅.trans (u₆.trans u₇)))⟩
end
end

set_option hygiene true
section
variable {w : World} {A : Around} {E : Value → Shared → Prop} {gs : Array GenState} {dr : Drawn} {tk : Nat} {os : OsState} {h g : Heap} {L a : Addr} {mm : Str → Option Value} {Q : Value → Shared → Prop} {name : Str} {scope : Scope} {cd : Value}
/-- entry of a def with defaults, or called with keywords -/
theorem x_enterD {params : Arguments} {body : List Stmt} {dV kwdV : Value} {ann : Option Addr} {pm doc : Value} {f c : Addr} {o oc : Obj} {vs : Array Value} {tq : Tok} {vals : List Value} {kw : List (Str × Value)} {binds : List (Str × Value)}
    (B : Base w h) (hdep : A.depth < recursionLimit) (ho : (objs w.params).lookup f = some o) (hdat : o.data = .func (defFd name name params body scope mainGlobals dV kwdV ann pm (.ref c) doc))
    (hc : (objs w.params).lookup c = some oc) (hcd : oc.data = .fields vs) (hq : vs[1]? = some (.str name tq))
    (hbind : ∀ S, peek (objs w.params) S (bindArgs (defFd name name params body scope mainGlobals dV kwdV ann pm (.ref c) doc) ⟨vals, kw⟩) = some binds)
    (hloc : ∀ x ∈ binds, scope.names.lookup x.1 = some .local) (hco : scope.isCoroutine = false) (hgen : scope.isGenerator = false) (hk : scope.kind = .function) (hcell : ∀ x ∈ scope.names, x.2 ≠ .cell)
    (H : ∀ h₁ L tk', L = h.objs.size → Fr h L h₁ (look binds.reverse) → News h L h₁ [] →
      wpAny (model pw w) (A.deeper (envOf name scope L f (.ref c))) (execs body (envOf name scope L f (.ref c))) (fun fl s' => Q (match fl with | .ret v => v | _ => .none) s')
        (fun e s' => wpAny (model pw w) (A.deeper (envOf name scope L f (.ref c))) (leaving (envOf name scope L f (.ref c)) e) (fun _ s'' => E e s'') (fun e' s'' => E e' s'') s') ⟨h₁, gs, dr, tk', os⟩) :
    wpAny (model pw w) A (call (.ref f) vals kw) Q E ⟨h, gs, dr, tk, os⟩ :=
  wpAny_call (codeAny_call_def (s := ⟨h, gs, dr, tk, os⟩) hdep (B.get ho) hdat B.nolimit ⟨c, oc, vs, tq, rfl, B.get hc, hcd, hq⟩ rfl (kp_binds B.inK hbind) hcell hloc (fun h₁ hns hkeep => wpAny_mono (H h₁ _ _ rfl ⟨hns, hkeep, Nat.le_refl _⟩ News.nil) (fun fl s' x => by cases fl <;> exact x) fun _ _ x => x) hco hgen hk)
def CalledKw (w : World) (A : Around) (E : Value → Shared → Prop) (f : Addr) (Q : Value → Shared → Prop) (ks : List Str) (vs : List Value) (us : List Value) (s : Shared) : Prop := Base w s.heap ∧ wpAny (model pw w) A (call (.ref f) vs (ks.zip us)) Q E s
theorem x_callkw {x : Str} {np pos : Pos} {e : Expr} {rest : List Expr} {kwd : Keyword} {kws : List Keyword} {ks : List Str} {f : Addr} (F : Fr g L h mm) (B : Base w g) (hv : globs.lookup x = some (.ref f)) (hk : scope.kind = .function) (hl : scope.names.lookup x = some .globalImplicit)
    (hd : (x == ("__debug__" : Str)) = false) (hf : keepIn (objs w.params) (.ref f) = true) (hall : (backToKw pos (keywordEach (kwd :: kws) (envOf name scope L a cd))).all (·.1.isSome) = true) (hks : (backToKw pos (keywordEach (kwd :: kws) (envOf name scope L a cd))).filterMap (·.1) = ks)
    (hplain : ((backTo pos (starEach (e :: rest) (envOf name scope L a cd))).any (·.1) || (backToKw pos (keywordEach (kwd :: kws) (envOf name scope L a cd))).any (·.1.isNone)) = false) (he : starEach (e :: rest) (envOf name scope L a cd) = (false, eval e (envOf name scope L a cd)) :: starEach rest (envOf name scope L a cd))
    (H : wpAny (model pw w) A (spliced (backTo pos (starEach (e :: rest) (envOf name scope L a cd)))) (fun vs s₁ => wpAny (model pw w) A (evalAll ((backToKw pos (keywordEach (kwd :: kws) (envOf name scope L a cd))).map (·.2))) (CalledKw w A E f Q ks vs) E s₁) E ⟨h, gs, dr, tk, os⟩) :
    wpAny (model pw w) A (eval (.Call (.Name x np) (e :: rest) (kwd :: kws) pos) (envOf name scope L a cd)) Q E ⟨h, gs, dr, tk, os⟩ := by
  refine wpAny_Call_ofName (x_glob F B hv hk hl hd ?_)
  refine callWith_KW (h₀ := g) B.inK hf hall (wpAny_mono H (fun vs s₁ h₁ => wpAny_mono h₁ (fun us s₂ h₂ => ?_) fun _ _ x => x) fun _ _ x => x) hplain he
  subst hks
  exact ⟨h₂.1.inK, h₂.2⟩
theorem x_calledkw {f : Addr} {ks : List Str} {vs us : List Value} (F : Fr g L h mm) (B : Base w g) (H : wpAny (model pw w) A (call (.ref f) vs (ks.zip us)) Q E ⟨h, gs, dr, tk, os⟩) : CalledKw w A E f Q ks vs us ⟨h, gs, dr, tk, os⟩ := ⟨B.keeps F.keep, H⟩
end
set_option hygiene false
local macro_rules | `(tactic| tb_start) => `(tactic| first
  | ((with_reducible refine' g_eval ?_); first
    | ((with_reducible refine' x_callkw ?F ?B ?hv ?hk ?hl ?hd ?hf ?hall ?hks ?hp ?he ?_); (case F => exact F); (case B => assumption); (case hv => rfl); (case hk => rfl); (case hl => rfl); (case hd => decide); (case hf => rfl); (case hall => rfl); (case hks => rfl); (case hp => rfl); (case he => rfl)))
  | (with_reducible refine' kws_nil ?_)
  | (with_reducible refine' kws_cons ?_)
  | ((with_reducible refine' x_calledkw ?F ?B ?_); (case F => exact F); (case B => assumption))
  | (fail "no step"))

set_option hygiene true
local macro_rules | `(tactic| tb_start) => `(tactic| first
  | ((with_reducible refine' g_isTrue ?_); (with_reducible refine' isTrue_not ?_))
  | (with_reducible refine' truthy_none ?_)
  | (fail "no step"))
section
variable {w : World} {A : Around} {E : Value → Shared → Prop} {gs : Array GenState} {dr : Drawn} {tk : Nat} {os : OsState} {h hb : Heap} {outer : List Env} {Q : Value → Shared → Prop}
/-- the locals of decode -/
abbrev decB (r sv : Value) (strict cb : Bool) : List (Str × Value) := [(Str.ofString "rlp", r), (Str.ofString "sedes", sv), (Str.ofString "strict", .bool strict), (Str.ofString "recursive_cache", .bool cb)]
abbrev decFd (pm : Value) : FuncData := defFd "decode" "decode" (fdA (sAt 38)) (fdB (sAt 38)) (fdS (sAt 38)) mainGlobals (.ref 1751) .none none pm (.ref 1757) .none
theorem decode_call {N₁ f : Nat} (hN₁ : N₁ ≤ 1500) {o : List UInt8} {strict cb : Bool} {t1 : Tok} {vals : List Value} {kw : List (Str × Value)} (B₀ : Base w hb) (K : Below A hb outer h) (hd : A.depth + f + 6 < recursionLimit) (hh : A.handled = none)
    (hbind : ∀ pm S, peek (objs w.params) S (bindArgs (decFd pm) ⟨vals, kw⟩) = some (decB (.bytes o.toArray t1) .none strict cb))
    (ho : o.length ≤ 10000) (R : IR) (hR : itemF o N₁ (f + 1) 0 = R) (hnd : R ≠ .deep)
    (Hok : ∀ t, rawF R o.length strict = .ok t → ∀ h' v T tk', Ke h h' → New h h' T → Rep T v t → Q v ⟨h', gs, dr, tk', os⟩)
    (Hdec : ∀ m, rawF R o.length strict = .dec m → ∀ h' e x t1 t2 tk', IsDec h h' e x (.str m t1) (.bytes o.toArray t2) → Thrown h outer e x h' → E (.ref e) ⟨h', gs, dr, tk', os⟩) :
    wpAny (model pw w) A (call (.ref 1758) vals kw) Q E ⟨h, gs, dr, tk, os⟩ := by
  have B := base_below B₀ K
  refine x_enterD B (by omega) (by rfl) (by rfl) (by rfl) (by rfl) (by rfl) (binds := decB (.bytes o.toArray t1) .none strict cb) (hbind _) (locs (by rfl)) (by rfl) (by rfl) (by rfl) (by decide) ?_
  intro h₁ L tk' _ F N
  have hh' : (A.deeper (envOf (Str.ofString "decode") (fdS (sAt 38)) L 1758 (Value.ref 1757))).handled = none := hh
  have hdd : (A.deeper (envOf (Str.ofString "decode") (fdS (sAt 38)) L 1758 (Value.ref 1757))).depth = A.depth + 1 := rfl
  show wpAny _ _ (execs (fdB (sAt 38)) _) _ _ _
  refine wpAny_execs_cons ?_
  repeat' tb_start
  refine is_bytes_call (B.keeps F.keep) (by omega) fun h₂ tk₂ k₂ => ?_
  replace N := news_ke N k₂
  replace F := F.keeps k₂
  repeat' tb_start
  · exact absurd ‹(!true) = true› (by decide)
  refine raw_call hN₁ B₀ (K.push F rfl) (by omega) hh' ho R hR hnd (fun t hr h₃ u3 tk₃ X => ?_) (fun m hr h₃ e x s1 s2 tk₃ hX T => ?_)
  · obtain ⟨v3, r3, T3, k₃, X3, R3⟩ := X
    replace N := news_adds F N k₃ X3
    replace F := F.keeps k₃
    repeat' tb_start
    exact Hok t hr _ _ _ _ F.keep (New.sub (New.of_news N) fun p hp => .tail _ (List.mem_append_left _ hp)) R3
  · exact leave_thrown K F T fun h'' T' u => Hdec m hr _ _ _ _ _ _ ((hX.upTo u).down F.keep) T'
end

set_option hygiene true
theorem lookIn_of {h : Heap} {D : Addr} {m : Str → Option Value} {name : Str} {v : Value} (hn : h.Ns D m) (hm : m name = some v) : ∃ od, h.get? D = some od ∧ lookIn name od = some (some v) := by
  obtain ⟨o, es, ep, h1, h2, h3, h4⟩ := hn
  refine ⟨o, h1, ?_⟩
  have := h4 name
  rw [hm] at this
  unfold nsFind findBy at this
  unfold lookIn
  rw [h2]
  dsimp only
  obtain ⟨l⟩ := es
  rw [List.find?_toArray] at this
  cases q : l.find? (fun e => e.key.isStr name) with
  | none => rw [q] at this; cases this
  | some e => rw [q] at this; cases this; rfl
section
variable {w : World} {A : Around} {E : Value → Shared → Prop} {h : Heap} {gs : Array GenState} {dr : Drawn} {tk : Nat} {os : OsState} {e D : Addr} {oe : Obj}
theorem ga74 {P : Params} : findIn (objs P) (.ref 74) "__getattribute__" = some (some (.builtin "BaseException.__getattribute__")) := by rfl
theorem exc_attr {m : Str → Option Value} {v : Value} {expr : Bool} {Q : Value → Shared → Prop} (B : Base w h) (he : h.get? e = some oe) (hc : oe.cls = .ref 74) (hd : oe.dict = some D) (hno : notCls oe = true) (hn : h.Ns D m) (hm : m (Str.ofString "rlp") = some v)
    (hh : handedIn v = true) (H : ∀ tk', Q v ⟨h, gs, dr, tk', os⟩) : wpAny (model pw w) A (getAttr (.ref e) (Str.ofString "rlp") expr) Q E ⟨h, gs, dr, tk, os⟩ := by
  obtain ⟨od, ho, hl⟩ := lookIn_of hn hm
  have I : InstAt h e oe 74 (some od) := ⟨he, hc, hno, by rw [hd]; exact ho⟩
  unfold getAttr
  refine wpAny_bind (wpAny_mkText ?_)
  have hf : findObj (objs w.params) 74 (some od) (Str.ofString "rlp") = some (.value v) := by
    show (W.ownOf _ (some od) (Str.ofString "rlp")).bind _ = _
    unfold W.ownOf
    rw [if_pos (by rfl)]
    dsimp only
    rw [hl]
    rfl
  have L0 := I.type (M := model pw w)
  have L1 := looks_findIn (M := model pw w) B.inK (ga74 (P := w.params))
  have L2 := looks_findIn (M := model pw w) B.inK (show findIn (objs w.params) (.ref 74) "__getattr__" = some none by rfl)
  have L3 := looks_find (M := model pw w) B.inK I hf
  unfold getAttrBy
  refine wpAny_holding (wpAny_bind (L0.at (wpAny_bind (L1.at ?_))))
  show wpAny _ _ (getAttrByItsOwn _ _ _ _ _ _) _ _ _
  unfold getAttrByItsOwn hookBefore callGetattribute
  rw [show onTheHeap (Value.ref 74) = true from rfl, if_pos rfl]
  refine wpAny_bind (L2.at (wpAny_bind (wpAny_attempt (wpAny_holding ?_))))
  rw [show (expr && onTheHeap (Value.builtin "BaseException.__getattribute__")) = false by cases expr <;> rfl, if_neg (by decide)]
  unfold boundAndCalled
  refine wpAny_bind (wpAny_of_eq (PySem.F.attr_Exception.ga.bind (.ref e)) ?_)
  refine wpAny_call (codeAny_call_builtin (id := "BaseException.__getattribute__") (by decide +kernel) PySem.F.entry_bexc_ga (check_slot (i := "BaseException.__getattribute__") (owner := "BaseException") (n := "__getattribute__") (by decide +kernel) (by decide +kernel) (L0.andThen (looks_mroIn (K := objs w.params) B.inK (by rfl))) (PySem.F.args_bexc_ga _ _) ?_))
  unfold Builtin.«object.__getattribute__»
  refine wpAny_bind (wpAny_pure (wpAny_bind (wpAny_pure (wpAny_bind (L0.at (wpAny_bind (L3.at (wpAny_pure ?_))))))))
  show wpAny _ _ (handedOut v) _ _ _
  rw [handedOut_of hh]
  exact wpAny_pure (H _)
open Builtin Builtin.BaseException in
theorem call_excstr {prog : Program} {w' : World} {ta : Addr} {m : Str} {t : Tok} {vs : Array Value} {Q : Value → Shared → Prop} (B : Base w h) (he : h.get? e = some oe) (hc : oe.cls = .ref 74) (hno : notCls oe = true) {od : Option Obj} (I : InstAt h e oe 74 od) (hd : oe.data = .fields vs) (h0 : vs[0]? = some (.ref ta)) (ht : h.TupAt ta [.str m t])
    (H : Q (.str m t) ⟨h, gs, dr, tk, os⟩) : wpAny (model prog w') A (call (.builtin "BaseException.__str__") [.ref e]) Q E ⟨h, gs, dr, tk, os⟩ := by
  have hargs : ∀ {M : Model} {A : Around} {E : Value → Shared → Prop} {Q : Value × List Value → Shared → Prop}, Q (.ref ta, [.str m t]) ⟨h, gs, dr, tk, os⟩ → wpAny M A (bexcArgs (.ref e)) Q E ⟨h, gs, dr, tk, os⟩ := by
    intro M A E Q hq
    obtain ⟨ot, k, hto, _, htd⟩ := ht
    unfold bexcArgs
    refine wpAny_bind (wpAny_field (s := ⟨h, gs, dr, tk, os⟩) he hd h0 (wpAny_bind (wpAny_seqItems (s := ⟨h, gs, dr, tk, os⟩) hto htd ?_)))
    exact wpAny_pure hq
  refine wpAny_call (codeAny_call_builtin (id := "BaseException.__str__") (by decide +kernel) PySem.F.entry_bexc_str (check_slot (i := "BaseException.__str__") (owner := "BaseException") (n := "__str__") (by decide +kernel) (by decide +kernel) (I.type.andThen (looks_mroIn (K := objs w.params) B.inK (by rfl))) (PySem.F.args_bexc_str _) ?_))
  unfold Builtin.«BaseException.__str__»
  repeat (first | with_reducible refine hargs ?_ | wp_step)
  exact H
theorem str_exc {ta : Addr} {m : Str} {t : Tok} {vs : Array Value} {Q : Value → Shared → Prop} (hu : A.units + 2 < cLine) (B : Base w h) (he : h.get? e = some oe) (hc : oe.cls = .ref 74) (hno : notCls oe = true) {od : Option Obj} (I : InstAt h e oe 74 od) (hd : oe.data = .fields vs) (h0 : vs[0]? = some (.ref ta)) (ht : h.TupAt ta [.str m t])
    (H : Q (.str m t) ⟨h, gs, dr, tk, os⟩) : wpAny (model pw w) A (call (.type "str") [.ref e]) Q E ⟨h, gs, dr, tk, os⟩ := by
  refine callType_new (S := fun A R s => s = ⟨h, gs, dr, tk, os⟩ ∧ A.units + 1 < cLine ∧ R (.ok (.ret (.str m t))) s) PySem.F.called_str (by decide) (PySem.F.typeCall_str_1 _) (PySem.F.newCall_str_1 _) (fun obj => PySem.F.args_object_init_2 obj _) PySem.F.entry_str_new
    (meets_str_new fun prog w' A' R s hs => ?_) ⟨rfl, by show A.units + 1 + 1 < cLine; omega, typeIs_str _ _ _, H⟩
  obtain ⟨rfl, hu', hR⟩ := hs
  unfold Builtin.Str.strOf
  rw [show Builtin.Str.isExactStr (.ref e) = false from rfl, if_neg (by decide)]
  refine wpAny_bind (wpAny_cRoomFor (by show A'.units + 1 < cLine; omega) ?_)
  refine wpAny_bind (m := callSpecial? (.ref e) (Str.ofString "__str__")) (kfo_special (K := objs w.params) B.inK I (by rfl) (PySem.F.excStr_Exception.str.bind) (call_excstr B he hc hno I hd h0 ht ?_))
  exact wpAny_pure hR
end
theorem x_beq_t {prog : Program} {w : World} {A : Around} {E : Value → Shared → Prop} {s : Shared} {b c : List UInt8} {t u : Tok} {Q : Value → Shared → Prop} (e : (b == c) = true) (H : Q (.bool true) s) : wpAny (model prog w) A (compareOp .Eq (.bytes b.toArray t) (.bytes c.toArray u)) Q E s := x_beq (by rw [e]; exact H)
set_option hygiene false
local macro_rules | `(tactic| tb_start) => `(tactic| first
  | ((with_reducible refine' g_eval ?_); first
    | (with_reducible refine' wpAny_IfExp ?_)
    | ((with_reducible refine' Attribute_Name_ ?_ ?he); (case he => rfl)))
  | ((with_reducible refine' g_cmp ?_); (with_reducible refine' x_beq_t ?e ?_); (case e => with_reducible exact beq_self_eq_true (α := List UInt8) _))
  | (fail "no step"))

set_option hygiene true
section
variable {prog : Program} {w : World} {A : Around} {E : Value → Shared → Prop} {gs : Array GenState} {dr : Drawn} {tk : Nat} {os : OsState} {h g : Heap} {L D : Addr} {mm : Str → Option Value} {news news' : Ledger} {Q : Value → Shared → Prop} {t u : Tok} {vs : List Value} {n : Nat} {i : Int} {x : Value} {value slice : Expr}
theorem isl_of (hg : h.get? D = some (lob vs n)) : Heap.IsList h D vs.toArray := ⟨_, hg, rfl, n, rfl⟩
theorem x_lenl (hg : h.get? D = some (lob vs n)) (hz : vs.length ≤ 1000000) (H : ∀ t' tk', Q (.int (vs.length : Int) t') ⟨h, gs, dr, tk', os⟩) : wpAny (model prog w) A (call (.builtin "len") [.ref D]) Q E ⟨h, gs, dr, tk, os⟩ :=
  len_list (s := ⟨h, gs, dr, tk, os⟩) (isl_of hg) (by rw [List.size_toArray]; omega) (by rw [List.size_toArray]; exact H _ _)
/-- an item of a list, within -/
theorem x_lget (hg : h.get? D = some (lob vs n)) (h0 : 0 ≤ i) (hfit : i < 1000000) (hx : vs[i.toNat]? = some x)
    (hs : subscripted slice false (.ref D) (.int i u) = operate [.ref D, .int i u] (getItem (.ref D) (.int i u))) (H : Q x ⟨h, gs, dr, tk, os⟩) :
    wpAny (model prog w) A (subscriptTail value slice (.ref D) (.int i u)) Q E ⟨h, gs, dr, tk, os⟩ := kba_turn (value' := .Name Str.empty default) (fun _ => rfl) (x_litem (items := vs) hg h0 (by omega) hx hs (fun _ => rfl) H)
theorem x_getl (hg : h.get? D = some (lob vs n)) (h0 : 0 ≤ i) (hfit : i < 1000000) (hx : vs[i.toNat]? = some x) (H : Q x ⟨h, gs, dr, tk, os⟩) : wpAny (model prog w) A (getItem (.ref D) (.int i u)) Q E ⟨h, gs, dr, tk, os⟩ :=
  wpAny_getItem_list (s := ⟨h, gs, dr, tk, os⟩) (isl_of hg) h0 (by omega) (by simpa using hx) H
theorem x_setl {Q : Unit → Shared → Prop} (F : Fr g L h mm) (N : News g L h news) (hm : (D, lob vs n) ∈ news) (U : Upd D (lob vs n) (lob (vs.set i.toNat x) n) news news') (h0 : 0 ≤ i) (h1 : i < vs.length) (hfit : i < 1000000)
    (H : ∀ h', Fr g L h' mm → News g L h' news' → Q () ⟨h', gs, dr, tk, os⟩) : wpAny (model prog w) A (setItem (.ref D) (.int i u) x) Q E ⟨h, gs, dr, tk, os⟩ := by
  obtain ⟨pre, post, rfl, rfl, a, b⟩ := U.split
  have z := N (D, lob vs n) (List.mem_append.mpr (.inr (.head _)))
  refine ki_setAt (s := ⟨h, gs, dr, tk, os⟩) z.1 h0 (by omega) (by rw [List.size_toArray]; omega) (H _ (F.change (Heap.SameBut.update ..) z.2.1 z.2.2) (ki_turn _ N a b ?_ ?_))
  · apply Array.toList_inj.mp
    simp
  · simp
theorem x_iadd {i j : Int} (H : ∀ t' tk', Q (.int (i + j) t') ⟨h, gs, dr, tk', os⟩) : wpAny (model prog w) A (inplaceOp .Add (.int i t) (.int j u)) Q E ⟨h, gs, dr, tk, os⟩ := PyProof.Rows.iadd_int (H _ _)
theorem x_mod {i j : Int} (hj : j ≠ 0) (H : ∀ t' tk', Q (.int (i.fmod j) t') ⟨h, gs, dr, tk', os⟩) : wpAny (model prog w) A (binaryOp .Mod (.int i t) (.int j u)) Q E ⟨h, gs, dr, tk, os⟩ := PyProof.Rows.mod_int' hj (H _ _)
end
theorem ints_get : ∀ {vs : List Value} {ns : List Int}, IntsAre vs ns → ∀ i, i < ns.length → ∃ t, vs[i]? = some (.int (ns.getD i 0) t)
  | _, _, .cons n t r, 0, _ => ⟨t, rfl⟩
  | _, _, .cons n t r, i + 1, h => by
    obtain ⟨t', e⟩ := ints_get r i (by simpa using h)
    exact ⟨t', by simpa using e⟩
theorem hide1 {h : Heap} {S : Addr} : ∀ b o, (hideAll h [S]).get? b = some o → h.get? b = some o ∧ b ≠ S := fun b o q => ⟨of_hideAll _ q, fun e => by subst e; rw [hideAll_none _ (.head _)] at q; cases q⟩
theorem fr_hide {h h₁ : Heap} {L S : Addr} {mm : Str → Option Value} (F : Fr h L h₁ mm) : Fr (hideAll h [S]) L h₁ mm := ⟨F.ns, fun b o q => F.keep b o (hide1 b o q).1, by rw [hideAll_size]; exact F.above⟩
theorem base_hide {w : World} {h hb : Heap} {S : Addr} (B : Base w hb) (k : hb.StaysIn h) (hS : hb.get? S = none) : Base w (hideAll h [S]) := B.keeps fun b o q => hideAll_get _ (k b o q) fun hm => by
  rw [List.mem_singleton] at hm
  subst hm
  rw [hS] at q
  cases q
set_option hygiene false
local macro_rules | `(tactic| tb_start) => `(tactic| first
  | ((with_reducible refine' g_exec ?_); ((with_reducible refine' wpAny_AugAssign_Subscript_any ?_ ?ha); (case ha => intro _ _ _; rfl)))
  | ((with_reducible refine' g_bin ?_); ((with_reducible refine' x_mod ?hj ?_); (case hj => first | assumption | decide | omega); intro _ _))
  | ((with_reducible refine' x_iadd ?_); intro _ _)
  | ((with_reducible refine' g_call ?_); ((with_reducible refine' x_lenl ?hg ?hz ?_); (case hg => first | exact News.get N (by tb_rel) | exact Fr.keep F _ _ (by assumption)); (case hz => omega); intro _ _))
  | ((with_reducible refine' x_lget ?hg ?h0 ?hf ?hx ?hs ?_); (case hg => first | exact News.get N (by tb_rel) | exact Fr.keep F _ _ (by assumption)); (case h0 => first | decide | omega); (case hf => first | decide | omega); (case hx => first | assumption | rfl); (case hs => with_unfolding_all rfl))
  | ((with_reducible refine' x_getl ?hg ?h0 ?hf ?hx ?_); (case hg => first | exact News.get N (by tb_rel) | exact Fr.keep F _ _ (by assumption)); (case h0 => first | decide | omega); (case hf => first | decide | omega); (case hx => first | assumption | rfl))
  | ((with_reducible refine' x_setl ?F ?N ?hm ?U ?h0 ?h1 ?hf ?_); (case F => exact F); (case N => exact N); (case hm => tb_rel); (case U => tb_rel); (case h0 => first | decide | omega); (case h1 => simp; try omega); (case hf => first | decide | omega); (clear F N); intro _ F N)
  | (fail "no step"))

set_option hygiene true
section
variable {prog : Program} {w : World} {A : Around} {gs : Array GenState} {dr : Drawn} {tk : Nat} {os : OsState} {h g : Heap} {L I : Addr} {m : Str → Option Value} {news : Ledger} {env : Env} {target : Expr} {body : List Stmt} {fp wr : List Addr} {n : Nat} {P : Nat → Value → Prop} {St : Nat → Heap → Prop} {R : Result → Shared → Prop}
/-- a for loop over whatever walks; the ledger may grow -/
theorem loop_own (W : Walks prog w A I fp wr n P St) (hLf : L ∉ fp) (hwr : ∀ b ∈ wr, g.get? b = none) (hlive : ∀ i h, St i h → ∀ b ∈ wr, ∃ o, h.get? b = some o)
    (J : Nat → (Str → Option Value) → Ledger → Array GenState → Prop) (h0 : J 0 m news gs) (F : Fr g L h m) (N : News g L h news) (hnw : ∀ p ∈ news, p.1 ∉ wr) (hst : St 0 h)
    (turn : ∀ i v m news gs' h tk own, i < n → P i v → J i m news gs' → Fr g L h m → News g L h (own ++ news) → (∀ p ∈ own, p.1 ∈ fp) → (∀ p ∈ news, p.1 ∉ wr) → (∀ b ∈ wr, ∃ o, (b, o) ∈ own) →
      wpAny (model prog w) A (assign target env v) (fun _ s₂ => wpAny (model prog w) A (execs body env) (fun f s₃ => match f with
          | .next | .cont => ∃ m' news' gs'' h' tk', s₃ = ⟨h', gs'', dr, tk', os⟩ ∧ J (i + 1) m' news' gs'' ∧ Fr g L h' m' ∧ News g L h' (own ++ news') ∧ ∀ p ∈ news', p.1 ∉ wr
          | .brk => R (.ok .next) s₃
          | .ret v => R (.ok (.ret v)) s₃) (notedBy (model prog w) A env fun e s' => R (.error e) s') s₂) (notedBy (model prog w) A env fun e s' => R (.error e) s') ⟨h, gs', dr, tk, os⟩)
    (done : ∀ m' news' gs' h' tk', J n m' news' gs' → Fr g L h' m' → News g L h' news' → R (.ok .next) ⟨h', gs', dr, tk', os⟩)
    (ht : ∀ v, letOwnedTupleGo target (.ref I) v = pure ()) :
    codeAny (model prog w) A (.forLoop target (.ref I) body [] env) R ⟨h, gs, dr, tk, os⟩ := by
  refine codeAny_forLoop (fun k s => ∃ i m news gs' h tk, s = ⟨h, gs', dr, tk, os⟩ ∧ k = n - i ∧ i ≤ n ∧ J i m news gs' ∧ Fr g L h m ∧ News g L h news ∧ (∀ p ∈ news, p.1 ∉ wr) ∧ St i h) ?_ n ⟨0, m, news, gs, h, tk, rfl, rfl, Nat.zero_le _, h0, F, N, hnw, hst⟩ ht
  rintro k s ⟨i, m, news, gs', h, tk, rfl, rfl, hi, hJ, F, N, hnw, hst⟩
  have moved : ∀ h', (∀ b o, b ∉ wr → h.get? b = some o → h'.get? b = some o) → Fr g L h' m ∧ News g L h' news := fun h' k => by
    refine ⟨⟨F.ns.at fun o e => k _ _ (fun hm => hLf (W.sub _ hm)) e, fun b o e => k _ _ (fun hm => by rw [hwr b hm] at e; cases e) (F.keep b o e), F.above⟩, fun p hp => ?_⟩
    obtain ⟨x1, x2, x3⟩ := N p hp
    exact ⟨k _ _ (hnw p hp) x1, x2, x3⟩
  rcases Nat.lt_or_ge i n with hin | hin
  · refine W.item i _ _ _ hin hst fun v h' tk' hP hst' k => ?_
    obtain ⟨F', N'⟩ := moved h' k
    obtain ⟨own, hown⟩ : ∃ own : Ledger, own = fp.filterMap fun b => if (g.get? b).isNone then (h'.get? b).map (b, ·) else none := ⟨_, rfl⟩
    have own_of : ∀ p ∈ own, p.1 ∈ fp ∧ h'.get? p.1 = some p.2 ∧ g.get? p.1 = none := by
      intro p hp
      rw [hown] at hp
      obtain ⟨b, hb, e⟩ := List.mem_filterMap.mp hp
      split at e
      · rename_i hn
        obtain ⟨o, ho, rfl⟩ := Option.map_eq_some_iff.mp e
        exact ⟨hb, ho, by simpa using hn⟩
      · cases e
    have own_in : ∀ b ∈ fp, ∀ o, g.get? b = none → h'.get? b = some o → (b, o) ∈ own := by
      intro b hb o hn ho
      rw [hown]
      refine List.mem_filterMap.mpr ⟨b, hb, ?_⟩
      rw [hn, ho]
      rfl
    have N'' : News g L h' (own ++ news) := fun p hp => by
      rcases List.mem_append.mp hp with hp | hp
      · obtain ⟨q1, q2, q3⟩ := own_of p hp
        exact ⟨q2, fun e => hLf (e ▸ q1), q3⟩
      · exact N' p hp
    refine wpAny_mono (turn i v m news gs' h' tk' own hin hP hJ F' N'' (fun p hp => (own_of p hp).1) hnw fun b hb => ?_) (fun _ s₂ h₂ => wpAny_mono h₂ (fun f s₃ h₃ => ?_) fun _ _ x => x) fun _ _ x => x
    · obtain ⟨o, ho⟩ := hlive _ _ hst' b hb
      exact ⟨o, own_in b (W.sub b hb) o (hwr b hb) ho⟩
    · have fin : (∃ m' news' gs'' h'' tk', s₃ = ⟨h'', gs'', dr, tk', os⟩ ∧ J (i + 1) m' news' gs'' ∧ Fr g L h'' m' ∧ News g L h'' (own ++ news') ∧ ∀ p ∈ news', p.1 ∉ wr) →
          ∃ k, k < n - i ∧ ∃ i m news gs' h tk, s₃ = ⟨h, gs', dr, tk, os⟩ ∧ k = n - i ∧ i ≤ n ∧ J i m news gs' ∧ Fr g L h m ∧ News g L h news ∧ (∀ p ∈ news, p.1 ∉ wr) ∧ St i h := by
        rintro ⟨m', news', gs'', h'', tk'', rfl, hJ', F3, N3, hnw'⟩
        refine ⟨n - (i + 1), by omega, i + 1, m', news', gs'', h'', tk'', rfl, rfl, hin, hJ', F3, fun p hp => N3 p (List.mem_append_right _ hp), hnw', W.frame _ _ _ hst' fun b hb o ho => ?_⟩
        cases hg : g.get? b with
        | none => exact (N3 _ (List.mem_append_left _ (own_in b hb o hg ho))).1
        | some o₂ =>
          have := F'.keep b o₂ hg
          rw [ho] at this
          cases this
          exact F3.keep b o hg
      cases f with
      | next => exact fin h₃
      | cont => exact fin h₃
      | brk => exact h₃
      | ret v => exact h₃
  · obtain rfl : i = n := Nat.le_antisymm hi hin
    refine W.done _ _ _ hst fun h' tk' k => ?_
    obtain ⟨F', N'⟩ := moved h' k
    exact wpAny_execs_nil (done m news gs' h' tk' hJ F' N')
end
section
variable {prog : Program} {w : World} {A : Around} {E : Value → Shared → Prop} {gs : Array GenState} {dr : Drawn} {tk : Nat} {os : OsState} {h g : Heap} {L : Addr} {mm : Str → Option Value} {news : Ledger} {env : Env} {target : Expr} {body : List Stmt} {R : Result → Shared → Prop} {t : Tok} {x : List UInt8}
/-- a for loop over octets -/
theorem x_iter_bytes (hh : A.handled = none) (J : Nat → (Str → Option Value) → Ledger → Array GenState → Prop) (h0 : J 0 mm news gs) (F : Fr g L h mm) (N : News g L h news)
    (turn : ∀ i k u m news gs' h tk own I, x[i]? = some k → J i m news gs' → Fr g L h m → News g L h (own ++ news) → (∀ p ∈ own, p.1 = I) → (∃ o, (I, o) ∈ own) → (∀ p ∈ news, p.1 ≠ I) →
      wpAny (model prog w) A (assign target env (.int (k.toNat : Int) u)) (fun _ s₂ => wpAny (model prog w) A (execs body env) (fun f s₃ => match f with
          | .next | .cont => ∃ m' news' gs'' h' tk', s₃ = ⟨h', gs'', dr, tk', os⟩ ∧ J (i + 1) m' news' gs'' ∧ Fr g L h' m' ∧ News g L h' (own ++ news') ∧ ∀ p ∈ news', p.1 ≠ I
          | .brk => R (.ok .next) s₃
          | .ret v => R (.ok (.ret v)) s₃) (notedBy (model prog w) A env fun e s' => R (.error e) s') s₂) (notedBy (model prog w) A env fun e s' => R (.error e) s') ⟨h, gs', dr, tk, os⟩)
    (done : ∀ m' news' gs' h' tk', J x.length m' news' gs' → Fr g L h' m' → News g L h' news' → R (.ok .next) ⟨h', gs', dr, tk', os⟩)
    (ht : ∀ I v, letOwnedTupleGo target (.ref I) v = pure ()) :
    wpAny (model prog w) A (pyIter (.bytes x.toArray t)) (fun it s₂ => codeAny (model prog w) A (.forLoop target it body [] env) R s₂) E ⟨h, gs, dr, tk, os⟩ := by
  refine KBw.pyIter_bytes (s := ⟨h, gs, dr, tk, os⟩) ?_
  have hI : ∀ p ∈ news, p.1 ≠ h.objs.size := news_lt N
  have hLI : L ≠ h.objs.size := Nat.ne_of_lt F.ns.lt
  refine loop_own (KBw.walks hh h.objs.size x.toArray t) (by simpa using hLI) (fun b hb => ?_) (fun i h' st b hb => ?_) J h0 (F.push _) (fun p hp => ⟨Heap.get?_push_of_some _ (N p hp).1, (N p hp).2⟩) (fun p hp => by simpa using hI p hp) ⟨_, Heap.get?_push_size _ rfl, rfl, rfl⟩ ?_ (fun m' news' gs' h' tk' hJ F' N' => done m' news' gs' h' tk' (by simpa using hJ) F' N') (ht _)
  · rw [List.mem_singleton.mp hb]
    cases q : g.get? h.objs.size with
    | none => rfl
    | some o => exact absurd (Heap.lt_size (F.keep _ _ q)) (Nat.lt_irrefl _)
  · rw [List.mem_singleton.mp hb]
    obtain ⟨o, ho, _⟩ := st
    exact ⟨o, ho⟩
  · rintro i v m news gs' h' tk' own hi ⟨c, u, hc, rfl⟩ hJ F' N' hown hnw hlive
    have := turn i c u m news gs' h' tk' own h.objs.size (by simpa using hc) hJ F' N' (fun p hp => by simpa using hown p hp) (hlive _ (by simp)) (fun p hp => by simpa using hnw p hp)
    refine wpAny_mono this (fun _ s₂ h₂ => wpAny_mono h₂ (fun f s₃ h₃ => ?_) fun _ _ z => z) fun _ _ z => z
    cases f with
    | next => obtain ⟨m', news', gs'', h'', tk'', e, a, b, c, d⟩ := h₃; exact ⟨m', news', gs'', h'', tk'', e, a, b, c, fun p hp => by simpa using d p hp⟩
    | cont => obtain ⟨m', news', gs'', h'', tk'', e, a, b, c, d⟩ := h₃; exact ⟨m', news', gs'', h'', tk'', e, a, b, c, fun p hp => by simpa using d p hp⟩
    | brk => exact h₃
    | ret v => exact h₃
end
theorem x_ite_d {p : Prop} [Decidable p] {P R : Prop} (h1 : p → P) (h2 : ¬ p → R) : if decide p = true then P else R := by
  by_cases hp : p
  · rw [if_pos (decide_eq_true hp)]; exact h1 hp
  · rw [if_neg (by simpa using hp)]; exact h2 hp
theorem x_ite_e {α : Type} [BEq α] [LawfulBEq α] {a b : α} {P R : Prop} (h1 : a = b → P) (h2 : a ≠ b → R) : if (a == b) = true then P else R := by
  by_cases hp : a = b
  · rw [if_pos (by simpa using hp)]; exact h1 hp
  · rw [if_neg (by simpa using hp)]; exact h2 hp
theorem x_ite_ne {α : Type} [BEq α] [LawfulBEq α] {a b : α} {P R : Prop} (h1 : a ≠ b → P) (h2 : a = b → R) : if (a != b) = true then P else R := by
  by_cases hp : a = b
  · rw [if_neg (by simpa using hp)]; exact h2 hp
  · rw [if_pos (by simpa using hp)]; exact h1 hp
section
variable {prog : Program} {w : World} {A : Around} {E : Value → Shared → Prop} {gs : Array GenState} {dr : Drawn} {tk : Nat} {os : OsState} {h : Heap} {Q : Value → Shared → Prop} {t u : Tok}
theorem x_mode {i j : Int} (hj : 0 < j) (H : ∀ t' tk', Q (.int (i % j) t') ⟨h, gs, dr, tk', os⟩) : wpAny (model prog w) A (binaryOp .Mod (.int i t) (.int j u)) Q E ⟨h, gs, dr, tk, os⟩ :=
  x_mod (by omega) fun t' tk' => by rw [Int.fmod_eq_emod_of_nonneg _ (by omega)]; exact H t' tk'
theorem x_sadd {a b : Str} (ha : Short a) (hb : b.length ≤ 1000) (H : ∀ t' tk', Q (.str (a ++ b) t') ⟨h, gs, dr, tk', os⟩) : wpAny (model prog w) A (binaryOp .Add (.str a t) (.str b u)) Q E ⟨h, gs, dr, tk, os⟩ :=
  PyProof.Rows.add_str (fun t' tk' => H t' tk') (by rw [← str_len_app]; exact ha.app (sm_of hb))
end
/-- where a walk is to halt -/
def Stop (P : Prop) : Prop := P
theorem stop_ {P : Prop} (h : Stop P) : P := h
set_option hygiene false
local macro_rules | `(tactic| tb_start) => `(tactic| first
  | ((with_reducible refine' x_bitem ?h0 ?h1 ?hf ?hs ?ht ?_); (case h0 => omega); (case h1 => omega); (case hf => omega); (case hs => with_unfolding_all rfl); (case ht => intro _; with_unfolding_all rfl); intro _ _)
  | ((with_reducible refine' x_ite_d ?_ ?_) <;> intro _)
  | ((with_reducible refine' x_ite_e ?_ ?_) <;> intro _)
  | ((with_reducible refine' x_ite_ne ?_ ?_) <;> intro _)
  | ((with_reducible refine' x_btail ?F ?N ?hl ?hu ?hz ?hs ?ht ?_); (case F => exact F); (case N => exact N); (case hl => first | exact .int _ _ | exact .none); (case hu => first | exact .int _ _ | exact .none); (case hz => first | omega | exact Nat.le_trans (sl_le _ _ _) (by omega)); (case hs => intro _; with_unfolding_all rfl); (case ht => intro _; with_unfolding_all rfl); (clear F N); intro _ _ _ F N)
  | ((with_reducible refine' g_bin ?_); first
    | ((with_reducible refine' x_mode ?hj ?_); (case hj => first | assumption | decide | omega); intro _ _)
    | ((with_reducible refine' x_sadd ?ha ?hb ?_); (case ha => tb_rel); (case hb => decide +kernel); intro _ _)
    | ((with_reducible refine' x_mul ?hm ?_); (case hm => first | exact IntMulOk.of_right (by decide) | exact IntMulOk.of_left (by decide)); intro _ _))
  | (fail "no step"))
theorem rep_not_none {T : Ledger} : ∀ {v : Value} {t : Tr}, Rep T v t → (v == Value.none) = false
  | _, _, .b => rfl
  | _, _, .l _ _ => rfl
theorem x_is_t {prog : Program} {w : World} {A : Around} {E : Value → Shared → Prop} {s : Shared} {v : Value} {Q : Value → Shared → Prop} (e : (v == .none) = true) (H : Q (.bool true) s) : wpAny (model prog w) A (compareOp .Is v .none) Q E s := by
  have := is_none (M := model prog w) (A := A) (E := E) (s := s) (v := v) (Q := Q) (by rw [e]; exact H)
  exact this
theorem x_is_f {prog : Program} {w : World} {A : Around} {E : Value → Shared → Prop} {s : Shared} {v : Value} {Q : Value → Shared → Prop} (e : (v == .none) = false) (H : Q (.bool false) s) : wpAny (model prog w) A (compareOp .Is v .none) Q E s := by
  have := is_none (M := model prog w) (A := A) (E := E) (s := s) (v := v) (Q := Q) (by rw [e]; exact H)
  exact this
local macro_rules | `(tactic| tb_start) => `(tactic| first
  | ((with_reducible refine' g_cmp ?_); first
    | ((with_reducible refine' x_is_t ?e ?_); (case e => rfl))
    | ((with_reducible refine' x_is_f ?e ?_); (case e => first | exact rep_not_none (by assumption) | rfl)))
  | (fail "no step"))

section
/-! a generator expression whose element may itself make generators -/
def GExt (a b : Array GenState) : Prop := a.size ≤ b.size ∧ (∀ k, k < a.size → b[k]? = a[k]?) ∧ ∀ k x, a.size ≤ k → b[k]? = some x → x.bare = true
theorem GExt.refl (a : Array GenState) : GExt a a := ⟨Nat.le_refl _, fun _ _ => rfl, fun k x h e => by rw [Array.getElem?_eq_none h] at e; cases e⟩
theorem GExt.trans {a b c : Array GenState} (x : GExt a b) (y : GExt b c) : GExt a c :=
  ⟨Nat.le_trans x.1 y.1, fun k h => (y.2.1 k (Nat.lt_of_lt_of_le h x.1)).trans (x.2.1 k h), fun k z h e => by
    rcases Nat.lt_or_ge k b.size with hk | hk
    · exact x.2.2 k z h ((y.2.1 k hk).symm.trans e)
    · exact y.2.2 k z hk e⟩
theorem GExt.bare {a b : Array GenState} (x : GExt a b) (ha : ∀ y ∈ a, y.bare = true) : ∀ y ∈ b, y.bare = true := by
  intro y hy
  obtain ⟨i, hi, rfl⟩ := Array.mem_iff_getElem.mp hy
  rcases Nat.lt_or_ge i a.size with h | h
  · have e := x.2.1 i h
    rw [Array.getElem?_eq_getElem hi] at e
    obtain ⟨hi', e'⟩ := Array.getElem?_eq_some_iff.mp e.symm
    exact e' ▸ ha _ (Array.getElem_mem hi')
  · exact x.2.2 i _ h (Array.getElem?_eq_getElem hi)
/-- only g turns, and what is new -/
def GOnly (g : Nat) (a b : Array GenState) : Prop := a.size ≤ b.size ∧ (∀ k, k < a.size → k ≠ g → b[k]? = a[k]?) ∧ (∀ k x, a.size ≤ k → b[k]? = some x → x.bare = true) ∧ (b[g]? = a[g]? ∨ ∀ x, b[g]? = some x → x.bare = true)
theorem GOnly.refl (g : Nat) (a : Array GenState) : GOnly g a a := ⟨Nat.le_refl _, fun _ _ _ => rfl, (GExt.refl a).2.2, .inl rfl⟩
theorem GOnly.trans {g : Nat} {a b c : Array GenState} (x : GOnly g a b) (y : GOnly g b c) : GOnly g a c := by
  refine ⟨Nat.le_trans x.1 y.1, fun k h hg => (y.2.1 k (Nat.lt_of_lt_of_le h x.1) hg).trans (x.2.1 k h hg), fun k z h e => ?_, ?_⟩
  · rcases Nat.lt_or_ge k b.size with hk | hk
    · by_cases hg : k = g
      · subst hg
        rcases y.2.2.2 with q | q
        · exact x.2.2.1 k z h (q ▸ e)
        · exact q z e
      · exact x.2.2.1 k z h ((y.2.1 k hk hg).symm.trans e)
    · exact y.2.2.1 k z hk e
  · rcases y.2.2.2 with q | q
    · rcases x.2.2.2 with p | p
      · exact .inl (q.trans p)
      · exact .inr fun z e => p z (q ▸ e)
    · exact .inr q
theorem GOnly.step {s s₁ : Shared} {g : Nat} {gs gs' : GenState} (hgs : s.gens[g]? = some gs) (x : GExt (s.setGen g .running).gens s₁.gens) (hb : gs'.bare = true) : GOnly g s.gens (s₁.setGen g gs').gens := by
  have hlt : g < s.gens.size := (Array.getElem?_eq_some_iff.mp hgs).1
  have e1 : (s.setGen g .running).gens.size = s.gens.size := by simp [Shared.setGen]
  have e2 : (s₁.setGen g gs').gens.size = s₁.gens.size := by simp [Shared.setGen]
  refine ⟨by rw [e2, ← e1]; exact x.1, fun k hk hkg => ?_, fun k z hk e => ?_, .inr fun z e => ?_⟩
  · have := x.2.1 k (by rw [e1]; exact hk)
    simp only [Shared.setGen] at this ⊢
    rw [Array.getElem?_setIfInBounds_ne (Ne.symm hkg)] at this ⊢
    exact this
  · have hkg : k ≠ g := by omega
    simp only [Shared.setGen] at e
    rw [Array.getElem?_setIfInBounds_ne (Ne.symm hkg)] at e
    exact x.2.2 k z (by rw [e1]; exact hk) e
  · have hlt' : g < s₁.gens.size := Nat.lt_of_lt_of_le (by rw [e1]; exact hlt) x.1
    simp only [Shared.setGen] at e
    rw [Array.getElem?_setIfInBounds_self_of_lt hlt'] at e
    cases e
    exact hb
def KeepsX (s s' : Shared) : Prop := ∃ h' tk gs, s' = { s with heap := h', toks := tk, gens := gs } ∧ Ke s.heap h' ∧ GExt s.gens gs
def SinceX (C : Addr) (wr : List Addr) (s₀ s : Shared) : Prop := ∃ h' tk gs, s = { s₀ with heap := h', toks := tk, gens := gs } ∧ (∀ b o, b ≠ C → b ∉ wr → s₀.heap.get? b = some o → h'.get? b = some o) ∧ GExt s₀.gens gs
theorem SinceX.refl (C : Addr) (wr : List Addr) (s : Shared) : SinceX C wr s s := ⟨s.heap, s.toks, s.gens, rfl, fun _ _ _ _ e => e, .refl _⟩
theorem SinceX.step {C : Addr} {wr : List Addr} {s₀ s : Shared} (x : SinceX C wr s₀ s) {h' : Heap} {tk : Nat} {gs : Array GenState} (hk : ∀ b o, b ≠ C → b ∉ wr → s.heap.get? b = some o → h'.get? b = some o) (hg : GExt s.gens gs) :
    SinceX C wr s₀ { s with heap := h', toks := tk, gens := gs } := by
  obtain ⟨h₁, tk₁, gs₁, rfl, hk₁, hg₁⟩ := x
  exact ⟨h', tk, gs, rfl, fun b o hC hw e => hk b o hC hw (hk₁ b o hC hw e), hg₁.trans hg⟩
def EltX (prog : Program) (w : World) (cenv : Env) (x : Str) (elt : Expr) (fp wr : List Addr) (P : Nat → Value → Prop) (F : Nat → Value → Prop) (href : Heap) (D U : Nat) : Prop :=
  ∀ (A' : Around) E' i v (s₂ : Shared) m₂, A'.handled = none → A'.depth ≤ D → A'.units ≤ U → P i v → s₂.heap.Ns cenv.locals m₂ → m₂ x = some v → (∀ b ∈ fp, b ∉ wr → ∀ o, href.get? b = some o → s₂.heap.get? b = some o) →
    wpAny (model prog w) A' (eval elt cenv) (fun y s₃ => F i y ∧ KeepsX s₂ s₃) E' s₂
def protoX (C : Addr) (fp wr : List Addr) (n₀ : Nat) (F : Nat → Value → Prop) : Protocol := fun m s₀ v s kap =>
  F (n₀ - 1 - m) v ∧ SinceX C wr s₀ s ∧ ∀ s'' : Shared, (∀ b ∈ C :: fp, ∀ o, s.heap.get? b = some o → s''.heap.get? b = some o) → kap (.send .none) s''
section
variable {prog : Program} {w : World} {A : Around}
theorem seg_loopX {elt iter : Expr} {x : Str} {px : Pos} {scope : Scope} {pos : Pos} {I : Addr} {fp wr : List Addr} {n₀ : Nat} {P : Nat → Value → Prop} {St₀ : Nat → Heap → Prop} {cenv : Env}
    (hh : A.handled = none) (W₀ : ∀ A' : Around, A'.handled = none → Walks prog w A' I fp wr n₀ P St₀) (F : Nat → Value → Prop) (href : Heap)
    (hx : cenv.kindOf x = some .local) (hp : (cenv.scope.kind == .class || (cenv.scope.kind == .module && cenv.locals != cenv.globals)) = false)
    (hco : cenv.scope.isCoroutine = false) (hCf : cenv.locals ∉ fp) (hq : EltX prog w cenv x elt fp wr P F href (A.depth + 1) (A.units + 3)) :
    ∀ (k i : Nat) (s₀ s : Shared) (m : Str → Option Value), n₀ - i = k → i ≤ n₀ → St₀ i s.heap → s.heap.Ns cenv.locals m → SinceX cenv.locals wr s₀ s →
      (∀ b ∈ fp, b ∉ wr → ∀ o, href.get? b = some o → s.heap.get? b = some o) →
      Seg (model prog w) A (fun n s₀ r s₁ => r = .ok .next ∧ (n = 0 ∧ SinceX cenv.locals wr s₀ s₁)) (protoX cenv.locals fp wr n₀ F) k s₀
        (.compLoop (.GeneratorExp elt [⟨.Name x px, iter, [], 0⟩] scope pos) 0 (.ref I) .none cenv)
        ((model prog w).den (.compLoop (.GeneratorExp elt [⟨.Name x px, iter, [], 0⟩] scope pos) 0 (.ref I) .none cenv)) [] s := by
  have hh' : (A.over (.compLoop (.GeneratorExp elt [⟨.Name x px, iter, [], 0⟩] scope pos) 0 (.ref I) .none cenv) []).handled = none := hh
  have hdep' : (A.over (.compLoop (.GeneratorExp elt [⟨.Name x px, iter, [], 0⟩] scope pos) 0 (.ref I) .none cenv) []).depth ≤ A.depth + 1 := Nat.le_of_eq rfl
  have huni' : (A.over (.compLoop (.GeneratorExp elt [⟨.Name x px, iter, [], 0⟩] scope pos) 0 (.ref I) .none cenv) []).units ≤ A.units + 3 := Nat.le_of_eq rfl
  have hCw : cenv.locals ∉ wr := fun h => hCf ((W₀ A hh).sub _ h)
  intro k
  induction k with
  | zero =>
    intro i s₀ s m hk hi hst hn hsince hkp
    have hin : i = n₀ := by omega
    subst hin
    show Seg _ A _ _ _ s₀ _ ((compTurn (.GeneratorExp elt [⟨.Name x px, iter, [], 0⟩] scope pos) 0 (.ref I) .none cenv).onRaise (leaving cenv)) [] s
    rw [compTurn_gen, Sem.onRaise_eq_wrap]
    refine seg_bind_wrap (wpAny_standAt ?_)
    refine seg_bind_wrap ((W₀ _ hh').done s _ _ hst fun h' tk hk' => ?_)
    exact seg_end (.ok .next) ⟨rfl, rfl, hsince.step (fun b o _ hw e => hk' b o hw e) (.refl _)⟩
  | succ k ih =>
    intro i s₀ s m hk hi hst hn hsince hkp
    have hlt : i < n₀ := by omega
    show Seg _ A _ _ _ s₀ _ ((compTurn (.GeneratorExp elt [⟨.Name x px, iter, [], 0⟩] scope pos) 0 (.ref I) .none cenv).onRaise (leaving cenv)) [] s
    rw [compTurn_gen, Sem.onRaise_eq_wrap]
    refine seg_bind_wrap (wpAny_standAt ?_)
    refine seg_bind_wrap ((W₀ _ hh').item i s _ _ hlt hst fun v h₁ tk₁ hPv hst₁ hk₁ => ?_)
    refine seg_bind_wrap (wpAny_of_eq (rfl : letOwnedTupleGo (.Name x px) (.ref I) v = pure ()) ?_)
    refine seg_bind_wrap (wpAny_assign_Name (wpAny_storeName_local hx (hn.at' fun o e => hk₁ _ o hCw e) (fun h₂ hn₂ hs₂ => ?_) hp))
    have up₂ : ∀ b o, b ≠ cenv.locals → b ∉ wr → s.heap.get? b = some o → h₂.get? b = some o := fun b o hbC hbw e => hs₂.extBut b o hbC (hk₁ b o hbw e)
    have hst₂ : St₀ (i + 1) h₂ := (W₀ A hh).frame _ _ _ hst₁ fun b hb o e => hs₂.extBut b o (fun h => hCf (h ▸ hb)) e
    have hkp₂ : ∀ b ∈ fp, b ∉ wr → ∀ o, href.get? b = some o → h₂.get? b = some o := fun b hb hbw o e => up₂ b o (fun h => hCf (h ▸ hb)) hbw (hkp b hb hbw o e)
    refine seg_bind_wrap (wpAny_pure ?_)
    dsimp only
    simp only [if_true]
    have hy : ∀ v, yieldOut cenv v = yieldValue v := fun v => by simp only [yieldOut, hco, Bool.false_eq_true, if_false]
    simp only [hy]
    rw [Sem.bind_eq_wrap', Sem.bind_eq_wrap', Sem.wrap_wrap, Sem.wrap_wrap]
    refine seg_wrap (wpAny_mono (hq _ _ i v _ _ hh' hdep' huni' hPv hn₂ (by simp) hkp₂) (fun y s₄ h₄ => ?_) fun _ _ e => e)
    obtain ⟨hFy, h₄, tk₄, gs₄, rfl, hk₄, hg₄⟩ := h₄
    have hidx : n₀ - 1 - k = i := by omega
    refine seg_at (seg_yield rfl rfl rfl ⟨by rw [hidx]; exact hFy, hsince.step (fun b o hbC hbw e => hk₄ b o (up₂ b o hbC hbw e)) hg₄, fun s'' hal => ?_⟩)
    refine seg_again rfl (ih (i + 1) s'' s'' _ (by omega) hlt ((W₀ A hh).frame _ _ _ hst₂ fun b hb o e => hal b (List.mem_cons_of_mem _ hb) o (hk₄ b o e))
      ((hn₂.keeps hk₄).at' fun o e => hal _ (List.mem_cons_self ..) o e) (SinceX.refl _ _ _) fun b hb hbw o e => hal b (List.mem_cons_of_mem _ hb) o (hk₄ b o (hkp₂ b hb hbw o e)))
theorem seg_startX {elt iter : Expr} {x : Str} {px : Pos} {scope : Scope} {pos : Pos} {I : Addr} {fp wr : List Addr} {n₀ : Nat} {P : Nat → Value → Prop} {St₀ : Nat → Heap → Prop} {cenv : Env}
    (hh : A.handled = none) (W₀ : ∀ A' : Around, A'.handled = none → Walks prog w A' I fp wr n₀ P St₀) (F : Nat → Value → Prop) (href : Heap)
    (hx : cenv.kindOf x = some .local) (hp : (cenv.scope.kind == .class || (cenv.scope.kind == .module && cenv.locals != cenv.globals)) = false)
    (hco : cenv.scope.isCoroutine = false) (hCf : cenv.locals ∉ fp) (hq : EltX prog w cenv x elt fp wr P F href (A.depth + 1) (A.units + 3))
    (s₀ s : Shared) (m : Str → Option Value) (hst : St₀ 0 s.heap) (hn : s.heap.Ns cenv.locals m) (hsince : SinceX cenv.locals wr s₀ s)
    (hkp : ∀ b ∈ fp, b ∉ wr → ∀ o, href.get? b = some o → s.heap.get? b = some o) :
    Seg (model prog w) A (fun n s₀ r s₁ => r = .ok .next ∧ (n = 0 ∧ SinceX cenv.locals wr s₀ s₁)) (protoX cenv.locals fp wr n₀ F) n₀ s₀
      (.compStart (.GeneratorExp elt [⟨.Name x px, iter, [], 0⟩] scope pos) 0 (.ref I) .none cenv)
      ((model prog w).den (.compStart (.GeneratorExp elt [⟨.Name x px, iter, [], 0⟩] scope pos) 0 (.ref I) .none cenv)) [] s := by
  have hh' : (A.over (.compStart (.GeneratorExp elt [⟨.Name x px, iter, [], 0⟩] scope pos) 0 (.ref I) .none cenv) []).handled = none := hh
  have loop := seg_loopX (iter := iter) (px := px) (scope := scope) (pos := pos) hh W₀ F href hx hp hco hCf hq n₀ 0 s₀ s m (Nat.sub_zero _) (Nat.zero_le _) hst hn hsince hkp
  show Seg _ A _ _ _ s₀ _ ((compStart (.GeneratorExp elt [⟨.Name x px, iter, [], 0⟩] scope pos) 0 (.ref I) .none cenv).onRaise (leaving cenv)) [] s
  unfold compStart
  rw [Sem.onRaise_eq_wrap]
  show Seg _ A _ _ _ s₀ _ ((ask >>= _).wrap _ _ _ _) [] s
  refine seg_bind_wrap (wpAny_askSetting ?_)
  split
  · exact seg_again rfl loop
  · refine seg_bind_wrap (wpAny_rule ?_)
    first
      | exact seg_bind_wrap (wpAny_standAt (seg_bind_wrap ((W₀ _ hh').self 0 s _ _ hst (seg_again rfl loop))))
      | (show Seg _ A _ _ _ s₀ _ ((standAt iter.pos >>= _).wrap _ _ _ _) [] s; exact seg_bind_wrap (wpAny_standAt (seg_bind_wrap ((W₀ _ hh').self 0 s _ _ hst (seg_again rfl loop)))))
def GenX (prog : Program) (w : World) (A : Around) (a : Addr) (g : Nat) (C : Addr) (fp wr : List Addr) (n₀ : Nat) (F : Nat → Value → Prop) (j : Nat) (s : Shared) : Prop :=
  s.heap.IsGen a g ∧ s.heap.NoLimit ∧ ∃ gs, s.gens[g]? = some gs ∧ ∀ s'' : Shared, (∀ b ∈ C :: fp, ∀ o, s.heap.get? b = some o → s''.heap.get? b = some o) →
    gs.Goes (model prog w) A.in1 (fun n s₀ r s₁ => r = .ok .next ∧ (n = 0 ∧ SinceX C wr s₀ s₁)) (protoX C fp wr n₀ F) (n₀ - j) (.send .none) s''
theorem GenX.start {elt iter : Expr} {x : Str} {px : Pos} {scope : Scope} {pos : Pos} {I a : Addr} {g : Nat} {fp wr : List Addr} {n₀ : Nat} {P : Nat → Value → Prop} {St₀ : Nat → Heap → Prop} {cenv : Env}
    (hh : A.handled = none) (W₀ : ∀ A' : Around, A'.handled = none → Walks prog w A' I fp wr n₀ P St₀) (F : Nat → Value → Prop)
    (hx : cenv.kindOf x = some .local) (hp : (cenv.scope.kind == .class || (cenv.scope.kind == .module && cenv.locals != cenv.globals)) = false)
    (hco : cenv.scope.isCoroutine = false) (hCf : cenv.locals ∉ fp) {s : Shared} {m : Str → Option Value} (hq : EltX prog w cenv x elt fp wr P F s.heap (A.depth + 1) (A.units + 4))
    (hg : s.heap.IsGen a g) (hgs : s.gens[g]? = some (.fresh (.compStart (.GeneratorExp elt [⟨.Name x px, iter, [], 0⟩] scope pos) 0 (.ref I) .none cenv)))
    (hst : St₀ 0 s.heap) (hn : s.heap.Ns cenv.locals m) (hl : s.heap.NoLimit) : GenX prog w A a g cenv.locals fp wr n₀ F 0 s :=
  ⟨hg, hl, _, hgs, fun s'' hal => ⟨rfl, seg_startX (A := A.in1) hh W₀ F s.heap hx hp hco hCf hq s'' s'' m ((W₀ A hh).frame _ _ _ hst fun b hb o e => hal b (List.mem_cons_of_mem _ hb) o e)
    (hn.at' fun o e => hal _ (List.mem_cons_self ..) o e) (SinceX.refl _ _ _) fun b hb _ o e => hal b (List.mem_cons_of_mem _ hb) o e⟩⟩
theorem walksX (hh : A.handled = none) (a : Addr) (g : Nat) (C : Addr) (fp wr : List Addr) (n₀ : Nat) (F : Nat → Value → Prop) (haC : a ≠ C) (haf : a ∉ fp) (hsub : ∀ b ∈ wr, b ∈ fp)
    (hroom : A.depth < recursionLimit) (hcs : cStatics ∈ fp) (hcC : cStatics ≠ C) (hcw : cStatics ∉ wr) :
    WalksS prog w A a (a :: C :: fp) (C :: wr) (GOnly g) n₀ F (GenX prog w A a g C fp wr n₀ F) where
  sub := fun b hb => by
    rcases List.mem_cons.mp hb with rfl | hb
    · simp
    · exact List.mem_cons_of_mem _ (List.mem_cons_of_mem _ (hsub b hb))
  grefl := fun _ => .refl _ _
  gtrans := fun _ _ _ x y => x.trans y
  frame := fun j s h' tk st _ hk =>
    ⟨let ⟨o, nm, qn, ho, r⟩ := st.1; ⟨o, nm, qn, hk a (List.mem_cons_self ..) o ho, r⟩,
     (let ⟨mc, hns, hnn⟩ := st.2.1; ⟨mc, hns.at' fun o e => hk cStatics (List.mem_cons_of_mem _ (List.mem_cons_of_mem _ hcs)) o e, hnn⟩),
     let ⟨gs, hgs, hgo⟩ := st.2.2; ⟨gs, hgs, fun s'' hal => hgo s'' fun b hb o e => hal b hb o (hk b (List.mem_cons_of_mem _ hb) o e)⟩⟩
  item := fun j s Q E hj st hQ => by
    obtain ⟨hg, hl, gs, hgs, hgo⟩ := st
    obtain ⟨m, hm⟩ : ∃ m, n₀ - j = m + 1 := ⟨n₀ - j - 1, by omega⟩
    rw [hm] at hgo
    refine wpAny_with_toks (Nat.le_refl s.toks) ?_
    refine wpAny_pyNext_genexpQ (P := fun n s₀ s₁ => n = 0 ∧ SinceX C wr s₀ s₁) hh hl hroom hg hgs (hgo _ fun _ _ _ e => e) (fun v s₁ gs' hb hv => ?_) (fun s₁ hp h' hk => ?_)
    · obtain ⟨hF, ⟨h₁, tk₁, gs₁, rfl, hk₁, hg₁⟩, hkap⟩ := hv
      have hidx : n₀ - 1 - (m + 1 - 1) = j := by omega
      rw [hidx] at hF
      have haw : a ∉ wr := fun h => haf (hsub a h)
      have hlt : g < s.gens.size := (Array.getElem?_eq_some_iff.mp hgs).1
      have hrun : gs₁[g]? = some .running := by
        rw [hg₁.2.1 g (by simpa [Shared.setGen] using hlt)]
        exact setGen_self hgs
      intro htk
      refine hQ v _ hF ⟨let ⟨o, nm, qn, ho, r⟩ := hg; ⟨o, nm, qn, hk₁ a o haC haw ho, r⟩, (let ⟨mc, hns, hnn⟩ := hl; ⟨mc, hns.at' fun o e => hk₁ cStatics o hcC hcw e, hnn⟩), gs', setGen_self (gs := .running) hrun, fun s'' hal => ?_⟩
        ⟨fun b o hb e => hk₁ b o (fun h => hb (h ▸ List.mem_cons_self ..)) (fun h => hb (List.mem_cons_of_mem _ h)) e, GOnly.step hgs hg₁ hb, rfl, rfl, htk⟩
      have e : n₀ - (j + 1) = m := by omega
      rw [e]
      exact hkap s'' hal
    · exact absurd hp.1 (Nat.succ_ne_zero m)
  done := fun s Q E st hQ => by
    obtain ⟨hg, hl, gs, hgs, hgo⟩ := st
    rw [Nat.sub_self] at hgo
    refine wpAny_with_toks (Nat.le_refl s.toks) ?_
    refine wpAny_pyNext_genexpQ (P := fun n s₀ s₁ => n = 0 ∧ SinceX C wr s₀ s₁) hh hl hroom hg hgs (hgo _ fun _ _ _ e => e) (fun v s₁ gs' hb hv => ?_) (fun s₁ hp h' hk => ?_)
    · obtain ⟨_, _, hkap⟩ := hv
      exact False.elim (hkap s₁ fun _ _ _ e => e)
    · obtain ⟨_, h₁, tk₁, gs₁, rfl, hk₁, hg₁⟩ := hp
      intro htk
      exact hQ _ ⟨fun b o hb e => hk b o (hk₁ b o (fun h => hb (h ▸ List.mem_cons_self ..)) (fun h => hb (List.mem_cons_of_mem _ h)) e), GOnly.step (gs' := .finished) hgs hg₁ rfl, rfl, rfl, htk⟩
  self := fun _ _ _ _ st hQ => wpAny_pyIter_gen st.1 hQ
end
end

section
/-! what the law's own reader answers -/
inductive LR where
  | ok (t : Tr) (e : Int)
  | bad (m : Str)
  | deep
def rrowF (item1 : Int → LR) (endp : Int) : Nat → Int → List Tr → LR
  | 0, _, _ => .deep
  | n + 1, place, acc =>
    if place < endp then
      match item1 place with
      | .ok t e => rrowF item1 endp n e (acc ++ [t])
      | x => x
    else if place > endp then .bad "List length prefix announced a too small length"
    else .ok (.l acc) place
/-- where the head is known, and the size -/
def rbodyF (item1 : Int → LR) (o : List UInt8) (n : Nat) (head begin_ size : Int) : LR :=
  if head < 192 then .ok (.b (sl o (some begin_) (some (begin_ + size)))) (begin_ + size)
  else rrowF item1 (begin_ + size) n begin_ []
/-- behind the looks at a single octet -/
def rtailF (item1 : Int → LR) (o : List UInt8) (n : Nat) (head st : Int) : LR :=
  if (head - 128) % 64 > 55 then
    if (sl (sl o (some (st + 1)) (some (st + (head - 128) % 64 - 54))) none (some 1) == [0]) = true then .bad "Length starts with zero bytes" else
    if be (sl o (some (st + 1)) (some (st + (head - 128) % 64 - 54))) < 56 then .bad (Str.ofString "Long " ++ (if head < 192 then Str.ofString "string" else Str.ofString "list") ++ Str.ofString " prefix used for short " ++ (if head < 192 then Str.ofString "string" else Str.ofString "list"))
    else rbodyF item1 o n head (st + (head - 128) % 64 - 54) (be (sl o (some (st + 1)) (some (st + (head - 128) % 64 - 54))))
  else rbodyF item1 o n head (st + 1) ((head - 128) % 64)
def readF (o : List UInt8) (n : Nat) : Nat → Int → LR
  | 0, _ => .deep
  | f + 1, st =>
    if (o.length : Int) ≤ st then .bad "RLP string too short" else
    if ((o.getD st.toNat 0).toNat : Int) < 128 then .ok (.b (sl o (some st) (some (st + 1)))) (st + 1) else
    if ((o.getD st.toNat 0).toNat : Int) = 129 ∧ (o.length : Int) ≤ st + 1 then .bad "RLP string too short" else
    if ((o.getD st.toNat 0).toNat : Int) = 129 ∧ ((o.getD (st + 1).toNat 0).toNat : Int) < 128 then .bad "Encoded as short string although single byte was possible" else
    rtailF (readF o n f) o n (o.getD st.toNat 0).toNat st
def LR.Sane : LR → Prop
  | .ok _ e => 0 ≤ e
  | _ => True
theorem rrow_sane {item1 : Int → LR} {endp : Int} (H : ∀ x, 0 ≤ x → (item1 x).Sane) : ∀ (n : Nat) (place : Int) (acc : List Tr), 0 ≤ place → (rrowF item1 endp n place acc).Sane
  | 0, _, _, _ => trivial
  | n + 1, place, acc, h0 => by
    unfold rrowF
    split
    · have hn := H place h0
      cases e : item1 place with
      | ok t e' => rw [e] at hn; exact rrow_sane H n e' _ hn
      | bad m => trivial
      | deep => trivial
    · split
      · trivial
      · exact h0
theorem rbody_sane {item1 : Int → LR} {o : List UInt8} {n : Nat} {head b sz : Int} (H : ∀ x, 0 ≤ x → (item1 x).Sane) (h0 : 0 ≤ b) (h1 : 0 ≤ sz) : (rbodyF item1 o n head b sz).Sane := by
  unfold rbodyF
  split
  · show 0 ≤ b + sz; omega
  · exact rrow_sane H _ _ _ h0
theorem rtail_sane {item1 : Int → LR} {o : List UInt8} {n : Nat} {head st : Int} (H : ∀ x, 0 ≤ x → (item1 x).Sane) (h0 : 0 ≤ st) : (rtailF item1 o n head st).Sane := by
  unfold rtailF
  split
  · split
    · trivial
    · split
      · trivial
      · exact rbody_sane H (by omega) (be_nonneg _)
  · exact rbody_sane H (by omega) (by omega)
theorem read_sane (o : List UInt8) (n : Nat) : ∀ (f : Nat) (st : Int), 0 ≤ st → (readF o n f st).Sane
  | 0, _, _ => trivial
  | f + 1, st, h0 => by
    unfold readF
    split
    · trivial
    · split
      · show 0 ≤ st + 1; omega
      · split
        · trivial
        · split
          · trivial
          · exact rtail_sane (read_sane o n f) h0
end

section
/-! b''.join of a generator -/
namespace BJ
open Builtin Builtin.Bytes
theorem slot : Slot "bytes" "join" "bytes.join" :=
  .of (owner := "bytes") (n := "join") (by rw [typeLookup_type, builtinLookup_eq_fast]; kernel_rfl) (by decide +kernel) (by decide +kernel) (by decide +kernel)
    (by first | exact .inl (by decide +kernel) | exact .inr (by decide +kernel)) (by rw [isSubtype_type]; kernel_rfl)
theorem type_eq : typeOf (.builtin "bytes.join") = pure (.type "method_descriptor") := by show builtinType _ = _; rw [builtinType_eq_fast]; kernel_rfl
theorem entry : entryFor table "bytes.join" = some Builtin.«bytes.join» := entryFor_of_fast (by kernel_rfl)
theorem args (a b : Value) : argsOk "bytes.join" ⟨[a, b], []⟩ := by unfold argsOk; kernel_rfl
theorem ga : typeLookup (.type "bytes") "__getattribute__" = pure (some (.builtin "bytes.__getattribute__")) := by rw [typeLookup_type, builtinLookup_eq_fast]; kernel_rfl
theorem canon_ga : (Manifest.canonical "bytes.__getattribute__" != "object.__getattribute__") = false := by decide +kernel
theorem no_ga : typeLookup (.type "bytes") "__getattr__" = pure none := by rw [typeLookup_type, builtinLookup_eq_fast]; kernel_rfl
section
variable {prog : Program} {w : World} {M : Model} {A : Around} {E : Value → Shared → Prop} {s : Shared} {b : Array UInt8} {t : Tok}
theorem method {pl : Sem Bool} {Q : Value × List Value → Shared → Prop} (h : Q (.builtin "bytes.join", [.bytes b t]) s) : wpAny M A (getMethod (.bytes b t) (PySem.Str.ofString "join") pl) Q E s :=
  getMethod_value (T := "bytes") (name := PySem.Str.ofString "join") (ga := "bytes.__getattribute__") (id := "bytes.join") (typeIs_bytes s b t) (by intro _ x; cases x) ga canon_ga no_ga slot.lookup type_eq h
theorem turns {β : Type} {f : Nat → β → Sem (ForInStep β)} (st : Nat → β) {Q : β → Shared → Prop} : ∀ (n i : Nat), (∀ j, i ≤ j → j < i + n → ∀ Q : ForInStep β → Shared → Prop, Q (.yield (st (j + 1))) s → wpAny M A (f j (st j)) Q E s) → Q (st (i + n)) s →
    wpAny M A (forIn (List.range' i n) (st i) f) Q E s
  | 0, i, _, hq => by simpa using wpAny_pure hq
  | n + 1, i, hf, hq => by
    rw [List.range'_succ, List.forIn_cons]
    refine wpAny_bind (hf i (Nat.le_refl _) (by omega) _ ?_)
    exact turns st n (i + 1) (fun j h1 h2 => hf j (by omega) (by omega)) (by rw [show i + 1 + n = i + (n + 1) by omega]; exact hq)
theorem buffer_full {id : String} {full : Bool} : buffer? id (.bytes b t) full = pure (some b) := by
  unfold buffer?
  rw [KBy.special_eq KBy.look_buffer, KBy.own_buffer, KBy.own_release]
  kernel_rfl
theorem take_eq {id : String} {flags : Int} : takeBufferQuiet? id (.bytes b t) flags = pure (some (b, none)) := by
  unfold takeBufferQuiet? takeBuffer?
  rw [KBy.special_eq KBy.look_buffer, KBy.own_buffer]
  simp only [pure_bind]
  rw [buffer_full]
  rfl
theorem let_go {Q : Unit → Shared → Prop} (keep : List Value) : ∀ (xs : List Value), Q () s → wpAny M A (joinLetGo (xs.map fun x => (x, none)) keep) Q E s
  | [], h => wpAny_pure h
  | x :: xs, h => by
    show wpAny M A (letGo _ _ >>= fun _ => joinLetGo (xs.map fun x => (x, none)) keep) Q E s
    exact wpAny_bind (wpAny_letGo (let_go keep xs h))
end
/-- the bytes of the items -/
def IsB : List Value → List (List UInt8) → Prop
  | [], [] => True
  | v :: vs, b :: bs => (∃ t, v = .bytes b.toArray t) ∧ IsB vs bs
  | _, _ => False
theorem IsB.length : ∀ {vs : List Value} {bs : List (List UInt8)}, IsB vs bs → vs.length = bs.length
  | [], [], _ => rfl
  | _ :: vs, _ :: bs, h => congrArg (· + 1) (IsB.length (vs := vs) (bs := bs) h.2)
  | [], _ :: _, h => h.elim
  | _ :: _, [], h => h.elim
theorem IsB.get : ∀ {vs : List Value} {bs : List (List UInt8)}, IsB vs bs → ∀ i, (h : i < bs.length) → ∃ t, vs[i]? = some (.bytes bs[i].toArray t)
  | _ :: _, _ :: _, ⟨⟨t, rfl⟩, _⟩, 0, _ => ⟨t, rfl⟩
  | _ :: vs, _ :: bs, h, i + 1, hi => by
    obtain ⟨t, e⟩ := IsB.get (vs := vs) (bs := bs) h.2 i (by simpa using hi)
    exact ⟨t, by simpa using e⟩
  | [], [], _, _, h => by simp at h
  | [], _ :: _, h, _, _ => h.elim
  | _ :: _, [], h, _, _ => h.elim
section
variable {prog : Program} {w : World} {M : Model} {A : Around} {E : Value → Shared → Prop} {s : Shared} {t : Tok}
theorem seq_q {S : Addr} {acc : Array Value} {c : Nat} {o : Obj} {Q : Option (Array Value) → Shared → Prop} (hS : s.heap.get? S = some o) (hd : o.data = .seq acc c) (h : Q (some acc) s) : wpAny M A (seqItems? (.ref S)) Q E s := by
  unfold seqItems?
  refine wpAny_bind (wpAny_load hS ?_)
  rw [hd]
  exact wpAny_pure h
theorem IsB.quiet : ∀ {vs : List Value} {bs : List (List UInt8)}, IsB vs bs → ∀ j, (((vs.take j).map fun x => (x, (none : Option Value))).any fun x => x.1.onHeap) = false
  | [], _, _, j => by simp
  | _ :: vs, [], h, _ => h.elim
  | v :: vs, b :: bs, ⟨⟨t, e⟩, h⟩, 0 => by simp
  | v :: vs, b :: bs, ⟨⟨t, e⟩, h⟩, j + 1 => by
    subst e
    have := IsB.quiet (vs := vs) (bs := bs) h j
    rw [List.take_succ_cons, List.map_cons, List.any_cons, this]
    rfl
theorem joined_go : ∀ (bs : List (List UInt8)) (n : Nat) (out : List UInt8), (((bs.map List.toArray).zipIdx n).foldl (fun (out : Array UInt8) (x : Array UInt8 × Nat) => (if x.2 > 0 then out ++ #[] else out) ++ x.1) out.toArray) = (out ++ bs.flatten).toArray
  | [], n, out => by simp
  | b :: bs, n, out => by
    rw [List.map_cons, List.zipIdx_cons, List.foldl_cons]
    have e : ((if (b.toArray, n).2 > 0 then out.toArray ++ #[] else out.toArray) ++ (b.toArray, n).1) = (out ++ b).toArray := by split <;> simp
    rw [e, joined_go bs (n + 1) (out ++ b)]
    simp
theorem joined_nil (bs : List (List UInt8)) : joined #[] (bs.map List.toArray) = bs.flatten.toArray := by
  have := joined_go bs 0 []
  exact this
theorem len_go : ∀ (bs : List (List UInt8)) (n : Nat), (bs.map List.toArray).foldl (fun a b => a + b.size) n = n + bs.flatten.length
  | [], n => rfl
  | b :: bs, n => by rw [List.map_cons, List.foldl_cons, len_go bs, List.flatten_cons, List.length_append, List.size_toArray]; omega
theorem join_runs {bs : List (List UInt8)} {t : Tok} {a : Value} {Q : PySem.Fin → Shared → Prop}
    (hj : wpAny M A (joinItems a) (fun v s' => ∃ S vs c, v = .ref S ∧ s'.heap.get? S = some { cls := .type "list", dict := none, data := .seq (List.toArray vs) c, slots := #[] } ∧ IsB vs bs ∧
      ∀ t' tk', s'.toks ≤ tk' → Q (.done (.ret (.bytes bs.flatten.toArray t'))) { s' with toks := tk' }) E s) (hsz : bs.flatten.length ≤ 16777216) : wpAny M A (Builtin.«bytes.join» ⟨[.bytes #[] t, a], []⟩) Q E s := by
  unfold Builtin.«bytes.join» joinM
  show wpAny M A (joinItems a >>= fun seq => _) Q E s
  refine wpAny_bind (wpAny_mono hj (fun v s' hv => ?_) fun _ _ e => e)
  obtain ⟨S, vs, c, rfl, hS, hb, hQ⟩ := hv
  have hlen := hb.length
  refine wpAny_bind (seq_q hS rfl ?_)
  dsimp only
  rw [if_pos (by rfl)]
  by_cases h1 : ∃ x, vs = [x]
  · obtain ⟨x, rfl⟩ := h1
    match bs, hb with
    | [b], ⟨⟨t', e⟩, _⟩ =>
      subst e
      refine wpAny_bind (wpAny_typeOf (typeIs_bytes s' _ _) ?_)
      rw [if_pos (by rfl)]
      refine wpAny_bind (wpAny_rule ?_)
      have := hQ t' s'.toks (Nat.le_refl _)
      simp only [List.flatten_cons, List.flatten_nil, List.append_nil] at this
      exact wpAny_pure this
    | [], h => exact h.elim
    | _ :: _ :: _, h => exact h.2.elim
  · have key : ∀ (K : Sem PySem.Fin) (f : Value → Sem PySem.Fin), wpAny M A K Q E s' → wpAny M A (match vs.toArray with | #[x] => f x | _ => K) Q E s' := by
      intro K f hk
      rcases vs with _ | ⟨x, _ | ⟨y, vs⟩⟩
      · exact hk
      · exact absurd ⟨x, rfl⟩ h1
      · exact hk
    refine key _ _ ?_
    rw [Std.Legacy.Range.forIn_eq_forIn_range']
    refine wpAny_bind (turns (fun j => (((bs.take j).map List.toArray).toArray, (vs.take j).map fun x => (x, none))) _ 0 (fun j _ hj Q' hq => ?_) ?_)
    · have hj' : j < bs.length := by
        simp [Std.Legacy.Range.size] at hj
        omega
      obtain ⟨tj, hv⟩ := hb.get j hj'
      refine wpAny_bind (seq_q hS rfl ?_)
      dsimp only
      have hgd : vs.toArray.getD j Value.none = .bytes (bs[j]).toArray tj := by simp [Array.getD_eq_getD_getElem?, hv]
      rw [hb.quiet j, if_neg (by decide), hgd]
      refine wpAny_bind (wpAny_holding (wpAny_of_eq take_eq ?_))
      dsimp only
      refine wpAny_bind (seq_q hS rfl ?_)
      dsimp only
      rw [if_neg (by simp)]
      refine wpAny_pure ?_
      have e1 : (bs.take (j + 1)).map List.toArray = (bs.take j).map List.toArray ++ [bs[j].toArray] := by rw [List.take_succ_eq_append_getElem hj', List.map_append]; rfl
      have e2 : (vs.take (j + 1)).map (fun x => (x, (none : Option Value))) = (vs.take j).map (fun x => (x, none)) ++ [(.bytes (bs[j]).toArray tj, none)] := by rw [List.take_succ, hv, List.map_append]; rfl
      rw [e1, e2] at hq
      rw [List.push_toArray]
      exact hq
    · dsimp only
      have ez : (0 + [:vs.toArray.size].size) = bs.length := by simp [Std.Legacy.Range.size]; omega
      rw [ez]
      have e3 : bs.take bs.length = bs := List.take_length
      have e4 : vs.take bs.length = vs := by rw [← hlen]; exact List.take_length
      rw [e3, e4]
      show wpAny M A (payload (.bytes #[] t) >>= fun sep => _) Q E s'
      refine wpAny_bind (wpAny_of_eq (a := #[]) rfl ?_)
      have hz : (((bs.map List.toArray).toArray).foldl (fun a (b : Array UInt8) => a + b.size) ((#[] : Array UInt8).size * (((bs.map List.toArray).toArray).size - 1))) = bs.flatten.length := by
        rw [List.foldl_toArray, len_go]
        simp
      rw [hz, KBy.tooLong_not hsz, if_neg (by decide), joined_nil]
      show wpAny M A (mkBytes _ >>= fun r => _) Q E s'
      refine wpAny_bind (wpAny_mkBytes ?_ (by rw [sizeLine_eq, List.size_toArray]; exact hsz))
      refine wpAny_bind (wpAny_holding (wpAny_point ?_))
      refine wpAny_bind (let_go _ vs ?_)
      exact wpAny_pure (hQ _ _ (Nat.le_succ _))
theorem items_b {vs : List Value} : ∀ (bs : List (List UInt8)), vs.length = bs.length → (∀ i v, vs[i]? = some v → ∃ t, v = Value.bytes (bs.getD i []).toArray t) → IsB vs bs := by
  induction vs with
  | nil => intro bs h _; cases bs with
    | nil => trivial
    | cons => cases h
  | cons v vs ih =>
    intro bs h hv
    cases bs with
    | nil => cases h
    | cons b bs => exact ⟨by simpa using hv 0 v rfl, ih bs (by simpa using h) fun i x e => by simpa using hv (i + 1) x (by simpa using e)⟩
/-- the call: b''.join(a generator) -/
theorem call_join {I : Addr} {fp wr : List Addr} {G : Array GenState → Array GenState → Prop} {St : Nat → Shared → Prop} {bs : List (List UInt8)} {t : Tok} {Q : Value → Shared → Prop}
    (W : WalksS prog w A.in1.in1.in1 I fp wr G bs.length (fun i v => ∃ t, v = .bytes (bs.getD i []).toArray t) St) (hgen : ∀ i s, St i s → ∃ g, s.heap.IsGen I g) (hst : St 0 s) (hfp : ∀ b ∈ fp, b < s.heap.objs.size) (hI : I ∈ fp)
    (hn : bs.length ≤ 100000) (hsz : bs.flatten.length ≤ 16777216)
    (hQ : ∀ s' t', Moved wr G s s' → Q (.bytes bs.flatten.toArray t') s') : wpAny (model prog w) A (call (.builtin "bytes.join") [.bytes #[] t, .ref I]) Q E s := by
  have hT : ∀ i s, St i s → s.TypeIs (.ref I) "generator" := fun i s h => (hgen i s h).elim fun g hg => hg.typeIs
  refine wpAny_call_entry slot (typeIs_bytes s _ t) entry ?_ (args _ _)
  refine join_runs ?_ hsz
  unfold joinItems
  refine wpAny_bind (wpAny_typeOf (hT 0 s hst) ?_)
  rw [if_neg (by decide)]
  refine wpAny_bind (wpAny_tryCatch (wpAny_pyIter_gen (hgen 0 s hst).choose_spec ?_))
  refine call_list_gen W hT hst hfp hI (fun s' acc' c' hm hS ha => ?_) (by rw [sizeLine_eq]; omega)
  refine ⟨_, acc'.toList, c', rfl, by simpa using hS, items_b bs (by simpa using ha.1) (fun i v e => ha.2 i v (by simpa using e)), fun t' tk' hk => ⟨_, rfl, ?_⟩⟩
  have hm' := Moved.drop_new hm (Nat.le_refl _)
  exact hQ _ t' ⟨hm'.heap, hm'.gens, hm'.drawn, hm'.os, Nat.le_trans hm'.toks hk⟩
end
end BJ
end

set_option hygiene true
section
variable {prog : Program} {w : World} {M : Model} {A : Around} {E : Value → Shared → Prop} {gs : Array GenState} {dr : Drawn} {tk : Nat} {os : OsState} {h g : Heap} {L : Addr} {mm : Str → Option Value} {news : Ledger} {Q : Value → Shared → Prop} {t u v : Tok} {env : Env}
theorem x_or {e₁ e₂ rest pos} (H : wpAny M A (eval e₁ env) (fun v s₁ => wpAny M A (truthy v) (fun c s₂ => if c = true then Q v s₂ else wpAny M A (eval (.BoolOp .Or (e₂ :: rest) pos) env) Q E s₂) E s₁) E ⟨h, gs, dr, tk, os⟩) :
    wpAny M A (eval (.BoolOp .Or (e₁ :: e₂ :: rest) pos) env) Q E ⟨h, gs, dr, tk, os⟩ := BoolOp_or H
theorem x_or1 {e pos} (H : wpAny M A (eval e env) Q E ⟨h, gs, dr, tk, os⟩) : wpAny M A (eval (.BoolOp .Or [e] pos) env) Q E ⟨h, gs, dr, tk, os⟩ := H
theorem x_truthyi {i : Int} {Q : Bool → Shared → Prop} (H : Q (i != 0) ⟨h, gs, dr, tk, os⟩) : wpAny (model prog w) A (truthy (.int i t)) Q E ⟨h, gs, dr, tk, os⟩ := PyProof.Rows.truthy_int H
theorem x_getm_bl {i : Int} {pl : Sem Bool} {Q : Value × List Value → Shared → Prop} (H : Q (.builtin "int.bit_length", [.int i t]) ⟨h, gs, dr, tk, os⟩) : wpAny M A (getMethod (.int i t) (Str.ofString "bit_length") pl) Q E ⟨h, gs, dr, tk, os⟩ := getMethod_int_bit_length H
theorem x_getm_tb {i : Int} {pl : Sem Bool} {Q : Value × List Value → Shared → Prop} (H : Q (.builtin "int.to_bytes", [.int i t]) ⟨h, gs, dr, tk, os⟩) : wpAny M A (getMethod (.int i t) (Str.ofString "to_bytes") pl) Q E ⟨h, gs, dr, tk, os⟩ := KTBy.method H
theorem x_getm_join {b : Array UInt8} {pl : Sem Bool} {Q : Value × List Value → Shared → Prop} (H : Q (.builtin "bytes.join", [.bytes b t]) ⟨h, gs, dr, tk, os⟩) : wpAny M A (getMethod (.bytes b t) (Str.ofString "join") pl) Q E ⟨h, gs, dr, tk, os⟩ := BJ.method H
theorem x_bl {i : Int} (H : ∀ t' tk', Q (.int (Builtin.Int.intBits i) t') ⟨h, gs, dr, tk', os⟩) : wpAny (model prog w) A (call (.builtin "int.bit_length") [.int i t]) Q E ⟨h, gs, dr, tk, os⟩ := call_int_bit_length (H _ _)
theorem x_fdiv {i j : Int} (hj : j ≠ 0) (hs : i.natAbs < 1000000 ∧ j.natAbs < 1000000) (H : ∀ t' tk', Q (.int (i.fdiv j) t') ⟨h, gs, dr, tk', os⟩) : wpAny (model prog w) A (binaryOp .FloorDiv (.int i t) (.int j u)) Q E ⟨h, gs, dr, tk, os⟩ :=
  floordiv_int hj (H _ _) (Or.inl (PyProof.noPylong_small (by omega)))
/-- the octets of a length of at most two -/
def lenB (x : Nat) : List UInt8 := if x < 256 then [UInt8.ofNat x] else [UInt8.ofNat (x / 256), UInt8.ofNat (x % 256)]
theorem lenB_le (x : Nat) : (lenB x).length ≤ 2 := by unfold lenB; split <;> simp
theorem bits_1 {x : Nat} (h0 : 0 < x) (h1 : x < 256) : ((Builtin.Int.intBits (x : Int) : Int) + 7).fdiv 8 = 1 := by
  have a := (PySem.intBits_le_iff (m := 8) (x := (x : Int))).mpr (by simpa using h1)
  have b : ¬ Builtin.Int.intBits (x : Int) ≤ 0 := fun h => by
    have := PySem.intBits_le_iff.mp h
    simp at this
    omega
  rw [Int.fdiv_eq_ediv_of_nonneg _ (by decide)]
  omega
theorem bits_2 {x : Nat} (h0 : 256 ≤ x) (h1 : x < 65536) : ((Builtin.Int.intBits (x : Int) : Int) + 7).fdiv 8 = 2 := by
  have a := (PySem.intBits_le_iff (m := 16) (x := (x : Int))).mpr (by simpa using h1)
  have b : ¬ Builtin.Int.intBits (x : Int) ≤ 8 := fun h => by
    have := PySem.intBits_le_iff.mp h
    simp at this
    omega
  rw [Int.fdiv_eq_ediv_of_nonneg _ (by decide)]
  omega
theorem bInts_inj : ∀ {a b : List UInt8}, a.map (fun c => ((c.toNat : Nat) : Int)) = b.map (fun c => ((c.toNat : Nat) : Int)) → a = b
  | [], [], _ => rfl
  | [], _ :: _, h => by simp at h
  | _ :: _, [], h => by simp at h
  | x :: a, y :: b, h => by
    rw [List.map_cons, List.map_cons] at h
    injection h with h1 h2
    rw [bInts_inj h2, UInt8.toNat_inj.mp (Int.ofNat_inj.mp h1)]
theorem x_tb {x : Nat} {k : Int} (h0 : 0 < x) (h1 : x < 65536) (hk : k = ((Builtin.Int.intBits (x : Int) : Int) + 7).fdiv 8) (H : ∀ t' tk', Q (.bytes (lenB x).toArray t') ⟨h, gs, dr, tk', os⟩) :
    wpAny (model prog w) A (call (.builtin "int.to_bytes") [.int (x : Int) t, .int k u, .str (Str.ofString "big") v]) Q E ⟨h, gs, dr, tk, os⟩ := by
  by_cases hx : x < 256
  · rw [bits_1 h0 hx] at hk
    subst hk
    refine KTBy.to_big (k := 1) (B := 256) (by decide) (by decide) (by omega) (by omega) fun b t' k' hb _ => ?_
    have e : b = (lenB x).toArray := by
      obtain ⟨b⟩ := b
      congr 1
      refine bInts_inj ?_
      show KBw.bInts ⟨b⟩ = _
      rw [hb, lenB, if_pos hx]
      simp [KTBy.little]
      try omega
    rw [e]
    exact H _ _
  · rw [bits_2 (by omega) h1] at hk
    subst hk
    refine KTBy.to_big (k := 2) (B := 65536) (by decide) (by decide) (by omega) (by omega) fun b t' k' hb _ => ?_
    have e : b = (lenB x).toArray := by
      obtain ⟨b⟩ := b
      congr 1
      refine bInts_inj ?_
      show KBw.bInts ⟨b⟩ = _
      rw [hb, lenB, if_neg hx]
      simp [KTBy.little]
      try omega
    rw [e]
    exact H _ _
theorem seq_ix {i : Int} {n : Nat} (h0 : 0 ≤ i) (h1 : i < n) : seqIndex? i n = some i.toNat := by
  unfold seqIndex?
  simp [show ¬ i < 0 by omega, h0, h1]
theorem x_titem {l : Addr} {items : List Value} {n : Nat} {i : Int} {ui : Tok} {x : Value} {value slice : Expr} (hg : h.get? l = some { cls := .type "tuple", data := .seq items.toArray n }) (h0 : 0 ≤ i) (hfit : i < 1000000) (hx : items[i.toNat]? = some x)
    (hs : subscripted slice false (.ref l) (.int i ui) = operate [.ref l, .int i ui] (getItem (.ref l) (.int i ui))) (ht : ∀ r, letTemporaryGo value (.ref l) r = pure ()) (H : Q x ⟨h, gs, dr, tk, os⟩) :
    wpAny (model prog w) A (subscriptTail value slice (.ref l) (.int i ui)) Q E ⟨h, gs, dr, tk, os⟩ := by
  have hl : IsTup h l items.toArray := ⟨_, hg, rfl, n, rfl⟩
  have hlt : i.toNat < items.length := (List.getElem?_eq_some_iff.mp hx).1
  exact subscriptTail_builtin hl.typeIs PySem.F.slot_tuple_getitem.lookup (PyProof.Rows.getItem_tuple (s := ⟨h, gs, dr, tk, os⟩) hl (by omega) (by omega) (j := i.toNat) (seq_ix h0 (by rw [List.size_toArray]; omega)) (by simpa using hx) H) hs ht
/-- an octet out of ALL_BYTES -/
theorem x_all {i : Int} {ui : Tok} {value slice : Expr} (B : Base w h) (h0 : 0 ≤ i) (h1 : i < 256)
    (hs : subscripted slice false (.ref 1450) (.int i ui) = operate [.ref 1450, .int i ui] (getItem (.ref 1450) (.int i ui))) (ht : ∀ r, letTemporaryGo value (.ref 1450) r = pure ()) (H : ∀ t', Q (.bytes [UInt8.ofNat i.toNat].toArray t') ⟨h, gs, dr, tk, os⟩) :
    wpAny (model prog w) A (subscriptTail value slice (.ref 1450) (.int i ui)) Q E ⟨h, gs, dr, tk, os⟩ :=
  x_titem (items := (List.range 256).map itemB) (n := 0) B.tup h0 (by omega) (x := itemB i.toNat) (by rw [List.getElem?_map, List.getElem?_range (by omega)]; rfl) hs ht (H _)
end
set_option hygiene false
local macro_rules | `(tactic| tb_start) => `(tactic| first
  | ((with_reducible refine' g_eval ?_); first
    | (with_reducible refine' x_or ?_)
    | (with_reducible refine' x_or1 ?_))
  | ((with_reducible refine' g_getm ?_); first
    | (with_reducible refine' x_getm_bl ?_)
    | (with_reducible refine' x_getm_tb ?_)
    | (with_reducible refine' x_getm_join ?_))
  | ((with_reducible refine' g_call ?_); (with_reducible refine' x_bl ?_); intro _ _)
  | ((with_reducible refine' g_bin ?_); ((with_reducible refine' x_fdiv ?hj ?hs ?_); (case hj => decide); (case hs => omega); intro _ _))
  | (with_reducible refine' x_truthyi ?_)
  | ((with_reducible refine' x_all ?B ?h0 ?h1 ?hs ?ht ?_); (case B => exact Base.keeps (by assumption) F.keep); (case h0 => omega); (case h1 => omega); (case hs => with_unfolding_all rfl); (case ht => intro _; with_unfolding_all rfl); intro _)
  | (fail "no step"))

section
section
variable {w : World} {A : Around} {E : Value → Shared → Prop} {gs : Array GenState} {dr : Drawn} {tk : Nat} {os : OsState} {h : Heap} {Q : Value → Shared → Prop}
theorem i2b_call {x : Nat} {t : Tok} (B : Base w h) (hd : A.depth < recursionLimit) (h0 : 0 < x) (h1 : x < 65536)
    (H : ∀ h' t' tk', Ke h h' → Q (.bytes (lenB x).toArray t') ⟨h', gs, dr, tk', os⟩) : wpAny (model pw w) A (call (.ref 1471) [.int (x : Int) t]) Q E ⟨h, gs, dr, tk, os⟩ := by
  refine x_enter B hd (by rfl) (by rfl) (by rfl) (by rfl) (by rfl) (binds := [(Str.ofString "value", _)]) (by rfl) (locs (by rfl)) (by rfl) (by rfl) (by rfl) (by decide) ?_
  intro h₁ L tk' _ F N
  have hb : (Builtin.Int.intBits (x : Int) : Int) ≤ 16 := Int.ofNat_le.mpr (PySem.intBits_le_iff.mpr (by simpa using h1))
  have hk : 0 < ((Builtin.Int.intBits (x : Int) : Int) + 7).fdiv 8 := by
    by_cases hx : x < 256
    · rw [bits_1 h0 hx]; decide
    · rw [bits_2 (by omega) h1]; decide
  show wpAny _ _ (execs (fdB (sAt 13)) _) _ _ _
  refine wpAny_execs_cons ?_
  repeat' tb_start
  · refine x_tb h0 h1 rfl fun t' tk' => ?_
    repeat' tb_start
    exact H _ _ _ F.keep
  · omega
def preB (n o : Nat) : List UInt8 := if n < 56 then [UInt8.ofNat (o + n)] else [UInt8.ofNat (o + 55 + (lenB n).length)] ++ lenB n
theorem lp_call {n o : Nat} {t u : Tok} (B : Base w h) (hd : A.depth + 1 < recursionLimit) (h0 : n < 65536) (h1 : o ≤ 192)
    (H : ∀ h' t' tk', Ke h h' → Q (.bytes (preB n o).toArray t') ⟨h', gs, dr, tk', os⟩) : wpAny (model pw w) A (call (.ref 1729) [.int (n : Int) t, .int (o : Int) u]) Q E ⟨h, gs, dr, tk, os⟩ := by
  refine x_enter B (by omega) (by rfl) (by rfl) (by rfl) (by rfl) (by rfl) (binds := [(Str.ofString "length", _), (Str.ofString "offset", _)]) (by rfl) (locs (by rfl)) (by rfl) (by rfl) (by rfl) (by decide) ?_
  intro h₁ L tk' _ F N
  have hll := lenB_le n
  show wpAny _ _ (execs (fdB (sAt 33)) _) _ _ _
  refine wpAny_execs_cons ?_
  repeat' tb_start
  · have e : preB n o = [UInt8.ofNat ((o : Int) + (n : Int)).toNat] := by rw [preB, if_pos (by omega), show ((o : Int) + (n : Int)).toNat = o + n by omega]
    rw [e] at H
    exact H h₁ _ _ F.keep
  · refine i2b_call (B.keeps F.keep) (by show A.depth + 1 < _; omega) (by omega) h0 fun h₂ t' tk₂ k₂ => ?_
    replace N := news_ke N k₂
    replace F := F.keeps k₂
    repeat' tb_start
    refine x_badd (b := [_]) (by show 1 + _ ≤ _; omega) fun t' tk' => ?_
    have e : preB n o = [UInt8.ofNat ((o : Int) + 56 - 1 + ((lenB n).length : Int)).toNat] ++ lenB n := by rw [preB, if_neg (by omega), show ((o : Int) + 56 - 1 + ((lenB n).length : Int)).toNat = o + 55 + (lenB n).length by omega]
    rw [← e]
    repeat' tb_start
    exact H _ _ _ F.keep
  · omega
end
end

section
/-- the table of a code object's inner code -/
def TabO (o : Obj) (ps : Array Value) : Prop := o = { cls := .none, data := .fields ps } ∧ TriplesOk ps.toList
def Hit (pos : Pos) (o : Obj) : Prop := ∃ ps c', TabO o ps ∧ codeAmong pos ps.toList = some c'
theorem objs_tab (P : Params) : ((objs P).map Prod.fst).contains 1702 = false := by rfl
theorem base_tab {w : World} {h : Heap} (B : Base w h) : Base w (hideAll h [1702]) where
  at_ := fun p hp => hideAll_get _ (B.at_ p hp) (by
    have : ∀ p ∈ objs w.params, p.1 ≠ 1702 := by
      intro p hp e
      have : (1702 : Nat) ∈ (objs w.params).map Prod.fst := List.mem_map.mpr ⟨p, hp, e⟩
      rw [← List.contains_iff_mem, objs_tab] at this
      cases this
    simpa using this p hp)
  tup := hideAll_get _ B.tup (by decide)
  g := let ⟨mg, h1, h2⟩ := B.g; ⟨mg, h1.at' fun o e => hideAll_get _ e (by decide), h2⟩
  b := let ⟨mb, h1, h2⟩ := B.b; ⟨mb, h1.at' fun o e => hideAll_get _ e (by decide), h2⟩
  nolimit := let ⟨mc, h1, h2⟩ := B.nolimit; ⟨mc, h1.at' fun o e => hideAll_get _ e (by decide), h2⟩
  nodigits := let ⟨mc, h1, h2⟩ := B.nodigits; ⟨mc, h1.at' fun o e => hideAll_get _ e (by decide), h2⟩
section
variable {M : Model} {w : World} {A : Around} {E : Value → Shared → Prop} {gs : Array GenState} {dr : Drawn} {tk : Nat} {os : OsState} {h : Heap}
theorem bf_map (P : Params) : ∃ es ep, (ob3 P).data = .dict es ep ∧ nsFind es (Str.ofString "__builtins__") = some (.ref 4) := ⟨_, _, rfl, by rfl⟩
theorem x_bfor {Q : Addr → Shared → Prop} (B : Base w h) (H : Q builtinsNs ⟨h, gs, dr, tk, os⟩) : wpAny M A (builtinsFor mainGlobals builtinsNs) Q E ⟨h, gs, dr, tk, os⟩ := by
  obtain ⟨mg, hmg, _⟩ := B.g
  have h3 : h.get? mainGlobals = some (ob3 w.params) := B.get (a := 3) rfl
  obtain ⟨es, ep, e1, e2⟩ := bf_map w.params
  have hm : mg "__builtins__" = some (.ref 4) := by
    obtain ⟨o, es', ep', q1, q2, _, q3⟩ := hmg
    rw [h3] at q1
    cases q1
    rw [e1] at q2
    cases q2
    rw [← q3]
    exact e2
  exact wpAny_builtinsFor (s := ⟨h, gs, dr, tk, os⟩) hmg hm (by decide) (B.get (a := 4) rfl) rfl rfl rfl H
theorem code_tab {ps : Array Value} {o : Obj} (B : Base w h) (ho : h.get? 1702 = some o) (ht : TabO o ps) : h.IsCode 1706 1702 ps ∧ h.TableAt 1706 1702 ps := by
  obtain ⟨rfl, ht⟩ := ht
  have h6 := B.get (a := 1706) rfl
  exact ⟨⟨_, _, _, _, _, _, _, _, _, _, h6, rfl, rfl, rfl, rfl, rfl, rfl, ho, rfl, ht, by decide⟩, ⟨_, _, h6, rfl, rfl, rfl⟩, ho⟩
/-- the code of the inner generator: made at the first time, found later -/
theorem x_gcode {env : Env} {pos : Pos} {qn : Str} {scope : Scope} {o : Obj} {ps : Array Value} {Q : Value → Shared → Prop} (B : Base w h) (hc : env.code = .ref 1706) (ho : h.get? 1702 = some o) (ht : TabO o ps)
    (H : ∀ c h' tk' o', Heap.ExtBut 1702 h h' → h'.get? 1702 = some o' → Hit pos o' → (Hit pos o → h' = h) → Q c ⟨h', gs, dr, tk', os⟩) : wpAny M A (genexprCode env pos qn scope) Q E ⟨h, gs, dr, tk, os⟩ := by
  obtain ⟨a, b⟩ := code_tab B ho ht
  cases hf : codeAmong pos ps.toList with
  | some c' => exact wpAny_genexprCode_hit (s := ⟨h, gs, dr, tk, os⟩) hc a hf (H _ _ _ o (Heap.ExtBut.refl _ _) ho ⟨ps, c', ht, hf⟩ fun _ => rfl)
  | none =>
    refine wpAny_genexprCodeX (s := ⟨h, gs, dr, tk, os⟩) hc a b hf fun c' h' tk' k1 _ _ k2 _ k3 _ => H _ h' tk' _ k1 k3.2 ⟨_, .ref c', ⟨rfl, ?_⟩, ?_⟩ fun hh => ?_
    · simpa using TriplesOk_snoc _ _ _ _ ht.2
    · simpa using codeAmong_snoc ps.toList ht.2 hf
    · obtain ⟨ps', c2, ⟨e1, _⟩, e2⟩ := hh
      rw [ht.1] at e1
      cases e1
      rw [hf] at e2
      cases e2
end
/-- a generator expression over a list has just been made -/
structure GenOk (pos : Pos) (h : Heap) (gs : Array GenState) (h4 : Heap) (gs4 : Array GenState) (G I C ax : Addr) (o o2 : Obj) (fresh : GenState) (it : Str → Option Value) : Prop where
  up : ∀ b ob, b ≠ 1702 → h.get? b = some ob → h4.get? b = some ob
  tab : h4.get? 1702 = some o2
  hit : Hit pos o2
  same : Hit pos o → o2 = o
  gens : gs4 = gs.push fresh
  gen : h4.IsGen G gs.size
  eI : I = h.objs.size
  lt : @LT.lt Nat _ I C ∧ @LT.lt Nat _ C G ∧ @LT.lt Nat _ G h4.objs.size
  iter : h4.IsListIter I ax 0
  ns : h4.Ns C it
section
variable {w : World} {A : Around} {E : Value → Shared → Prop} {gs : Array GenState} {dr : Drawn} {tk : Nat} {os : OsState} {h g : Heap} {L a : Addr} {ρ : List (Str × Value)} {news : Ledger} {name : Str} {scope : Scope}
theorem x_gen {elt : Expr} {x itn : Str} {px ip pos : Pos} {gscope : Scope} {ax : Addr} {vs : List Value} {n : Nat} {o : Obj} {ps : Array Value} {Q : Value → Shared → Prop} (F : Fr g L h (look ρ)) (N : News g L h news) (B : Base w g)
    (ho : (1702, o) ∈ news) (ht : TabO o ps) (hv : ρ.lookup itn = some (.ref ax)) (hax : h.get? ax = some (lob vs n)) (hroom : A.depth < recursionLimit)
    (hk : scope.kind = .function) (hl : scope.names.lookup itn = some .local) (hd : (itn == ("__debug__" : Str)) = false)
    (hco : gscope.isCoroutine = false) (hclos : closureFor gscope (envOf name scope L a (.ref 1706)) = pure []) (hcell : ∀ y ∈ gscope.names, y.2 ≠ .cell) (h0 : gscope.names.lookup (".0" : Str) = some NameKind.local) (hkind : gscope.kind = .function)
    (H : ∀ h4 gs4 tk' G I C o2 code, GenOk pos h gs h4 gs4 G I C ax o o2 (.fresh (.compStart (.GeneratorExp elt [⟨.Name x px, .Name itn ip, [], 0⟩] gscope pos) 0 (.ref I) .none (genEnv gscope [] C code builtinsNs (envOf name scope L a (.ref 1706))))) (fun y => if y = ".0" then some (.ref I) else none) →
      Q (.ref G) ⟨h4, gs4, dr, tk', os⟩) :
    wpAny (model pw w) A (eval (.GeneratorExp elt [⟨.Name x px, .Name itn ip, [], 0⟩] gscope pos) (envOf name scope L a (.ref 1706))) Q E ⟨h, gs, dr, tk, os⟩ := by
  have hB := B.keeps F.keep
  have hlist : Heap.IsList h ax vs.toArray := ⟨_, hax, rfl, n, rfl⟩
  refine wpAny_GeneratorExp_make hco hclos hcell h0 hkind hroom ?_ (fun _ => rfl)
  refine x_name F hv hk hl hd ?_
  refine wpAny_pyIter_list (s := ⟨h, gs, dr, tk, os⟩) hlist ?_
  have k1 : Ke h (h.push { cls := .type "list_iterator", data := .fields #[.ref ax, .int 0 0] }) := fun b ob e => Heap.get?_push_of_some _ e
  refine ⟨hB.nolimit.keeps k1, ?_⟩
  refine x_gcode (hB.keeps k1) rfl (k1 _ _ (N.get ho)) ht fun c h2 tk2 o2 k2 ho2 hh2 hs2 => ?_
  have k12 : ∀ b ob, b ≠ 1702 → h.get? b = some ob → h2.get? b = some ob := fun b ob hb e => k2 b ob hb (k1 b ob e)
  have hB2 : Base w h2 := B.keeps fun b ob e => k12 b ob (fun hb => by have := (N (1702, o) ho).2.2; rw [← hb, e] at this; cases this) (F.keep b ob e)
  refine x_bfor hB2 fun h3 hn3 hs3 => ?_
  have hI : h2.get? h.objs.size = some { cls := .type "list_iterator", data := .fields #[.ref ax, .int 0 0] } := k2 _ _ (fun e => by have := Heap.lt_size (N.get ho); rw [← e] at this; exact Nat.lt_irrefl _ this) (Heap.get?_push_size _ rfl)
  have k3 : ∀ b ob, h2.get? b = some ob → h3.get? b = some ob := fun b ob e => hs3.extBut b ob (fun hb => by have := Heap.lt_size e; rw [hb] at this; exact Nat.lt_irrefl _ this) (Heap.get?_push_of_some _ e)
  have k4 : ∀ (ox : Obj) b ob, h3.get? b = some ob → (h3.push ox).get? b = some ob := fun ox b ob e => Heap.get?_push_of_some _ e
  have hsz : h3.objs.size = h2.objs.size + 1 := by have := hs3.1; simpa using this
  refine H _ _ _ h3.objs.size h.objs.size h2.objs.size o2 c ⟨fun b ob hb e => k4 _ _ _ (k3 _ _ (k12 b ob hb e)), k4 _ _ _ (k3 _ _ ho2), hh2, fun hh => ?_, rfl, ?_, rfl, ⟨Heap.lt_size hI, by rw [hsz]; exact Nat.lt_succ_self _, by simp⟩, ?_, ?_⟩
  · have := hs2 hh
    rw [this, k1 _ _ (N.get ho)] at ho2
    exact (Option.some.inj ho2).symm
  · exact ⟨_, _, _, Heap.get?_push_size _ rfl, rfl, rfl, rfl⟩
  · exact ⟨_, k4 _ _ _ (k3 _ _ hI), rfl, rfl⟩
  · exact hn3.push _
/-- b''.join of the generator that has been made -/
theorem x_join {elt : Expr} {x itn : Str} {px ip pos : Pos} {gscope : Scope} {ax G I C : Addr} {vs : List Value} {n : Nat} {o o2 : Obj} {code : Value} {Q : Value → Shared → Prop} {env : Env} {h4 : Heap} {gs4 : Array GenState} {bs : List (List UInt8)} {t : Tok} {mm : Str → Option Value}
    (F : Fr g L h mm) (N : News g L h news) (B : Base w g) (hh : A.handled = none) (ho : (1702, o) ∈ news) (hax : h.get? ax = some (lob vs n)) (hx2 : ax ≠ 1702) (hroom : A.depth < recursionLimit)
    (hco : gscope.isCoroutine = false) (hkind : gscope.kind = .function) (hxl : gscope.names.lookup x = some .local)
    (X : GenOk pos h gs h4 gs4 G I C ax o o2 (.fresh (.compStart (.GeneratorExp elt [⟨.Name x px, .Name itn ip, [], 0⟩] gscope pos) 0 (.ref I) .none (genEnv gscope [] C code builtinsNs env))) (fun y => if y = ".0" then some (.ref I) else none))
    (hlen : vs.length = bs.length) (hn : bs.length ≤ 100000) (hsz : bs.flatten.length ≤ 16777216)
    (hel : ∀ i v, vs[i]? = some v → ∀ (A' : Around) E' (s : Shared) m, A'.handled = none → A'.depth ≤ A.depth + 1 → (∀ b ob, b ≠ 1702 → h.get? b = some ob → s.heap.get? b = some ob) → s.heap.get? 1702 = some o2 → s.heap.Ns C m → m x = some v →
      wpAny (model pw w) A' (eval elt (genEnv gscope [] C code builtinsNs env)) (fun y s₃ => (∃ t, y = .bytes (bs.getD i []).toArray t) ∧ KeepsX s s₃) E' s)
    (H : ∀ h' t' tk' gs', (∀ b ob, b ≠ 1702 → h.get? b = some ob → h'.get? b = some ob) → h'.get? 1702 = some o2 → Hit pos o2 → (Hit pos o → o2 = o) → GExt gs gs' → Q (.bytes bs.flatten.toArray t') ⟨h', gs', dr, tk', os⟩) :
    wpAny (model pw w) A (call (.builtin "bytes.join") ([.bytes #[] t] ++ [.ref G])) Q E ⟨h4, gs4, dr, tk, os⟩ := by
  obtain ⟨up, tab, hit, same, rfl, gen, rfl, ⟨l1, l2, l3⟩, iter, ns⟩ := X
  have hCs : ∃ oc, h4.get? C = some oc := let ⟨o, _, _, q, _⟩ := ns; ⟨o, q⟩
  have hup : ∀ b ob, b ≠ 1702 → h.get? b = some ob → b < h.objs.size := fun b ob _ e => Heap.lt_size e
  have hax4 : Heap.IsList h4 ax vs.toArray := ⟨_, up _ _ hx2 hax, rfl, n, rfl⟩
  have hnl : h4.NoLimit := (B.keeps F.keep).nolimit.elim fun mc q => ⟨mc, q.1.at' fun ob e => up _ _ (by decide) e, q.2⟩
  have hcs : cStatics < h.objs.size := (B.keeps F.keep).nolimit.elim fun mc q => q.1.lt
  have h17 : 1702 < h.objs.size := Heap.lt_size (N.get ho)
  have hgs : (gs.push (.fresh (.compStart (.GeneratorExp elt [⟨.Name x px, .Name itn ip, [], 0⟩] gscope pos) 0 (.ref h.objs.size) .none (genEnv gscope [] C code builtinsNs env))))[gs.size]? = some (.fresh (.compStart (.GeneratorExp elt [⟨.Name x px, .Name itn ip, [], 0⟩] gscope pos) 0 (.ref h.objs.size) .none (genEnv gscope [] C code builtinsNs env))) := by simp
  have hfp : ∀ b, @LT.lt Nat _ b C → b ∈ List.range C := fun b q => List.mem_range.mpr q
  have W₀ : ∀ A' : Around, A'.handled = none → Walks pw w A' h.objs.size (List.range C) [h.objs.size] vs.length (fun i v => vs[i]? = some v) (fun i h' => h'.IsListIter h.objs.size ax i ∧ h'.IsList ax vs.toArray) := fun A' hA => by
    have := (Walks.list (prog := pw) (w := w) hA h.objs.size ax (Nat.ne_of_lt (Heap.lt_size hax)) vs.toArray).mono_fp (fp' := List.range C) (by
      intro b hb
      simp only [List.mem_cons, List.mem_nil_iff, or_false] at hb
      rcases hb with hb | hb
      · rw [hb]; exact hfp _ l1
      · rw [hb]; exact hfp _ (Nat.lt_trans (Heap.lt_size hax) l1))
    simpa using this
  have st : GenX pw w A.in1.in1.in1 G gs.size (genEnv gscope [] C code builtinsNs env).locals (List.range C) [h.objs.size] vs.length (fun i v => ∃ t, v = .bytes (bs.getD i []).toArray t) 0 ⟨h4, gs.push (.fresh (.compStart (.GeneratorExp elt [⟨.Name x px, .Name itn ip, [], 0⟩] gscope pos) 0 (.ref h.objs.size) .none (genEnv gscope [] C code builtinsNs env))), dr, tk, os⟩ := by
    refine GenX.start (A := A.in1.in1.in1) (s := ⟨h4, _, dr, tk, os⟩) (P := fun i v => vs[i]? = some v) (cenv := genEnv gscope [] C code builtinsNs env) hh W₀ (fun i v => ∃ t, v = .bytes (bs.getD i []).toArray t) ?_ ?_ hco (by simp [genEnv]) (fun A' E' i v s₂ m₂ hA hd _ hv hns hm hkp => ?_) gen hgs ⟨iter, hax4⟩ ns hnl
    · exact hxl
    · show (gscope.kind == _ || (gscope.kind == _ && _)) = false
      rw [hkind]
      rfl
    refine hel i v hv A' E' s₂ m₂ hA (by exact hd) (fun b ob hb e => hkp b (hfp _ (Nat.lt_trans (Heap.lt_size e) l1)) (by simpa using Nat.ne_of_lt (Heap.lt_size e)) ob (up b ob hb e)) (hkp 1702 (hfp _ (Nat.lt_trans h17 l1)) (by simpa using Nat.ne_of_lt h17) o2 tab) hns hm
  have WX : WalksS pw w A.in1.in1.in1 G (G :: C :: List.range C) [C, h.objs.size] (GOnly gs.size) bs.length (fun i v => ∃ t, v = .bytes (bs.getD i []).toArray t) (GenX pw w A.in1.in1.in1 G gs.size C (List.range C) [h.objs.size] vs.length (fun i v => ∃ t, v = .bytes (bs.getD i []).toArray t)) := by
    rw [← hlen]
    exact walksX (A := A.in1.in1.in1) hh G gs.size C (List.range C) [h.objs.size] vs.length _ (Nat.ne_of_gt l2) (by simpa using Nat.le_of_lt l2) (fun b hb => by rw [List.mem_singleton] at hb; rw [hb]; exact hfp _ l1) hroom (hfp _ (Nat.lt_trans hcs l1)) (Nat.ne_of_lt (Nat.lt_trans hcs l1)) (by simpa using Nat.ne_of_lt hcs)
  refine BJ.call_join (I := G) (bs := bs) WX (fun i s z => ⟨_, z.1⟩) st (fun b hb => ?_) (by simp) hn hsz fun s' t' M => ?_
  · simp only [List.mem_cons, List.mem_range] at hb
    rcases hb with hb | hb | hb
    · rw [hb]; exact l3
    · rw [hb]; exact Nat.lt_trans l2 l3
    · exact Nat.lt_trans hb (Nat.lt_trans l2 l3)
  · obtain ⟨h', gs', dr', tk', os'⟩ := s'
    obtain ⟨m1, m2, m3, m4, _⟩ := M
    cases m3
    cases m4
    have kk : ∀ b ob, b < h.objs.size → h4.get? b = some ob → h'.get? b = some ob := fun b ob hb e => m1 b ob (by simp only [List.mem_cons, List.mem_nil_iff, or_false, not_or]; exact ⟨Nat.ne_of_lt (Nat.lt_trans hb l1), Nat.ne_of_lt hb⟩) e
    refine H h' t' tk' gs' (fun b ob hb e => kk b ob (Heap.lt_size e) (up b ob hb e)) (kk _ _ h17 tab) hit same ⟨?_, fun k hk => ?_, fun k z hk e => ?_⟩
    · have := m2.1; simp at this; omega
    · have := m2.2.1 k (by simp; omega) (by omega)
      rw [this]
      simp [Array.getElem?_push, Nat.ne_of_lt hk]
    · rcases Nat.lt_or_ge gs.size k with hk2 | hk2
      · exact m2.2.2.1 k z (by simp; omega) e
      · obtain rfl : k = gs.size := by omega
        rcases m2.2.2.2 with q | q
        · rw [e] at q
          simp at q
          rw [q]
          rfl
        · exact q z e
end
end

section
mutual
def encT : Tr → List UInt8
  | .b x => if x.length = 1 ∧ (x.getD 0 0).toNat < 128 then x else preB x.length 128 ++ x
  | .l ts => preB (encTs ts).length 192 ++ encTs ts
def encTs : List Tr → List UInt8
  | [] => []
  | t :: ts => encT t ++ encTs ts
end
theorem encTs_eq : ∀ ts, encTs ts = (ts.map encT).flatten
  | [] => by rw [encTs]; rfl
  | t :: ts => by rw [encTs, encTs_eq ts]; rfl
inductive Deep : Nat → Tr → Prop
  | b {n x} : Deep n (.b x)
  | l {n ts} : (∀ t ∈ ts, Deep n t) → Deep (n + 1) (.l ts)
theorem encT_mem {t : Tr} : ∀ {ts : List Tr}, t ∈ ts → (encT t).length ≤ (encTs ts).length
  | [], h => nomatch h
  | s :: ts, h => by
    rw [encTs, List.length_append]
    rcases List.mem_cons.mp h with rfl | h
    · omega
    · have := encT_mem h; omega
theorem preB_pos (n o : Nat) : 0 < (preB n o).length := by unfold preB; split <;> simp
theorem preB_le (n o : Nat) : (preB n o).length ≤ 3 := by have := lenB_le n; unfold preB; split <;> simp; omega
theorem encT_pos : ∀ t, 0 < (encT t).length
  | .b x => by
    unfold encT
    split
    · rename_i h; omega
    · rw [List.length_append]; have := preB_pos x.length 128; omega
  | .l ts => by unfold encT; rw [List.length_append]; have := preB_pos (encTs ts).length 192; omega
theorem encTs_len : ∀ ts : List Tr, ts.length ≤ (encTs ts).length
  | [] => by simp
  | t :: ts => by rw [encTs, List.length_append, List.length_cons]; have := encTs_len ts; have := encT_pos t; omega
section
variable {w : World} {A : Around} {E : Value → Shared → Prop} {gs : Array GenState} {dr : Drawn} {tk : Nat} {os : OsState} {h : Heap} {Q : Value → Shared → Prop}
theorem enc_b {x : List UInt8} {t : Tok} (B : Base w h) (hd : A.depth + 3 < recursionLimit) (hh : A.handled = none) (hz : x.length ≤ 60000)
    (H : ∀ h' t' tk', Ke h h' → Q (.bytes (encT (.b x)).toArray t') ⟨h', gs, dr, tk', os⟩) : wpAny (model pw w) A (call (.ref 1707) [.bytes x.toArray t]) Q E ⟨h, gs, dr, tk, os⟩ := by
  refine x_enter B (by omega) (by rfl) (by rfl) (by rfl) (by rfl) (by rfl) (binds := [(Str.ofString "item", _)]) (by rfl) (locs (by rfl)) (by rfl) (by rfl) (by rfl) (by decide) ?_
  intro h₁ L tk' _ F N
  have hh' : (A.deeper (envOf (Str.ofString "encode_raw") (fdS (sAt 29)) L 1707 (Value.ref 1706))).handled = none := hh
  show wpAny _ _ (execs (fdB (sAt 29)) _) _ _ _
  refine wpAny_execs_cons ?_
  repeat' tb_start
  refine x_isi_bytes (B.keeps F.keep) (N.get (.head _)) fun tk' => ?_
  repeat' tb_start
  · have e : encT (.b x) = x := by
      rw [encT, if_pos]
      refine ⟨by omega, ?_⟩
      exact Int.ofNat_lt.mp ‹(((x.getD (Int.toNat 0) 0).toNat : Int) < 128)›
    rw [e] at H
    exact H _ _ _ F.keep
  all_goals
    have e : encT (.b x) = preB x.length 128 ++ x := by
      rw [encT, if_neg]
      rintro ⟨h1, h2⟩
      have h2' : (((x.getD (Int.toNat 0) 0).toNat : Nat) : Int) < 128 := Int.ofNat_lt.mpr h2
      omega
    rw [e] at H
    have hp := preB_le x.length 128
    refine wpAny_Try_except ?_
    repeat' tb_start
    refine lp_call (n := x.length) (o := 128) (B.keeps F.keep) (by show A.depth + 1 + 1 < _; omega) (by omega) (by omega) fun h₂ t' tk₂ k₂ => ?_
    replace N := news_ke N k₂
    replace F := F.keeps k₂
    repeat' tb_start
    refine x_badd (by omega) fun t' tk' => ?_
    repeat' tb_start
    exact H _ _ _ F.keep
/-- every list of the ledger stands -/
def Stands (h : Heap) (T : Ledger) : Prop := ∀ p ∈ T, p.1 ≠ 1702 ∧ h.get? p.1 = some p.2
theorem Reps.get {T : Ledger} : ∀ {vs : List Value} {ts : List Tr}, Reps T vs ts → ∀ (i : Nat) (v : Value), vs[i]? = some v → ∃ t, ts[i]? = some t ∧ Rep T v t
  | _, _, .nil, i, v, e => by simp at e
  | _, _, .cons a b, 0, v, e => by simp at e; subst e; exact ⟨_, rfl, a⟩
  | _, _, .cons a b, i + 1, v, e => by
    obtain ⟨t, q1, q2⟩ := Reps.get b i v (by simpa using e)
    exact ⟨t, by simpa using q1, q2⟩
theorem x_isi_l1 {ax tp : Addr} {vs : List Value} {n : Nat} (B : Base w h) (htp : h.get? tp = some { cls := .type "tuple", data := .seq #[.type "bytes", .type "bytearray"] }) (hax : h.get? ax = some (lob vs n)) (H : ∀ tk', Q (.bool false) ⟨h, gs, dr, tk', os⟩) :
    wpAny (model pw w) A (call (.builtin "isinstance") [.ref ax, .ref tp]) Q E ⟨h, gs, dr, tk, os⟩ :=
  kia_tup (K := objs w.params) (its := [.type "bytes", .type "bytearray"]) kitx_list B.inK ⟨_, hax, rfl⟩ htp (by rfl) (by simp) (fun tk' => H tk')
theorem x_isi_l2 {ax tp : Addr} {vs : List Value} {n : Nat} (B : Base w h) (htp : h.get? tp = some { cls := .type "tuple", data := .seq #[.type "list", .type "tuple"] }) (hax : h.get? ax = some (lob vs n)) (H : ∀ tk', Q (.bool true) ⟨h, gs, dr, tk', os⟩) :
    wpAny (model pw w) A (call (.builtin "isinstance") [.ref ax, .ref tp]) Q E ⟨h, gs, dr, tk, os⟩ :=
  kia_tup (K := objs w.params) (its := [.type "list", .type "tuple"]) kitx_list B.inK ⟨_, hax, rfl⟩ htp (by rfl) (by simp) (fun tk' => H tk')
/-- a call of one of the program's functions, in a generator expression's element -/
theorem x_elt {fn x : Str} {np p pos : Pos} {gscope : Scope} {C f : Addr} {code v : Value} {env₀ : Env} {o : Obj} {fd : FuncData} {s : Shared} {m : Str → Option Value} (B : Base w s.heap) (hv : globs.lookup fn = some (.ref f)) (hk : gscope.kind = .function) (hl : gscope.names.lookup fn = some .globalImplicit) (hlx : gscope.names.lookup x = some .local)
    (hd : (fn == ("__debug__" : Str)) = false) (hdx : (x == ("__debug__" : Str)) = false) (ho : (objs w.params).lookup f = some o) (hdat : o.data = .func fd) (hg : env₀.globals = mainGlobals) (hn : s.heap.Ns C m) (hm : m x = some v)
    (he : starEach [.Name x p] (genEnv gscope [] C code builtinsNs env₀) = (false, eval (.Name x p) (genEnv gscope [] C code builtinsNs env₀)) :: starEach [] (genEnv gscope [] C code builtinsNs env₀))
    (H : wpAny (model pw w) A (call (.ref f) [v]) Q E s) : wpAny (model pw w) A (eval (.Call (.Name fn np) [.Name x p] [] pos) (genEnv gscope [] C code builtinsNs env₀)) Q E s := by
  obtain ⟨mg, h1, h2, _⟩ := B.g
  refine wpAny_Call_ofName (Name_function_global hk hl (loadGlobal_global (s := s) (by show s.heap.Ns env₀.globals mg; rw [hg]; exact h1) (h2 _ (globs_mem hv)) ?_) hd)
  refine callWith_def (o := o) hdat ?_ he
  refine wpAny_items_cons (wpAny_Name (wpAny_loadName_local hk hlx hn hm ?_) hdx) (by rfl)
  exact wpAny_items_nil ⟨B.get ho, H⟩
/-- where the generator expression of encode_raw stands -/
def gpos : Pos := ⟨226, 27, 226, 56⟩
end
section
variable {w : World}
theorem enc_call : ∀ (k : Nat) (t : Tr), Deep k t → ∀ {A : Around} {E : Value → Shared → Prop} {gs : Array GenState} {dr : Drawn} {tk : Nat} {os : OsState} {h : Heap} {Q : Value → Shared → Prop} {v : Value} {T : Ledger} {o : Obj} {ps : Array Value},
    Base w h → A.depth + 2 * k + 3 < recursionLimit → A.handled = none → (encT t).length ≤ 60000 → h.get? 1702 = some o → TabO o ps → Stands h T → Rep T v t →
    (∀ h' t' tk' gs' o', (∀ b ob, b ≠ 1702 → h.get? b = some ob → h'.get? b = some ob) → h'.get? 1702 = some o' → (∃ ps', TabO o' ps') → (Hit gpos o → o' = o) → GExt gs gs' → Q (.bytes (encT t).toArray t') ⟨h', gs', dr, tk', os⟩) →
    wpAny (model pw w) A (call (.ref 1707) [v]) Q E ⟨h, gs, dr, tk, os⟩ := by
  intro k
  induction k with
  | zero =>
    intro t D A E gs dr tk os h Q v T o ps B hd hh hz ho ht hT R H
    cases D
    cases R
    exact enc_b B (by omega) hh (by rename_i x _; have : x.length ≤ (encT (.b x)).length := by { rw [encT]; split <;> simp }; omega) fun h' t' tk' k => H h' t' tk' _ o (fun b ob _ e => k b ob e) (k _ _ ho) ⟨_, ht⟩ (fun _ => rfl) (GExt.refl _)
  | succ k ih =>
    intro t D A E gs dr tk os h Q v T o ps B hd hh hz ho ht hT R H
    cases R with
    | @b x u => exact enc_b B (by omega) hh (by have : x.length ≤ (encT (.b x)).length := by { rw [encT]; split <;> simp }; omega) fun h' t' tk' k => H h' t' tk' _ o (fun b ob _ e => k b ob e) (k _ _ ho) ⟨_, ht⟩ (fun _ => rfl) (GExt.refl _)
    | @l ax vs n ts hm Rs =>
      have D' : ∀ t ∈ ts, Deep k t := by cases D; assumption
      obtain ⟨hax7, hax⟩ := hT _ hm
      dsimp only at hax7 hax
      refine x_enter B (by omega) (by rfl) (by rfl) (by rfl) (by rfl) (by rfl) (binds := [(Str.ofString "item", _)]) (by rfl) (locs (by rfl)) (by rfl) (by rfl) (by rfl) (by decide) ?_
      intro h₁ L tk' _ F₀ N₀
      have hh' : (A.deeper (envOf (Str.ofString "encode_raw") (fdS (sAt 29)) L 1707 (Value.ref 1706))).handled = none := hh
      have B' : Base w (hideAll h [1702]) := base_tab B
      have F := fr_hide (S := 1702) F₀
      have h1L : (1702 : Addr) ≠ L := Nat.ne_of_lt (Nat.lt_of_lt_of_le (Heap.lt_size ho) F₀.above)
      have N : News (hideAll h [1702]) L h₁ [(1702, o)] := by
        intro p hp
        rw [List.mem_singleton] at hp
        subst hp
        exact ⟨F₀.keep _ _ ho, h1L, hideAll_none _ (.head _)⟩
      have hax' : (hideAll h [1702]).get? ax = some (lob vs n) := hideAll_get _ hax (by simpa using hax7)
      clear N₀
      have B₁ := B
      replace B := B'
      show wpAny _ _ (execs (fdB (sAt 29)) _) _ _ _
      refine wpAny_execs_cons ?_
      repeat' tb_start
      refine x_isi_l1 (B.keeps F.keep) (N.get (.head _)) (F.keep _ _ hax') fun tk' => ?_
      repeat' tb_start
      refine x_isi_l2 (B.keeps F.keep) (N.get (.head _)) (F.keep _ _ hax') fun tk' => ?_
      repeat' tb_start
      refine x_gen (n := n) (vs := vs) F N B (by tb_rel) ht (by rfl) (F.keep _ _ hax') (by show A.depth + 1 < _; omega) (by rfl) (by rfl) (by decide) (by rfl) (by rfl) (by decide) (by rfl) (by rfl) fun h4 gs4 tk4 G I C o2 code X => ?_
      repeat' tb_start
      have hen : (encT (.l ts)).length = (preB (encTs ts).length 192).length + (encTs ts).length := by rw [encT, List.length_append]
      refine x_join F N B hh' (by tb_rel) (F.keep _ _ hax') hax7 (by show A.depth + 1 < _; omega) (by rfl) (by rfl) (by rfl) X (bs := ts.map encT) (by simpa using Rs.length) (by have := encTs_len ts; rw [List.length_map]; omega) (by rw [← encTs_eq]; omega) (fun i v hv A' E' s m hA hdA kp h17 hns hmx => ?_) fun h' t' tk' gs' kp h17 hit same ge => ?_
      · obtain ⟨ti, hti, Ri⟩ := Rs.get i v hv
        have hmem : ti ∈ ts := List.mem_of_getElem? hti
        have hle := encT_mem hmem
        have e : (ts.map encT).getD i [] = encT ti := by simp [hti]
        have Bs : Base w s.heap := B.keeps fun b ob q => kp b ob (hide1 b ob q).2 (F.keep b ob q)
        have hg : (envOf (Str.ofString "encode_raw") (fdS (sAt 29)) L 1707 (Value.ref 1706)).globals = mainGlobals := rfl
        have X2 := X.hit
        obtain ⟨ps2, c2, ht2, hf2⟩ := X2
        refine x_elt Bs (by rfl) (by rfl) (by rfl) (by rfl) (by decide) (by decide) (by rfl) (by rfl) hg hns hmx (by rfl) ?_
        obtain ⟨hs', gs'', dr'', tk'', os''⟩ := s
        dsimp only at kp h17
        refine ih ti (D' ti hmem) (T := T) Bs (by have : A'.depth ≤ A.depth + 1 + 1 := hdA; omega) hA (by omega) h17 ht2 (fun p hp => ⟨(hT p hp).1, kp _ _ (hT p hp).1 (F.keep _ _ (hideAll_get _ (hT p hp).2 (by simpa using (hT p hp).1)))⟩) Ri fun h'' t' tk₃ gs₃ o' kp' h17' _ same' ge' => ?_
        have e2 : o' = o2 := same' ⟨ps2, c2, ht2, hf2⟩
        rw [e]
        refine ⟨⟨t', rfl⟩, h'', tk₃, gs₃, rfl, fun b ob q => ?_, ge'⟩
        by_cases hb : b = 1702
        · subst hb
          rw [h17] at q
          cases q
          rw [h17', e2]
        · exact kp' b ob hb q
      · have F' : Fr (hideAll h [1702]) L h' _ := ⟨F.ns.at' fun ob e => kp L ob h1L.symm e, fun b ob e => kp b ob (hide1 b ob e).2 (F.keep b ob e), F.above⟩
        have N' : News (hideAll h [1702]) L h' [(1702, o2)] := by
          intro p hp
          rw [List.mem_singleton] at hp
          subst hp
          exact ⟨h17, h1L, hideAll_none _ (.head _)⟩
        clear F N
        have F := F'
        have N := N'
        clear F' N'
        have ele : (ts.map encT).flatten = encTs ts := (encTs_eq ts).symm
        rw [ele]
        repeat' tb_start
        refine wpAny_Try_except ?_
        repeat' tb_start
        have hp := preB_le (encTs ts).length 192
        refine lp_call (n := (encTs ts).length) (o := 192) (B.keeps F.keep) (by show A.depth + 1 + 1 < _; omega) (by omega) (by omega) fun h₂ t' tk₂ k₂ => ?_
        replace N := news_ke N k₂
        replace F := F.keeps k₂
        repeat' tb_start
        refine x_badd (by omega) fun t' tk' => ?_
        repeat' tb_start
        have e : encT (.l ts) = preB (encTs ts).length 192 ++ encTs ts := by rw [encT]
        rw [e] at H
        obtain ⟨ps2, c2, ht2, hf2⟩ := hit
        exact H _ _ _ _ o2 (fun b ob hb q => F.keep _ _ (hideAll_get _ q (by simpa using hb))) (N.get (.head _)) ⟨ps2, ht2⟩ same ge
end
end

section
/-- the locals of encode -/
abbrev encB (ob sv : Value) (inf ca : Bool) : List (Str × Value) := [(Str.ofString "obj", ob), (Str.ofString "sedes", sv), (Str.ofString "infer_serializer", .bool inf), (Str.ofString "cache", .bool ca)]
abbrev encFd (pm : Value) : FuncData := defFd "encode" "encode" (fdA (sAt 31)) (fdB (sAt 31)) (fdS (sAt 31)) mainGlobals (.ref 1715) .none none pm (.ref 1721) .none
section
variable {w : World} {A : Around} {E : Value → Shared → Prop} {gs : Array GenState} {dr : Drawn} {tk : Nat} {os : OsState} {h : Heap} {Q : Value → Shared → Prop}
theorem encode_call {k : Nat} {t : Tr} {v : Value} {T : Ledger} {o : Obj} {ps : Array Value} {vals : List Value} {kw : List (Str × Value)} {ca : Bool} (D : Deep k t) (B : Base w h) (hd : A.depth + 2 * k + 4 < recursionLimit) (hh : A.handled = none) (hz : (encT t).length ≤ 60000)
    (ho : h.get? 1702 = some o) (ht : TabO o ps) (hT : Stands h T) (R : Rep T v t)
    (hbind : ∀ pm S, peek (objs w.params) S (bindArgs (encFd pm) ⟨vals, kw⟩) = some (encB v .none false ca))
    (H : ∀ h' t' tk' gs' o', (∀ b ob, b ≠ 1702 → h.get? b = some ob → h'.get? b = some ob) → h'.get? 1702 = some o' → (∃ ps', TabO o' ps') → GExt gs gs' → Q (.bytes (encT t).toArray t') ⟨h', gs', dr, tk', os⟩) :
    wpAny (model pw w) A (call (.ref 1722) vals kw) Q E ⟨h, gs, dr, tk, os⟩ := by
  refine x_enterD B (by omega) (by rfl) (by rfl) (by rfl) (by rfl) (by rfl) (binds := encB v .none false ca) (hbind _) (locs (by rfl)) (by rfl) (by rfl) (by rfl) (by decide) ?_
  intro h₁ L tk' _ F₀ N₀
  have hh' : (A.deeper (envOf (Str.ofString "encode") (fdS (sAt 31)) L 1722 (Value.ref 1721))).handled = none := hh
  have B' : Base w (hideAll h [1702]) := base_tab B
  have F := fr_hide (S := 1702) F₀
  have h1L : (1702 : Addr) ≠ L := Nat.ne_of_lt (Nat.lt_of_lt_of_le (Heap.lt_size ho) F₀.above)
  have N : News (hideAll h [1702]) L h₁ [(1702, o)] := by
    intro p hp
    rw [List.mem_singleton] at hp
    subst hp
    exact ⟨F₀.keep _ _ ho, h1L, hideAll_none _ (.head _)⟩
  clear N₀
  replace B := B'
  show wpAny _ _ (execs (fdB (sAt 31)) _) _ _ _
  refine wpAny_execs_cons ?_
  repeat' tb_start
  refine enc_call k t D (T := T) (B.keeps F.keep) (by show A.depth + 1 + 2 * k + 3 < _; omega) hh' hz (N.get (.head _)) ht (fun p hp => ⟨(hT p hp).1, F.keep _ _ (hideAll_get _ (hT p hp).2 (by simpa using (hT p hp).1))⟩) R fun h' t' tk' gs' o' kp h17 ht' _ ge => ?_
  have F' : Fr (hideAll h [1702]) L h' _ := ⟨F.ns.at' fun ob e => kp L ob h1L.symm e, fun b ob e => kp b ob (hide1 b ob e).2 (F.keep b ob e), F.above⟩
  have N' : News (hideAll h [1702]) L h' [(1702, o')] := by
    intro p hp
    rw [List.mem_singleton] at hp
    subst hp
    exact ⟨h17, h1L, hideAll_none _ (.head _)⟩
  clear F N
  have F := F'
  have N := N'
  clear F' N'
  repeat' tb_start
  exact H _ _ _ _ o' (fun b ob hb q => F.keep _ _ (hideAll_get _ q (by simpa using hb))) (N.get (.head _)) ht' ge
end
end

section
open PySem.SeqAt
section
variable {A : Around} {s : Shared}
theorem rc_bytes (b c : List UInt8) (t u : Tok) : RcAt A s (.bytes b.toArray t) (.bytes c.toArray u) (b == c) := fun prog w E Q h => eq_bytes h
theorem eqAt_bytes (b c : List UInt8) (t u : Tok) : EqAt A s (.bytes b.toArray t) (.bytes c.toArray u) (b == c) := fun prog w E Q h => by
  unfold eqBool
  refine wpAny_holding ?_
  refine wpAny_ite_split (fun hab => ?_) (fun _ => ?_)
  · have e : b = c := by have := eq_of_beq hab; injection this with e; simpa using e
    subst e
    exact wpAny_bind (wpAny_rule (wpAny_pure (by simpa using h)))
  · exact wpAny_bind (rc_bytes b c t u prog w E _ (wpAny_truthy_bool h))
theorem all_true (n : Nat) : ((List.range n).all fun _ => true) = true := by simp
/-- two copies of one tree are the same -/
theorem rep_eq : ∀ (k : Nat) (t : Tr), Deep k t → ∀ {A : Around} {s : Shared} {T T' : Ledger} {v v' : Value}, (∀ p ∈ T, s.heap.get? p.1 = some p.2) → (∀ p ∈ T', s.heap.get? p.1 = some p.2) → Rep T v t → Rep T' v' t → A.units + k < cLine → EqAt A s v v' true := by
  intro k
  induction k with
  | zero =>
    intro t D A s T T' v v' h h' R R' hu
    cases D
    cases R
    cases R'
    have := eqAt_bytes (A := A) (s := s)
    rename_i x t1 t2
    simpa using this x x t1 t2
  | succ k ih =>
    intro t D A s T T' v v' h h' R R' hu
    cases R with
    | @b x t1 =>
      cases R' with
      | @b _ t2 => simpa using eqAt_bytes (A := A) (s := s) x x t1 t2
    | @l a vs n ts hm Rs =>
      cases R' with
      | @l a' vs' n' _ hm' Rs' =>
        have D' : ∀ t ∈ ts, Deep k t := by cases D; assumption
        by_cases e : a = a'
        · subst e; exact EqAt.same _
        · refine EqAt.of_refs e ?_
          have hl : s.heap.IsList a vs.toArray := ⟨_, h _ hm, rfl, n, rfl⟩
          have hl' : s.heap.IsList a' vs'.toArray := ⟨_, h' _ hm', rfl, n', rfl⟩
          have hz : vs.toArray.size = vs'.toArray.size := by rw [List.size_toArray, List.size_toArray, Rs.length, Rs'.length]
          rw [← all_true vs.toArray.size]
          refine RcAt.lists hl hl' hz (by omega) fun j j1 j2 => ?_
          obtain ⟨t1, q1, r1⟩ := Rs.get j _ (List.getElem?_eq_getElem (by simpa using j1))
          obtain ⟨t2, q2, r2⟩ := Rs'.get j _ (List.getElem?_eq_getElem (by simpa using j2))
          rw [q1] at q2
          cases q2
          exact ih t1 (D' t1 (List.mem_of_getElem? q1)) h h' r1 r2 (by show A.units + 1 + k < _; omega)
end
section
variable {prog : Program} {w : World} {A : Around} {E : Value → Shared → Prop} {gs : Array GenState} {dr : Drawn} {tk : Nat} {os : OsState} {h : Heap} {Q : Value → Shared → Prop}
theorem pair_of {s : Shared} {a b c d : Value} (p : EqAt A.in1 s a c true) {x y : Str} {t u : Tok} (e : b = .str x t) (e' : d = .str y u) : ∀ j (h1 : j < #[a, b].size) (h2 : j < #[c, d].size), EqAt A.in1 s #[a, b][j] #[c, d][j] (if j = 0 then true else (x == y)) := by
  intro j h1 h2
  subst e
  subst e'
  match j, h1, h2 with
  | 0, _, _ => exact p
  | 1, _, _ => exact EqAt.str_str x t y u
  | j + 2, h1, _ => exact absurd h1 (by simp)
/-- (v, words) == (v', words') where the first parts are the same -/
theorem x_pair_eq {a b : Addr} {v v' : Value} {x y : Str} {t u : Tok} (ha : h.get? a = some (tob [v, .str x t])) (hb : h.get? b = some (tob [v', .str y u])) (p : EqAt A.in1 ⟨h, gs, dr, tk, os⟩ v v' true) (hu : A.units < cLine)
    (H : Q (.bool (x == y)) ⟨h, gs, dr, tk, os⟩) : wpAny (model prog w) A (compareOp .Eq (.ref a) (.ref b)) Q E ⟨h, gs, dr, tk, os⟩ := by
  refine RcAt.tuples (s := ⟨h, gs, dr, tk, os⟩) (items := #[v, .str x t]) (items2 := #[v', .str y u]) ⟨_, ha, rfl, 0, rfl⟩ ⟨_, hb, rfl, 0, rfl⟩ hu (pair_of p rfl rfl) prog w E Q ?_
  cases hxy : (x == y) <;> (rw [hxy] at H; simpa [List.range, List.range.loop] using H)
theorem x_pair_ne {a b : Addr} {v v' : Value} {x y : Str} {t u : Tok} (ha : h.get? a = some (tob [v, .str x t])) (hb : h.get? b = some (tob [v', .str y u])) (p : EqAt A.in1 ⟨h, gs, dr, tk, os⟩ v v' true) (hu : A.units < cLine)
    (H : Q (.bool (!(x == y))) ⟨h, gs, dr, tk, os⟩) : wpAny (model prog w) A (compareOp .NotEq (.ref a) (.ref b)) Q E ⟨h, gs, dr, tk, os⟩ := by
  refine RcNeAt.tuples (s := ⟨h, gs, dr, tk, os⟩) (items := #[v, .str x t]) (items2 := #[v', .str y u]) ⟨_, ha, rfl, 0, rfl⟩ ⟨_, hb, rfl, 0, rfl⟩ hu (pair_of p rfl rfl) prog w E Q ?_
  cases hxy : (x == y) <;> (rw [hxy] at H; simpa [List.range, List.range.loop] using H)
theorem x_pair_eq_t {a b : Addr} {v v' : Value} {x : Str} {t u : Tok} (ha : h.get? a = some (tob [v, .str x t])) (hb : h.get? b = some (tob [v', .str x u])) (p : EqAt A.in1 ⟨h, gs, dr, tk, os⟩ v v' true) (hu : A.units < cLine)
    (H : Q (.bool true) ⟨h, gs, dr, tk, os⟩) : wpAny (model prog w) A (compareOp .Eq (.ref a) (.ref b)) Q E ⟨h, gs, dr, tk, os⟩ := x_pair_eq ha hb p hu (by rw [beq_self_eq_true]; exact H)
theorem x_pair_ne_f {a b : Addr} {v v' : Value} {x : Str} {t u : Tok} (ha : h.get? a = some (tob [v, .str x t])) (hb : h.get? b = some (tob [v', .str x u])) (p : EqAt A.in1 ⟨h, gs, dr, tk, os⟩ v v' true) (hu : A.units < cLine)
    (H : Q (.bool false) ⟨h, gs, dr, tk, os⟩) : wpAny (model prog w) A (compareOp .NotEq (.ref a) (.ref b)) Q E ⟨h, gs, dr, tk, os⟩ := x_pair_ne ha hb p hu (by rw [beq_self_eq_true]; exact H)
end
end

section
section
variable {g h h' : Heap} {L S : Addr} {mm : Str → Option Value} {news news' : Ledger} {o o' : Obj}
theorem fr_but (F : Fr g L h mm) (N : News g L h news) (U : Upd S o o' news news') (k : ∀ b ob, b ≠ S → h.get? b = some ob → h'.get? b = some ob) : Fr g L h' mm := by
  obtain ⟨pre, post, rfl, rfl, a, b⟩ := U.split
  have z := N (S, o) (List.mem_append.mpr (.inr (.head _)))
  exact ⟨F.ns.at' fun ob e => k L ob (Ne.symm z.2.1) e, fun b ob e => k b ob (fun q => by have := z.2.2; rw [← q, e] at this; cases this) (F.keep b ob e), F.above⟩
theorem news_but (N : News g L h news) (U : Upd S o o' news news') (k : ∀ b ob, b ≠ S → h.get? b = some ob → h'.get? b = some ob) (hS : h'.get? S = some o') : News g L h' news' := by
  obtain ⟨pre, post, rfl, rfl, a, c⟩ := U.split
  intro p hp
  rcases List.mem_append.mp hp with hp | hp
  · have z := N p (List.mem_append_left _ hp)
    exact ⟨k _ _ (a p hp) z.1, z.2⟩
  · rcases List.mem_cons.mp hp with rfl | hp
    · have z := N (S, o) (List.mem_append.mpr (.inr (.head _)))
      exact ⟨hS, z.2⟩
    · have z := N p (List.mem_append_right _ (.tail _ hp))
      exact ⟨k _ _ (c p hp) z.1, z.2⟩
end
section
variable {prog : Program} {w : World} {A : Around} {E : Value → Shared → Prop} {gs : Array GenState} {dr : Drawn} {tk : Nat} {os : OsState} {h g : Heap} {L a : Addr} {mm : Str → Option Value} {news : Ledger} {Q : Value → Shared → Prop} {t u : Tok} {name : Str} {scope : Scope} {cd : Value}
/-- xs[:k] of a list that stands -/
theorem x_sll {l : Addr} {vs : List Value} {k : Int} {value slice : Expr} {ns : List Int} (F : Fr g L h mm) (N : News g L h news) (hl : Heap.IsList h l vs.toArray) (hi : IntsAre vs ns) (hk : 0 ≤ k) (hz : vs.length ≤ 1000)
    (hs : ∀ h : Heap, subscripted slice false (.ref l) (.ref h.objs.size) = operate [.ref h.objs.size, .ref l] (getItem (.ref l) (.ref h.objs.size))) (ht : ∀ r, letTemporaryGo value (.ref l) r = pure ())
    (H : ∀ h' u cells, IntsAre cells (ns.take k.toNat) → (∀ p ∈ news, p.1 ≠ u) → Fr g L h' mm → News g L h' ((u, lob cells 0) :: news) → Q (.ref u) ⟨h', gs, dr, tk, os⟩) :
    SlQ (fun i s₂ => wpAny (model prog w) A (subscriptTail value slice (.ref l) i) Q E s₂) .none (.int k t) ⟨h, gs, dr, tk, os⟩ :=
  slice_list (s := ⟨h, gs, dr, tk, os⟩) (items := vs.toArray) F N hl .none (.int k t) (fun h' F' N' => by
    refine H h' _ (slicePick vs.toArray none (some k) none).toList (slice_ints_uptoW hi hk) (fun p hp e => ?_) F' (by simpa [lob] using N')
    have z := (N p hp).1
    have := Heap.lt_size z
    rw [e] at this
    exact Nat.lt_irrefl _ (Nat.lt_of_succ_lt this)) (hs h) ht (by rw [List.size_toArray, sizeLine_eq]; omega)
/-- range(n) -/
theorem x_range {i : Int} (F : Fr g L h mm) (N : News g L h news) (H : ∀ h' u tk' t1 t2, (∀ p ∈ news, p.1 ≠ u) → Fr g L h' mm → News g L h' ((u, { cls := .type "range", data := .fields #[.int 0 t1, .int i t, .int 1 t2] }) :: news) → Q (.ref u) ⟨h', gs, dr, tk', os⟩) :
    wpAny (model prog w) A (call (.type "range") [.int i t]) Q E ⟨h, gs, dr, tk, os⟩ := by
  refine call_range_1 (s := ⟨h, gs, dr, tk, os⟩) ?_
  refine H _ _ _ tk (tk + 1) (news_lt N) (F.push _) ?_
  exact News.push F N _
/-- a for loop over a range of n -/
theorem x_iter_range {r : Addr} {n : Nat} {t1 t2 t3 : Tok} {env : Env} {target : Expr} {body : List Stmt} {R : Result → Shared → Prop} (hh : A.handled = none) (hn : n ≤ 1000000) (J : Nat → (Str → Option Value) → Ledger → Array GenState → Prop) (h0 : J 0 mm news gs) (F : Fr g L h mm) (N : News g L h news)
    (hr : h.get? r = some { cls := .type "range", data := .fields #[.int 0 t1, .int (n : Int) t2, .int 1 t3] })
    (turn : ∀ (i : Nat) u m news gs' h tk own I, i < n → J i m news gs' → Fr g L h m → News g L h (own ++ news) → (∀ p ∈ own, p.1 = I) → (∃ o, (I, o) ∈ own) → (∀ p ∈ news, p.1 ≠ I) →
      wpAny (model prog w) A (assign target env (.int (i : Int) u)) (fun _ s₂ => wpAny (model prog w) A (execs body env) (fun f s₃ => match f with
          | .next | .cont => ∃ m' news' gs'' h' tk', s₃ = ⟨h', gs'', dr, tk', os⟩ ∧ J (i + 1) m' news' gs'' ∧ Fr g L h' m' ∧ News g L h' (own ++ news') ∧ ∀ p ∈ news', p.1 ≠ I
          | .brk => R (.ok .next) s₃
          | .ret v => R (.ok (.ret v)) s₃) (notedBy (model prog w) A env fun e s' => R (.error e) s') s₂) (notedBy (model prog w) A env fun e s' => R (.error e) s') ⟨h, gs', dr, tk, os⟩)
    (done : ∀ m' news' gs' h' tk', J n m' news' gs' → Fr g L h' m' → News g L h' news' → R (.ok .next) ⟨h', gs', dr, tk', os⟩)
    (ht : ∀ I v, letOwnedTupleGo target (.ref I) v = pure ()) :
    wpAny (model prog w) A (pyIter (.ref r)) (fun it s₂ => codeAny (model prog w) A (.forLoop target it body [] env) R s₂) E ⟨h, gs, dr, tk, os⟩ := by
  refine wpAny_pyIter_range (s := ⟨h, gs, dr, tk, os⟩) (a := 0) (b := n) (c := 1) hr (small_one (by omega) (by omega) (by omega) (by omega)) ?_
  have hsz : Builtin.Range.rangeSize 0 (n : Int) 1 = (n : Int) := by rw [rangeSize_one]; split <;> omega
  have hI : ∀ p ∈ news, p.1 ≠ h.objs.size := news_lt N
  have hLI : L ≠ h.objs.size := Nat.ne_of_lt F.ns.lt
  refine loop_own (Walks.range hh h.objs.size 0 1 n) (by simpa using hLI) (fun b hb => ?_) (fun i h' st b hb => ?_) J h0 (F.push _) (fun p hp => ⟨Heap.get?_push_of_some _ (N p hp).1, (N p hp).2⟩) (fun p hp => by simpa using hI p hp) (by show IsRangeIter _ _ _ _ _; rw [hsz]; simpa using Heap.get?_push_size _ rfl) ?_ (fun m' news' gs' h' tk' hJ F' N' => done m' news' gs' h' tk' hJ F' N') (ht _)
  · rw [List.mem_singleton.mp hb]
    cases q : g.get? h.objs.size with
    | none => rfl
    | some o => exact absurd (Heap.lt_size (F.keep _ _ q)) (Nat.lt_irrefl _)
  · rw [List.mem_singleton.mp hb]
    exact ⟨_, st⟩
  · rintro i v m news gs' h' tk' own hi ⟨u, rfl⟩ hJ F' N' hown hnw hlive
    have := turn i u m news gs' h' tk' own h.objs.size hi hJ F' N' (fun p hp => by simpa using hown p hp) (hlive _ (by simp)) (fun p hp => by simpa using hnw p hp)
    rw [show (0 : Int) + (i : Int) * 1 = (i : Int) by omega]
    refine wpAny_mono this (fun _ s₂ h₂ => wpAny_mono h₂ (fun f s₃ h₃ => ?_) fun _ _ z => z) fun _ _ z => z
    cases f with
    | next => obtain ⟨m', news', gs'', h'', tk'', e, a, b, c, d⟩ := h₃; exact ⟨m', news', gs'', h'', tk'', e, a, b, c, fun p hp => by simpa using d p hp⟩
    | cont => obtain ⟨m', news', gs'', h'', tk'', e, a, b, c, d⟩ := h₃; exact ⟨m', news', gs'', h'', tk'', e, a, b, c, fun p hp => by simpa using d p hp⟩
    | brk => exact h₃
    | ret v => exact h₃
/-- bytes([i]) -/
theorem x_bytes1 {l : Addr} {i : Int} {n : Nat} (F : Fr g L h mm) (N : News g L h news) (hl : h.get? l = some (lob [.int i t] n)) (h0 : 0 ≤ i) (h1 : i < 256) (hh : A.handled = none)
    (H : ∀ h' t' tk', Fr g L h' mm → News g L h' news → Q (.bytes [UInt8.ofNat i.toNat].toArray t') ⟨h', gs, dr, tk', os⟩) : wpAny (model prog w) A (call (.type "bytes") [.ref l]) Q E ⟨h, gs, dr, tk, os⟩ := by
  refine PySem.call_bytes_ints (s := ⟨h, gs, dr, tk, os⟩) (vs := [.int i t]) (ns := [i]) ⟨_, hl, rfl, n, rfl⟩ (.cons i t .nil) (by simpa using ⟨h0, h1⟩) (by rw [sizeLine_eq]; simp) hh fun h' t' tk' k => ?_
  exact H h' t' tk' (F.keeps k) (news_ke N k)
/-- b * n -/
theorem x_bmul {b : UInt8} {i : Int} (h2 : 2 ≤ i) (hn : i ≤ 100000) (H : ∀ t' tk', Q (.bytes (List.replicate i.toNat b).toArray t') ⟨h, gs, dr, tk', os⟩) : wpAny (model prog w) A (binaryOp .Mult (.bytes [b].toArray t) (.int i u)) Q E ⟨h, gs, dr, tk, os⟩ :=
  bytes_mul_K (s := ⟨h, gs, dr, tk, os⟩) (b := [b]) (d := List.replicate i.toNat b) (by simp) h2 (by omega) (by simp; omega) (by
    have : ∀ n, (List.replicate n [b]).flatten = List.replicate n b := by
      intro n
      induction n with
      | zero => rfl
      | succ n ih => rw [List.replicate_succ, List.flatten_cons, ih]; rfl
    exact this _) fun t' k => H t' k
theorem x_strint {i : Int} (hi : i.natAbs < 2 ^ 70) (H : ∀ t' tk', Q (.str (Str.ofString (toString i)) t') ⟨h, gs, dr, tk', os⟩) : wpAny (model prog w) A (call (.type "str") [.int i t]) Q E ⟨h, gs, dr, tk, os⟩ := by
  have hl : i.natAbs.log2 < 70 := by
    by_cases h0 : i.natAbs = 0
    · rw [h0]; decide
    · exact (Nat.log2_lt h0).mpr hi
  exact PySem.P.str_of_int (s := ⟨h, gs, dr, tk, os⟩) (Nat.lt_trans hl (by decide)) (H _ _)
/-- a call without arguments -/
theorem x_call0 {x : Str} {np pos : Pos} {f : Addr} {o : Obj} {fd : FuncData} (F : Fr g L h mm) (B : Base w g) (hv : globs.lookup x = some (.ref f)) (hk : scope.kind = .function) (hl : scope.names.lookup x = some .globalImplicit)
    (hd : (x == ("__debug__" : Str)) = false) (ho : (objs w.params).lookup f = some o) (hdat : o.data = .func fd)
    (H : wpAny (model pw w) A (call (.ref f) []) Q E ⟨h, gs, dr, tk, os⟩) : wpAny (model pw w) A (eval (.Call (.Name x np) [] [] pos) (envOf name scope L a cd)) Q E ⟨h, gs, dr, tk, os⟩ := by
  refine wpAny_Call_ofName (x_glob F B hv hk hl hd ?_)
  exact Calls.callWith_function (o := o) (fd := fd) (PyProof.Rows.evalArgs_none ⟨⟨(B.keeps F.keep).get ho, hdat⟩, by simpa using H⟩)
end
end

section
/-! the order of the octets (02) -/
/-- the first place where two rows of octets part, and how -/
def Less (a b : List UInt8) : Prop := ∃ p x y s t, a = p ++ x :: s ∧ b = p ++ y :: t ∧ x.toNat < y.toNat
theorem Less.front {a b : List UInt8} (p : List UInt8) (h : Less a b) : Less (p ++ a) (p ++ b) := by
  obtain ⟨q, x, y, s, t, rfl, rfl, hl⟩ := h
  exact ⟨p ++ q, x, y, s, t, by simp, by simp, hl⟩
theorem Less.behind {a b : List UInt8} (u v : List UInt8) (h : Less a b) : Less (a ++ u) (b ++ v) := by
  obtain ⟨q, x, y, s, t, rfl, rfl, hl⟩ := h
  exact ⟨q, x, y, s ++ u, t ++ v, by simp, by simp, hl⟩
theorem Less.head {x y : UInt8} (s t : List UInt8) (h : x.toNat < y.toNat) : Less (x :: s) (y :: t) := ⟨[], x, y, s, t, rfl, rfl, h⟩
theorem Less.ne {a b : List UInt8} (h : Less a b) : a ≠ b := by
  obtain ⟨q, x, y, s, t, rfl, rfl, hl⟩ := h
  intro e
  have := List.append_cancel_left e
  injection this with e1 _
  rw [e1] at hl
  exact Nat.lt_irrefl _ hl
theorem Less.asymm {a b : List UInt8} (h : Less a b) : ¬ Less b a := by
  intro k
  obtain ⟨q, x, y, s, t, rfl, rfl, hl⟩ := h
  obtain ⟨q', x', y', s', t', e1, e2, hl'⟩ := k
  have hx : (q ++ x :: s)[q.length]? = some x := by simp
  have hy : (q ++ y :: t)[q.length]? = some y := by simp
  have hx' : (q' ++ y' :: t')[q'.length]? = some y' := by simp
  have hy' : (q' ++ x' :: s')[q'.length]? = some x' := by simp
  rcases Nat.lt_trichotomy q.length q'.length with h | h | h
  · have a1 : (q' ++ x' :: s')[q.length]? = q'[q.length]? := List.getElem?_append_left h
    have a2 : (q' ++ y' :: t')[q.length]? = q'[q.length]? := List.getElem?_append_left h
    rw [← e1, hy] at a1
    rw [← e2, hx] at a2
    have := a1.trans a2.symm
    injection this with this
    rw [this] at hl
    exact Nat.lt_irrefl _ hl
  · rw [e1, h, hy'] at hy
    rw [e2, h, hx'] at hx
    injection hy with hy
    injection hx with hx
    rw [hy, hx] at hl'
    omega
  · have a1 : (q ++ x :: s)[q'.length]? = q[q'.length]? := List.getElem?_append_left h
    have a2 : (q ++ y :: t)[q'.length]? = q[q'.length]? := List.getElem?_append_left h
    rw [e2, hx'] at a1
    rw [e1, hy'] at a2
    have := a1.trans a2.symm
    injection this with this
    rw [this] at hl'
    exact Nat.lt_irrefl _ hl'
/-- octets of one length: the same, or less, or more -/
theorem less_tri : ∀ (a b : List UInt8), a.length = b.length → a = b ∨ Less a b ∨ Less b a
  | [], [], _ => .inl rfl
  | [], _ :: _, h => by simp at h
  | _ :: _, [], h => by simp at h
  | x :: a, y :: b, h => by
    rcases Nat.lt_trichotomy x.toNat y.toNat with e | e | e
    · exact .inr (.inl (.head _ _ e))
    · have e' : x = y := UInt8.toNat_inj.mp e
      subst e'
      rcases less_tri a b (by simpa using h) with k | k | k
      · exact .inl (by rw [k])
      · exact .inr (.inl (k.front [x]))
      · exact .inr (.inr (k.front [x]))
    · exact .inr (.inr (.head _ _ e))
/-- heads are in the order of the sizes -/
theorem preB_less {m n o : Nat} (h : m < n) (hn : n < 65536) (ho : o ≤ 192) : Less (preB m o) (preB n o) := by
  unfold preB
  have e : ∀ k, k < 256 → (UInt8.ofNat k).toNat = k := fun k hk => by simp; omega
  by_cases h1 : n < 56
  · rw [if_pos (by omega), if_pos h1]
    exact .head _ _ (by rw [e _ (by omega), e _ (by omega)]; omega)
  · rw [if_neg h1]
    by_cases h2 : m < 56
    · rw [if_pos h2]
      have := lenB_le n
      have hp : 0 < (lenB n).length := by unfold lenB; split <;> simp
      exact .head _ _ (by rw [e _ (by omega), e _ (by omega)]; omega)
    · rw [if_neg h2]
      unfold lenB
      by_cases h3 : n < 256
      · rw [if_pos h3, if_pos (show m < 256 by omega)]
        refine Less.front [_] (.head _ _ ?_)
        rw [e _ (by omega), e _ (by omega)]
        omega
      · rw [if_neg h3]
        by_cases h4 : m < 256
        · rw [if_pos h4]
          refine .head _ _ ?_
          simp only [List.length_cons, List.length_nil]
          rw [e _ (by omega), e _ (by omega)]
          omega
        · rw [if_neg h4]
          refine Less.front [_] ?_
          by_cases h5 : m / 256 = n / 256
          · rw [h5]
            refine Less.front [_] (.head _ _ ?_)
            rw [e _ (by omega), e _ (by omega)]
            omega
          · refine .head _ _ ?_
            rw [e _ (by omega), e _ (by omega)]
            omega
end

section
open Builtin in
/-- bytes < bytes -/
theorem slot_blt : Slot "bytes" (cmpInfo .Lt).2.1 "bytes.__lt__" :=
  .of (owner := "bytes") (n := "__lt__") (by rw [typeLookup_type, builtinLookup_eq_fast]; kernel_rfl) (by decide +kernel) (by decide +kernel) (by decide +kernel)
    (by first | exact .inl (by decide +kernel) | exact .inr (by decide +kernel)) (by rw [isSubtype_type]; kernel_rfl)
theorem entry_blt : entryFor table "bytes.__lt__" = some Builtin.«bytes.__lt__» := entryFor_of_fast (by kernel_rfl)
theorem args_blt (a b : Value) : argsOk "bytes.__lt__" ⟨[a, b], []⟩ := by unfold argsOk; kernel_rfl
theorem gives_blt (b c : Array UInt8) (t u : Tok) : Gives (Builtin.«bytes.__lt__» ⟨[.bytes b t, .bytes c u], []⟩) (.val (.bool (Builtin.Bytes.order b.toList c.toList == .lt))) := by
  refine .of_wp fun M A E s Q hq => ?_
  show wpAny M A (isInstance (.bytes c u) (.type "bytes") >>= fun r => _) _ E s
  refine wpAny_bind (wpAny_isInstance (typeIs_bytes s c u) PySem.F.sub_bytes_bytes ?_)
  exact wpAny_pure ⟨_, rfl, hq⟩
def ltB (a b : List UInt8) : Bool := Builtin.Bytes.order a b == .lt
theorem x_bltt {prog : Program} {w : World} {A : Around} {E : Value → Shared → Prop} {s : Shared} {b c : List UInt8} {t u : Tok} {Q : Value → Shared → Prop} (h : Q (.bool (ltB b c)) s) : wpAny (model prog w) A (compareOp .Lt (.bytes b.toArray t) (.bytes c.toArray u)) Q E s :=
  compareOp_gives (op := .Lt) (typeIs_bytes s b.toArray t) (typeIs_bytes s c.toArray u) slot_blt entry_blt (args_blt _ _) (gives_blt b.toArray c.toArray t u) (fun e => nomatch e) h
theorem order_front : ∀ (p a b : List UInt8), Builtin.Bytes.order (p ++ a) (p ++ b) = Builtin.Bytes.order a b
  | [], _, _ => rfl
  | x :: p, a, b => by
    show (if x < x then _ else if x > x then _ else Builtin.Bytes.order (p ++ a) (p ++ b)) = _
    rw [if_neg (UInt8.lt_irrefl _), if_neg (UInt8.lt_irrefl _), order_front p a b]
theorem less_lt {a b : List UInt8} (h : Less a b) : ltB a b = true := by
  obtain ⟨p, x, y, s, t, rfl, rfl, hl⟩ := h
  unfold ltB
  rw [order_front]
  show ((if x < y then _ else _) == Ordering.lt) = true
  rw [if_pos (UInt8.lt_iff_toNat_lt.mpr hl)]
  rfl
theorem more_lt {a b : List UInt8} (h : Less b a) : ltB a b = false := by
  obtain ⟨p, x, y, s, t, rfl, rfl, hl⟩ := h
  unfold ltB
  rw [order_front]
  show ((if y < x then _ else if y > x then _ else _) == Ordering.lt) = false
  rw [if_neg (fun q => by have := UInt8.lt_iff_toNat_lt.mp q; omega), if_pos (UInt8.lt_iff_toNat_lt.mpr hl)]
  rfl
theorem ltB_refl : ∀ (a : List UInt8), ltB a a = false
  | [] => rfl
  | x :: a => by
    have := order_front [x] a a
    unfold ltB at *
    have e := ltB_refl a
    unfold ltB at e
    rw [show x :: a = [x] ++ a from rfl, this, e]
end

section
/-- a single octet that stands for itself -/
def single (x : List UInt8) : Bool := x.length == 1 && decide ((x.getD 0 0).toNat < 128)
def tagT : Tr → Int
  | .b x => if single x then 0 else 1
  | .l _ => 2
def keyT : Tr → Int
  | .b x => if single x then (x.getD 0 0).toNat else x.length
  | .l ts => (encTs ts).length
mutual
/-- the law's comparison of two trees -/
def cmpT : Tr → Tr → Int
  | .b x, t => if tagT (.b x) ≠ tagT t then (if tagT (.b x) < tagT t then -1 else 1) else if keyT (.b x) ≠ keyT t then (if keyT (.b x) < keyT t then -1 else 1)
    else match t with
      | .b y => if x ≠ y then (if ltB x y then -1 else 1) else 0
      | .l _ => 0
  | .l ts, t => if tagT (.l ts) ≠ tagT t then (if tagT (.l ts) < tagT t then -1 else 1) else if keyT (.l ts) ≠ keyT t then (if keyT (.l ts) < keyT t then -1 else 1)
    else match t with
      | .b _ => 0
      | .l us => cmpTs ts us
def cmpTs : List Tr → List Tr → Int
  | [], us => -(us.length : Int)
  | t :: ts, us => match us with
    | [] => (ts.length : Int) + 1
    | u :: us => if cmpT t u ≠ 0 then cmpT t u else cmpTs ts us
end
theorem tag_s {x : List UInt8} (h : single x = true) : tagT (.b x) = 0 := by simp [tagT, h]
theorem tag_n {x : List UInt8} (h : single x = false) : tagT (.b x) = 1 := by simp [tagT, h]
theorem tag_l {ts : List Tr} : tagT (.l ts) = 2 := by simp [tagT]
theorem tag_b (x : List UInt8) : tagT (.b x) = 0 ∨ tagT (.b x) = 1 := by
  cases h : single x with
  | true => exact .inl (tag_s h)
  | false => exact .inr (tag_n h)
theorem encB_single {x : List UInt8} (h : single x = true) : encT (.b x) = x := by
  unfold single at h
  rw [encT, if_pos]
  simpa using h
theorem encB_long {x : List UInt8} (h : single x = false) : encT (.b x) = preB x.length 128 ++ x := by
  unfold single at h
  rw [encT, if_neg]
  rintro ⟨q1, q2⟩
  rw [q1, Bool.and_eq_false_iff] at h
  rcases h with h | h
  · cases h
  · exact absurd q2 (by simpa using h)
theorem single_eq {x : List UInt8} (h : single x = true) : ∃ c : UInt8, x = [c] ∧ c.toNat < 128 := by
  unfold single at h
  match x with
  | [c] => exact ⟨c, rfl, by simpa using h⟩
  | [] => simp at h
  | _ :: _ :: _ => simp at h
theorem pre_first (n o : Nat) (hn : n < 65536) (ho : o ≤ 192) : ∃ c s, preB n o = c :: s ∧ o ≤ c.toNat ∧ c.toNat < o + 58 := by
  have hl : (lenB n).length ≤ 2 := lenB_le n
  unfold preB
  split
  · exact ⟨_, _, rfl, by simp; omega, by simp; omega⟩
  · exact ⟨_, _, rfl, by simp; omega, by simp; omega⟩
/-- the first octet says the class -/
theorem first_of (t : Tr) (h : (encT t).length < 65536) : ∃ c s, encT t = c :: s ∧ (tagT t = 0 → c.toNat < 128) ∧ (tagT t = 1 → 128 ≤ c.toNat ∧ c.toNat < 192) ∧ (tagT t = 2 → 192 ≤ c.toNat) := by
  cases t with
  | b x =>
    cases hs : single x with
    | true =>
      obtain ⟨c, rfl, hc⟩ := single_eq hs
      rw [encB_single hs]
      have ht := tag_s hs
      exact ⟨c, [], rfl, fun _ => hc, (fun q => by omega), (fun q => by omega)⟩
    | false =>
      have e := encB_long hs
      rw [e] at h ⊢
      rw [List.length_append] at h
      obtain ⟨c, s, e2, h1, h2⟩ := pre_first x.length 128 (by omega) (by decide)
      rw [e2]
      have ht := tag_n hs
      exact ⟨c, s ++ x, rfl, (fun q => by omega), (fun _ => ⟨h1, by omega⟩), (fun q => by omega)⟩
  | l ts =>
    rw [encT] at h ⊢
    rw [List.length_append] at h
    obtain ⟨c, s, e2, h1, h2⟩ := pre_first (encTs ts).length 192 (by omega) (by decide)
    rw [e2]
    have ht := tag_l (ts := ts)
    exact ⟨c, s ++ encTs ts, rfl, (fun q => by omega), (fun q => by omega), fun _ => h1⟩
theorem tag_range (t : Tr) : tagT t = 0 ∨ tagT t = 1 ∨ tagT t = 2 := by
  cases t with
  | b x => rcases tag_b x with h | h <;> simp [h]
  | l ts => simp [tag_l]
theorem tag_less {a b : Tr} (ha : (encT a).length < 65536) (hb : (encT b).length < 65536) (h : tagT a < tagT b) : Less (encT a) (encT b) := by
  obtain ⟨c, s, e, h0, h1, h2⟩ := first_of a ha
  obtain ⟨c', s', e', h0', h1', h2'⟩ := first_of b hb
  rw [e, e']
  refine .head _ _ ?_
  rcases tag_range a with q | q | q <;> rcases tag_range b with r | r | r <;> (rw [q, r] at h)
  all_goals first
    | omega
    | (have := h0 q; have := h1' r; omega)
    | (have := h0 q; have := h2' r; omega)
    | (have := h1 q; have := h2' r; omega)
theorem key_less {a b : Tr} (ha : (encT a).length < 65536) (hb : (encT b).length < 65536) (ht : tagT a = tagT b) (h : keyT a < keyT b) : Less (encT a) (encT b) := by
  cases a with
  | b x =>
    cases b with
    | l us => have := tag_b x; have := tag_l (ts := us); omega
    | b y =>
      cases hx : single x with
      | true =>
        have hy : single y = true := by
          cases hy : single y with
          | true => rfl
          | false => have := tag_s hx; have := tag_n hy; omega
        obtain ⟨c, rfl, hc⟩ := single_eq hx
        obtain ⟨d, rfl, hd⟩ := single_eq hy
        rw [encB_single hx, encB_single hy]
        simp only [keyT, hx, hy, if_true] at h
        exact .head _ _ (by simpa using h)
      | false =>
        have hy : single y = false := by
          cases hy : single y with
          | false => rfl
          | true => have := tag_n hx; have := tag_s hy; omega
        rw [encB_long hx, encB_long hy]
        rw [encB_long hy, List.length_append] at hb
        simp only [keyT, hx, hy, Bool.false_eq_true, if_false] at h
        exact (preB_less (by omega) (by omega) (by decide)).behind _ _
  | l ts =>
    cases b with
    | b y => have := tag_b y; have := tag_l (ts := ts); omega
    | l us =>
      rw [encT, encT]
      rw [encT, List.length_append] at hb
      simp only [keyT] at h
      exact (preB_less (by omega) (by omega) (by decide)).behind _ _
end

section
def Tri (a b : List UInt8) (same : Prop) (c : Int) : Prop := (c = 0 → same) ∧ (c < 0 → Less a b) ∧ (0 < c → Less b a)
theorem Tri.lt {a b : List UInt8} {p : Prop} (h : Less a b) : Tri a b p (-1) := ⟨fun q => absurd q (by decide), fun _ => h, fun q => absurd q (by decide)⟩
theorem Tri.gt {a b : List UInt8} {p : Prop} (h : Less b a) : Tri a b p 1 := ⟨fun q => absurd q (by decide), fun q => absurd q (by decide), fun _ => h⟩
theorem Tri.eq {a b : List UInt8} {p : Prop} (h : p) : Tri a b p 0 := ⟨fun _ => h, fun q => absurd q (by decide), fun q => absurd q (by decide)⟩
/-- what stands ahead of the last look: classes and keys -/
theorem tri_keys {a b : Tr} {p : Prop} {last : Int} (ha : (encT a).length < 65536) (hb : (encT b).length < 65536) (h : tagT a = tagT b → keyT a = keyT b → Tri (encT a) (encT b) p last) :
    Tri (encT a) (encT b) p (if tagT a ≠ tagT b then (if tagT a < tagT b then -1 else 1) else if keyT a ≠ keyT b then (if keyT a < keyT b then -1 else 1) else last) := by
  by_cases h1 : tagT a = tagT b
  · rw [if_neg (by simpa using h1)]
    by_cases h2 : keyT a = keyT b
    · rw [if_neg (by simpa using h2)]
      exact h h1 h2
    · rw [if_pos h2]
      by_cases h3 : keyT a < keyT b
      · rw [if_pos h3]; exact .lt (key_less ha hb h1 h3)
      · rw [if_neg h3]; exact .gt (key_less hb ha h1.symm (by omega))
  · rw [if_pos h1]
    by_cases h3 : tagT a < tagT b
    · rw [if_pos h3]; exact .lt (tag_less ha hb h3)
    · rw [if_neg h3]; exact .gt (tag_less hb ha (by omega))
theorem tag_bl {x : List UInt8} {us : List Tr} : tagT (.b x) ≠ tagT (.l us) := by
  have := tag_b x
  have := tag_l (ts := us)
  omega
mutual
theorem cmp_spec : ∀ (a b : Tr), (encT a).length < 65536 → (encT b).length < 65536 → Tri (encT a) (encT b) (a = b) (cmpT a b)
  | .b x, t, ha, hb => by
    unfold cmpT
    refine tri_keys ha hb fun h1 h2 => ?_
    cases t with
    | l us => exact absurd h1 tag_bl
    | b y =>
      dsimp only
      by_cases hxy : x = y
      · rw [if_neg (by simpa using hxy)]
        exact .eq (by rw [hxy])
      · rw [if_pos hxy]
        cases hx : single x with
        | true =>
          have hy : single y = true := by
            cases hy : single y with
            | true => rfl
            | false => have := tag_s hx; have := tag_n hy; omega
          obtain ⟨c, rfl, hc⟩ := single_eq hx
          obtain ⟨d, rfl, hd⟩ := single_eq hy
          simp only [keyT, hx, hy, if_true] at h2
          have e0 : ((c.toNat : Nat) : Int) = d.toNat := by simpa using h2
          have e : c = d := UInt8.toNat_inj.mp (by omega)
          exact absurd (by rw [e]) hxy
        | false =>
          have hy : single y = false := by
            cases hy : single y with
            | false => rfl
            | true => have := tag_n hx; have := tag_s hy; omega
          simp only [keyT, hx, hy, Bool.false_eq_true, if_false] at h2
          rw [encB_long hx, encB_long hy]
          have hl : x.length = y.length := by omega
          rcases less_tri x y hl with k | k | k
          · exact absurd k hxy
          · rw [if_pos (less_lt k), hl]; exact .lt (k.front _)
          · rw [if_neg (by rw [more_lt k]; decide), hl]; exact .gt (k.front _)
  | .l ts, t, ha, hb => by
    unfold cmpT
    refine tri_keys ha hb fun h1 h2 => ?_
    cases t with
    | b y => exact absurd h1.symm tag_bl
    | l us =>
      dsimp only
      have hl0 : (((encTs ts).length : Nat) : Int) = (encTs us).length := by simpa [keyT] using h2
      have hl : (encTs ts).length = (encTs us).length := by omega
      rw [encT, List.length_append] at ha hb
      have := cmps_spec ts us (by omega) (by omega) hl
      rw [encT, encT, hl]
      exact ⟨fun q => by rw [this.1 q], fun q => (this.2.1 q).front _, fun q => (this.2.2 q).front _⟩
theorem cmps_spec : ∀ (ts us : List Tr), (encTs ts).length < 65536 → (encTs us).length < 65536 → (encTs ts).length = (encTs us).length → Tri (encTs ts) (encTs us) (ts = us) (cmpTs ts us)
  | [], [], _, _, _ => by unfold cmpTs; exact .eq rfl
  | [], u :: us, _, _, h => by
    have e1 : (encTs (u :: us)).length = (encT u).length + (encTs us).length := by rw [encTs, List.length_append]
    have e0 : (encTs []).length = 0 := by simp [encTs]
    have := encT_pos u
    omega
  | t :: ts, [], _, _, h => by
    have e1 : (encTs (t :: ts)).length = (encT t).length + (encTs ts).length := by rw [encTs, List.length_append]
    have e0 : (encTs []).length = 0 := by simp [encTs]
    have := encT_pos t
    omega
  | t :: ts, u :: us, ha, hb, h => by
    unfold cmpTs
    dsimp only
    have e1 : (encTs (t :: ts)).length = (encT t).length + (encTs ts).length := by rw [encTs, List.length_append]
    have e2 : (encTs (u :: us)).length = (encT u).length + (encTs us).length := by rw [encTs, List.length_append]
    have h1 := cmp_spec t u (by omega) (by omega)
    rw [encTs, encTs]
    by_cases hc : cmpT t u = 0
    · rw [if_neg (by simpa using hc)]
      have e := h1.1 hc
      subst e
      have h2 := cmps_spec ts us (by omega) (by omega) (by omega)
      exact ⟨fun q => by rw [h2.1 q], fun q => (h2.2.1 q).front _, fun q => (h2.2.2 q).front _⟩
    · rw [if_pos hc]
      exact ⟨fun q => absurd q hc, fun q => (h1.2.1 q).behind _ _, fun q => (h1.2.2 q).behind _ _⟩
end
/-- the octets of two trees are the same exactly where the trees are, and in the order of the comparison -/
theorem cmp_enc {a b : Tr} (ha : (encT a).length < 65536) (hb : (encT b).length < 65536) : (cmpT a b = 0 ↔ encT a = encT b) ∧ (cmpT a b < 0 ↔ ltB (encT a) (encT b) = true) := by
  have h := cmp_spec a b ha hb
  rcases Int.lt_trichotomy (cmpT a b) 0 with q | q | q
  · have k := h.2.1 q
    exact ⟨⟨fun e => by omega, fun e => absurd e k.ne⟩, ⟨fun _ => less_lt k, fun _ => q⟩⟩
  · have e := h.1 q
    subst e
    exact ⟨⟨fun _ => rfl, fun _ => q⟩, ⟨fun e => by omega, fun e => by rw [ltB_refl] at e; cases e⟩⟩
  · have k := h.2.2 q
    exact ⟨⟨fun e => by omega, fun e => absurd e.symm k.ne⟩, ⟨fun e => by omega, fun e => by rw [more_lt k] at e; cases e⟩⟩
end

section
/-! what consume_length_prefix answers, case by case -/
section
variable {o : List UInt8} {st : Int}
theorem clp_a (h1 : (o.length : Int) ≤ st) : clp o st = .index := by unfold clp; rw [if_pos h1]
theorem clp_b (h1 : ¬ (o.length : Int) ≤ st) (h2 : ((o.getD st.toNat 0).toNat : Int) < 128) : clp o st = .ok [] "bytes" 1 st := by unfold clp; dsimp only; rw [if_neg h1, if_pos h2]
theorem clp_c (h1 : ¬ (o.length : Int) ≤ st) (h2 : ((o.getD st.toNat 0).toNat : Int) = 129) (h3 : (o.length : Int) ≤ st + 1) : clp o st = .index := by unfold clp; dsimp only; rw [if_neg h1, if_neg (by omega), if_pos (by omega), if_pos (by omega), if_pos h3]
theorem clp_d (h1 : ¬ (o.length : Int) ≤ st) (h2 : ((o.getD st.toNat 0).toNat : Int) = 129) (h3 : ¬ (o.length : Int) ≤ st + 1) (h4 : ((o.getD (st + 1).toNat 0).toNat : Int) < 128) : clp o st = .dec "Encoded as short string although single byte was possible" := by unfold clp; dsimp only; rw [if_neg h1, if_neg (by omega), if_pos (by omega), if_pos (by omega), if_neg h3, if_pos h4]
theorem clp_e (h1 : ¬ (o.length : Int) ≤ st) (h2 : ¬ ((o.getD st.toNat 0).toNat : Int) < 128) (h3 : ((o.getD st.toNat 0).toNat : Int) < 184) (h4 : ¬ (((o.getD st.toNat 0).toNat : Int) = 129 ∧ ((o.length : Int) ≤ st + 1 ∨ ((o.getD (st + 1).toNat 0).toNat : Int) < 128))) : clp o st = .ok (sl o (some st) (some (st + 1))) "bytes" (((o.getD st.toNat 0).toNat : Int) - 128) (st + 1) := by
  unfold clp; dsimp only
  rw [if_neg h1, if_neg h2, if_pos h3]
  by_cases h5 : ((o.getD st.toNat 0).toNat : Int) - 128 = 1
  · rw [if_pos h5, if_neg (by omega), if_neg (by omega)]
  · rw [if_neg h5]
theorem clp_f (h1 : ¬ (o.length : Int) ≤ st) (h2 : ¬ ((o.getD st.toNat 0).toNat : Int) < 184) (h3 : ((o.getD st.toNat 0).toNat : Int) < 192) : clp o st = if (sl o (some (st + 1)) (some (st + 2)) == [0]) = true then .dec "Length starts with zero bytes"
    else if be (sl o (some (st + 1)) (some (st + 1 + (((o.getD st.toNat 0).toNat : Int) - 183)))) < 56 then .dec "Long string prefix used for short string" else .ok (sl o (some st) (some (st + 1)) ++ sl o (some (st + 1)) (some (st + 1 + (((o.getD st.toNat 0).toNat : Int) - 183)))) "bytes" (be (sl o (some (st + 1)) (some (st + 1 + (((o.getD st.toNat 0).toNat : Int) - 183))))) (st + 1 + (((o.getD st.toNat 0).toNat : Int) - 183)) := by
  unfold clp; dsimp only
  rw [if_neg h1, if_neg (by omega), if_neg h2, if_pos h3]
theorem clp_g (h1 : ¬ (o.length : Int) ≤ st) (h2 : ¬ ((o.getD st.toNat 0).toNat : Int) < 192) (h3 : ((o.getD st.toNat 0).toNat : Int) < 248) : clp o st = .ok (sl o (some st) (some (st + 1))) "list" (((o.getD st.toNat 0).toNat : Int) - 192) (st + 1) := by
  unfold clp; dsimp only
  rw [if_neg h1, if_neg (by omega), if_neg (by omega), if_neg h2, if_pos h3]
theorem clp_h (h1 : ¬ (o.length : Int) ≤ st) (h2 : ¬ ((o.getD st.toNat 0).toNat : Int) < 248) : clp o st = if (sl o (some (st + 1)) (some (st + 2)) == [0]) = true then .dec "Length starts with zero bytes"
    else if be (sl o (some (st + 1)) (some (st + 1 + (((o.getD st.toNat 0).toNat : Int) - 192 - 56 + 1)))) < 56 then .dec "Long list prefix used for short list" else .ok (sl o (some st) (some (st + 1)) ++ sl o (some (st + 1)) (some (st + 1 + (((o.getD st.toNat 0).toNat : Int) - 192 - 56 + 1)))) "list" (be (sl o (some (st + 1)) (some (st + 1 + (((o.getD st.toNat 0).toNat : Int) - 192 - 56 + 1))))) (st + 1 + (((o.getD st.toNat 0).toNat : Int) - 192 - 56 + 1)) := by
  unfold clp; dsimp only
  rw [if_neg h1, if_neg (by omega), if_neg (by omega), if_neg (by omega), if_neg h2]
end
end

section
theorem sl_app (o : List UInt8) {a b c : Int} (h0 : 0 ≤ a) (h1 : a ≤ b) (h2 : b ≤ c) : sl o (some a) (some b) ++ sl o (some b) (some c) = sl o (some a) (some c) := by
  rw [sl_nat o a b h0 h1, sl_nat o b c (by omega) h2, sl_nat o a c h0 (by omega)]
  have e1 : o.drop b.toNat = (o.drop a.toNat).drop (b.toNat - a.toNat) := by rw [List.drop_drop]; congr 1; omega
  have e2 : c.toNat - a.toNat = (b.toNat - a.toNat) + (c.toNat - b.toNat) := by omega
  rw [e1, e2, List.take_add]
theorem sl_get (o : List UInt8) {a : Int} (h0 : 0 ≤ a) (h1 : a < o.length) : sl o (some a) (some (a + 1)) = [o.getD a.toNat 0] := by
  rw [sl_nat o a (a + 1) h0 (by omega)]
  have hl : a.toNat < o.length := by omega
  have e : (a + 1).toNat - a.toNat = 1 := by omega
  rw [e, List.drop_eq_getElem_cons hl, List.take_succ_cons, List.take_zero, List.getD_eq_getElem?_getD, List.getElem?_eq_getElem hl]
  rfl
theorem fold_from : ∀ (x : List Int) (a : Int), x.foldl (fun a k => a * 256 + k) a = a * 256 ^ x.length + x.foldl (fun a k => a * 256 + k) 0
  | [], a => by simp
  | k :: x, a => by
    rw [List.foldl_cons, List.foldl_cons, fold_from x (a * 256 + k), fold_from x (0 * 256 + k), List.length_cons, Int.pow_succ, Int.add_mul, Int.zero_mul, Int.zero_add, Int.mul_assoc, Int.mul_comm 256]
    omega
theorem be_cons (c : UInt8) (x : List UInt8) : be (c :: x) = (c.toNat : Int) * 256 ^ x.length + be x := by
  unfold be KFB.value KBw.bInts
  have e : ∀ y : List UInt8, (List.map (fun c : UInt8 => ((c.toNat : Nat) : Int)) y.toArray.toList) = y.map fun c => ((c.toNat : Nat) : Int) := fun y => by simp
  rw [e, e, List.map_cons, List.foldl_cons, fold_from]
  simp
theorem be_nil : be [] = 0 := rfl
theorem ofNat_toNat (c : UInt8) : UInt8.ofNat c.toNat = c := by simp
theorem pow_big {m : Nat} (hm : 2 ≤ m) : (65536 : Int) ≤ 256 ^ m := by
  have : (256 : Nat) ^ 2 ≤ 256 ^ m := Nat.pow_le_pow_right (by decide) hm
  have h : ((256 : Int) ^ m) = ((256 ^ m : Nat) : Int) := by simp
  rw [h]
  have h2 : (65536 : Nat) ≤ 256 ^ m := this
  exact Int.ofNat_le.mpr h2
theorem be_min {c : UInt8} {x : List UInt8} (h0 : c ≠ 0) (h1 : be (c :: x) < 65536) : lenB (be (c :: x)).toNat = c :: x := by
  have hc : c.toNat ≠ 0 := fun h => h0 (by rw [← ofNat_toNat c, h]; rfl)
  have hc2 : c.toNat < 256 := UInt8.toNat_lt _
  rcases x with _ | ⟨d, _ | ⟨e, x⟩⟩
  · rw [be_cons, be_nil]
    have e : ((c.toNat : Int) * 256 ^ ([] : List UInt8).length + 0).toNat = c.toNat := by simp
    rw [e, lenB, if_pos hc2, ofNat_toNat]
  · have hd : d.toNat < 256 := UInt8.toNat_lt _
    rw [be_cons, be_cons, be_nil]
    have e : ((c.toNat : Int) * 256 ^ ([d] : List UInt8).length + ((d.toNat : Int) * 256 ^ ([] : List UInt8).length + 0)).toNat = c.toNat * 256 + d.toNat := by
      simp only [List.length_cons, List.length_nil, Nat.zero_add, Int.pow_one, Int.pow_zero, Int.mul_one, Int.add_zero, Int.pow_succ, Int.one_mul]
      omega
    rw [e, lenB, if_neg (by omega), show (c.toNat * 256 + d.toNat) / 256 = c.toNat by omega, show (c.toNat * 256 + d.toNat) % 256 = d.toNat by omega, ofNat_toNat, ofNat_toNat]
  · exfalso
    rw [be_cons] at h1
    have h2 := be_nonneg (d :: e :: x)
    have h3 : (65536 : Int) ≤ 256 ^ (d :: e :: x).length := pow_big (by simp)
    have h4 : (1 : Int) * 256 ^ (d :: e :: x).length ≤ (c.toNat : Int) * 256 ^ (d :: e :: x).length := Int.mul_le_mul_of_nonneg_right (by omega) (by omega)
    omega
/-- the digits of a long head are written as they were read -/
theorem digits_min (o : List UInt8) {st ll : Int} (h0 : 0 ≤ st) (h1 : 1 ≤ ll) (h2 : st + 1 + ll ≤ o.length) (hz : ¬ (sl o (some (st + 1)) (some (st + 2)) == [0]) = true) (hb : be (sl o (some (st + 1)) (some (st + 1 + ll))) < 65536) :
    lenB (be (sl o (some (st + 1)) (some (st + 1 + ll)))).toNat = sl o (some (st + 1)) (some (st + 1 + ll)) := by
  have e1 : sl o (some (st + 1)) (some (st + 1 + ll)) = o.getD (st + 1).toNat 0 :: sl o (some (st + 2)) (some (st + 1 + ll)) := by
    rw [← sl_app o (a := st + 1) (b := st + 1 + 1) (c := st + 1 + ll) (by omega) (by omega) (by omega), sl_get o (by omega) (by omega)]
    rw [show st + 1 + 1 = st + 2 by omega]
    rfl
  have hz' : o.getD (st + 1).toNat 0 ≠ 0 := fun h => hz (by rw [show st + 2 = st + 1 + 1 by omega, sl_get o (by omega) (by omega), h]; rfl)
  rw [e1] at hb ⊢
  exact be_min hz' hb
theorem row_ok {o : List UInt8} {item1 : Int → IR} {endp : Int} (S : ∀ x, 0 ≤ x → (item1 x).Sane o x) (H : ∀ x t r e, 0 ≤ x → item1 x = .ok t r e → e ≤ o.length → encT t = sl o (some x) (some e)) : ∀ (n : Nat) (next : Int) acc rl t r e, 0 ≤ next → rowF item1 endp n next acc rl = .ok t r e → e ≤ o.length →
    ∃ ts, t = .l (acc ++ ts) ∧ e = endp ∧ next ≤ e ∧ encTs ts = sl o (some next) (some e)
  | 0, _, _, _, _, _, _, _, h, _ => by cases h
  | n + 1, next, acc, rl, t, r, e, h0, h, he => by
    unfold rowF at h
    split at h
    · cases q : item1 next with
      | ok t1 r1 e1 =>
        rw [q] at h
        have hs := S next h0
        rw [q] at hs
        have hlt : next < e1 := hs.2.1
        obtain ⟨ts, rfl, h2, h3, h4⟩ := row_ok S H n e1 _ _ t r e (by omega) h he
        refine ⟨t1 :: ts, by rw [List.append_assoc]; rfl, h2, by omega, ?_⟩
        rw [encTs, h4, H next t1 r1 e1 h0 q (by omega), sl_app o h0 (by omega) h3]
      | index => rw [q] at h; cases h
      | dec m => rw [q] at h; cases h
      | deep => rw [q] at h; cases h
    · split at h
      · cases h
      · injection h with a b c
        subst a
        subst c
        refine ⟨[], by simp, by omega, Int.le_refl _, ?_⟩
        rw [encTs, sl_nat o _ _ h0 (Int.le_refl _), Nat.sub_self, List.take_zero]
theorem row_list {item1 : Int → IR} {endp : Int} : ∀ (n : Nat) (next : Int) acc rl t r e, rowF item1 endp n next acc rl = .ok t r e → ∃ ts, t = .l ts
  | 0, _, _, _, _, _, _, h => by cases h
  | n + 1, next, acc, rl, t, r, e, h => by
    unfold rowF at h
    split at h
    · cases q : item1 next with
      | ok t1 r1 e1 => rw [q] at h; exact row_list n e1 _ _ t r e h
      | index => rw [q] at h; cases h
      | dec m => rw [q] at h; cases h
      | deep => rw [q] at h; cases h
    · split at h
      · cases h
      · injection h with a b c
        exact ⟨_, a.symm⟩
end

section
theorem sl_lenx (o : List UInt8) {a b : Int} (h0 : 0 ≤ a) (h1 : a ≤ b) (h2 : b ≤ o.length) : ((sl o (some a) (some b)).length : Int) = b - a := by rw [sl_length o a b h0 h1]; omega
theorem preB_short (o : List UInt8) {st : Int} {l b : Nat} (hl : l < 56) (hc : (o.getD st.toNat 0).toNat = b + l) (h0 : 0 ≤ st) (h1 : st < o.length) : preB l b = sl o (some st) (some (st + 1)) := by
  rw [preB, if_pos hl, sl_get o h0 h1, ← hc, ofNat_toNat]
theorem preB_long (o : List UInt8) {st ll : Int} {b : Nat} (hc : ((o.getD st.toNat 0).toNat : Int) = b + 55 + ll) (h0 : 0 ≤ st) (h1 : 1 ≤ ll) (h2 : st + 1 + ll ≤ o.length) (hz : ¬ (sl o (some (st + 1)) (some (st + 2)) == [0]) = true) {l : Nat} (hl : 56 ≤ l) (hb : be (sl o (some (st + 1)) (some (st + 1 + ll))) = l) (hlt : l < 65536) :
    preB l b = sl o (some st) (some (st + 1)) ++ sl o (some (st + 1)) (some (st + 1 + ll)) := by
  have hd := digits_min o h0 h1 h2 hz (by omega)
  rw [hb, Int.toNat_natCast] at hd
  have hln := sl_lenx o (a := st + 1) (b := st + 1 + ll) (by omega) (by omega) h2
  rw [preB, if_neg (by omega), hd, sl_get o h0 (by omega)]
  have e : b + 55 + (sl o (some (st + 1)) (some (st + 1 + ll))).length = (o.getD st.toNat 0).toNat := by omega
  rw [e, ofNat_toNat]
theorem item_ok (o : List UInt8) (hz : o.length ≤ 60000) (n : Nat) : ∀ (f : Nat) (st : Int) (t : Tr) r e, 0 ≤ st → itemF o n f st = .ok t r e → e ≤ o.length → encT t = sl o (some st) (some e)
  | 0, _, _, _, _, _, h, _ => by cases h
  | f + 1, st, t, r, e, h0, h, he => by
    have ih := item_ok o hz n f
    have S := item_sane o n f
    have hb : (o.getD st.toNat 0).toNat < 256 := UInt8.toNat_lt _
    unfold itemF at h
    by_cases h1 : (o.length : Int) ≤ st
    · rw [clp_a h1] at h; cases h
    by_cases h2 : ((o.getD st.toNat 0).toNat : Int) < 128
    · rw [clp_b h1 h2] at h
      dsimp only at h
      rw [payF, if_pos rfl] at h
      injection h with a b c
      subst a
      subst c
      rw [encT, if_pos]
      rw [sl_get o h0 (by omega)]
      exact ⟨rfl, Int.ofNat_lt.mp h2⟩
    by_cases h3 : ((o.getD st.toNat 0).toNat : Int) = 129 ∧ (o.length : Int) ≤ st + 1
    · rw [clp_c h1 h3.1 h3.2] at h; cases h
    by_cases h4 : ((o.getD st.toNat 0).toNat : Int) = 129 ∧ ((o.getD (st + 1).toNat 0).toNat : Int) < 128
    · rw [clp_d h1 h4.1 (by omega) h4.2] at h; cases h
    by_cases h5 : ((o.getD st.toNat 0).toNat : Int) < 184
    · rw [clp_e h1 h2 h5 (by omega)] at h
      dsimp only at h
      rw [payF, if_pos rfl] at h
      injection h with a b c
      subst a
      subst c
      have hl := sl_lenx o (a := st + 1) (b := st + 1 + (((o.getD st.toNat 0).toNat : Int) - 128)) (by omega) (by omega) he
      rw [encT, if_neg, preB_short o (st := st) (by omega) (by omega) h0 (by omega), sl_app o h0 (by omega) (by omega)]
      rintro ⟨q1, q2⟩
      have e1 : st + 1 + (((o.getD st.toNat 0).toNat : Int) - 128) = st + 1 + 1 := by omega
      rw [e1, sl_get o (by omega) (by omega)] at q2
      have q3 : (o.getD (st + 1).toNat 0).toNat < 128 := q2
      omega
    by_cases h6 : ((o.getD st.toNat 0).toNat : Int) < 192
    · rw [clp_f h1 h5 h6] at h
      by_cases h7 : (sl o (some (st + 1)) (some (st + 2)) == [0]) = true
      · rw [if_pos h7] at h; cases h
      rw [if_neg h7] at h
      by_cases h8 : be (sl o (some (st + 1)) (some (st + 1 + (((o.getD st.toNat 0).toNat : Int) - 183)))) < 56
      · rw [if_pos h8] at h; cases h
      rw [if_neg h8] at h
      dsimp only at h
      rw [payF, if_pos rfl] at h
      injection h with a b c
      subst a
      subst c
      have hl := sl_lenx o (a := st + 1 + (((o.getD st.toNat 0).toNat : Int) - 183)) (b := st + 1 + (((o.getD st.toNat 0).toNat : Int) - 183) + be (sl o (some (st + 1)) (some (st + 1 + (((o.getD st.toNat 0).toNat : Int) - 183))))) (by omega) (by omega) he
      rw [encT, if_neg (by omega), preB_long o (st := st) (ll := ((o.getD st.toNat 0).toNat : Int) - 183) (by omega) h0 (by omega) (by omega) h7 (by omega) (by omega) (by omega), sl_app o h0 (by omega) (by omega), sl_app o h0 (by omega) (by omega)]
    by_cases h7 : ((o.getD st.toNat 0).toNat : Int) < 248
    · rw [clp_g h1 h6 h7] at h
      dsimp only at h
      rw [payF, if_neg (by decide)] at h
      obtain ⟨ts, rfl, h9, h10, h11⟩ := row_ok S ih n _ _ _ t r e (by omega) h he
      rw [List.nil_append, encT]
      have hl := sl_lenx o (a := st + 1) (b := e) (by omega) h10 he
      rw [h11, preB_short o (st := st) (by omega) (by omega) h0 (by omega), sl_app o h0 (by omega) (by omega)]
    rw [clp_h h1 h7] at h
    by_cases h8 : (sl o (some (st + 1)) (some (st + 2)) == [0]) = true
    · rw [if_pos h8] at h; cases h
    rw [if_neg h8] at h
    by_cases h9 : be (sl o (some (st + 1)) (some (st + 1 + (((o.getD st.toNat 0).toNat : Int) - 192 - 56 + 1)))) < 56
    · rw [if_pos h9] at h; cases h
    rw [if_neg h9] at h
    dsimp only at h
    rw [payF, if_neg (by decide)] at h
    obtain ⟨ts, rfl, h10, h11, h12⟩ := row_ok S ih n _ _ _ t r e (by omega) h he
    rw [List.nil_append, encT]
    have hl := sl_lenx o (a := st + 1 + (((o.getD st.toNat 0).toNat : Int) - 192 - 56 + 1)) (b := e) (by omega) h11 he
    rw [h12, preB_long o (st := st) (ll := ((o.getD st.toNat 0).toNat : Int) - 192 - 56 + 1) (by omega) h0 (by omega) (by omega) h8 (by omega) (by omega) (by omega), sl_app o h0 (by omega) (by omega), sl_app o h0 (by omega) (by omega)]
theorem row_Deep {item1 : Int → IR} {endp : Int} {k : Nat} (H : ∀ x t r e, item1 x = .ok t r e → Deep k t) : ∀ (n : Nat) (next : Int) acc rl t r e, (∀ t ∈ acc, Deep k t) → rowF item1 endp n next acc rl = .ok t r e → Deep (k + 1) t
  | 0, _, _, _, _, _, _, _, h => by cases h
  | n + 1, next, acc, rl, t, r, e, ha, h => by
    unfold rowF at h
    split at h
    · cases q : item1 next with
      | ok t1 r1 e1 =>
        rw [q] at h
        refine row_Deep H n e1 _ _ t r e (fun t ht => ?_) h
        rcases List.mem_append.mp ht with ht | ht
        · exact ha t ht
        · rw [List.mem_singleton.mp ht]; exact H _ _ _ _ q
      | index => rw [q] at h; cases h
      | dec m => rw [q] at h; cases h
      | deep => rw [q] at h; cases h
    · split at h
      · cases h
      · injection h with a b c
        subst a
        exact .l ha
theorem item_Deep (o : List UInt8) (n : Nat) : ∀ (f : Nat) (st : Int) (t : Tr) r e, itemF o n f st = .ok t r e → Deep f t
  | 0, _, _, _, _, h => by cases h
  | f + 1, st, t, r, e, h => by
    unfold itemF at h
    cases q : clp o st with
    | ok pre ty len s =>
      rw [q] at h
      dsimp only at h
      unfold payF at h
      split at h
      · injection h with a b c
        subst a
        exact .b
      · exact row_Deep (item_Deep o n f) n _ _ _ t r e (fun _ h => by cases h) h
    | index => rw [q] at h; cases h
    | dec m => rw [q] at h; cases h
end

section
/-! what is written is read back -/
theorem sl_mid (p x q : List UInt8) : sl (p ++ x ++ q) (some (p.length : Int)) (some ((p.length : Int) + x.length)) = x := by
  rw [sl_nat _ _ _ (by omega) (by omega), Int.toNat_natCast, show ((p.length : Int) + x.length).toNat - p.length = x.length by omega, List.append_assoc, List.drop_left, List.take_left]
theorem get_mid (p s : List UInt8) (c : UInt8) : (p ++ c :: s).getD ((p.length : Int)).toNat 0 = c := by
  rw [Int.toNat_natCast, List.getD_eq_getElem?_getD, List.getElem?_append_right (Nat.le_refl _), Nat.sub_self]
  rfl
theorem be_lenB {n : Nat} (h : n < 65536) : be (lenB n) = n := by
  have e : ∀ k, k < 256 → (UInt8.ofNat k).toNat = k := fun k hk => by simp; omega
  unfold lenB
  split
  · rename_i h1
    rw [be_cons, be_nil, e _ h1]
    simp
  · rw [be_cons, be_cons, be_nil, e _ (by omega), e _ (by omega)]
    simp only [List.length_cons, List.length_nil, Nat.zero_add, Int.pow_zero, Int.mul_one, Int.add_zero, Int.pow_succ, Int.one_mul]
    omega
theorem long_parts (p q D' : List UInt8) (c d : UInt8) : 
    sl (p ++ c :: (d :: D' ++ q)) (some (p.length : Int)) (some ((p.length : Int) + 1)) = [c] ∧ sl (p ++ c :: (d :: D' ++ q)) (some ((p.length : Int) + 1)) (some ((p.length : Int) + 1 + (d :: D').length)) = d :: D' ∧
    sl (p ++ c :: (d :: D' ++ q)) (some ((p.length : Int) + 1)) (some ((p.length : Int) + 2)) = [d] := by
  have hl : (p ++ c :: (d :: D' ++ q)).length = p.length + 2 + D'.length + q.length := by simp; omega
  refine ⟨?_, ?_, ?_⟩
  · rw [sl_get _ (by omega) (by omega), get_mid]
  · have := sl_mid (p ++ [c]) (d :: D') q
    have e1 : p ++ [c] ++ (d :: D') ++ q = p ++ c :: (d :: D' ++ q) := by simp
    have e2 : (((p ++ [c]).length : Nat) : Int) = (p.length : Int) + 1 := by simp
    rw [e1, e2] at this
    exact this
  · have := sl_get (p ++ c :: (d :: D' ++ q)) (a := (p.length : Int) + 1) (by omega) (by omega)
    rw [show (p.length : Int) + 1 + 1 = (p.length : Int) + 2 by omega] at this
    rw [this]
    have := get_mid (p ++ [c]) (D' ++ q) d
    have e1 : p ++ [c] ++ d :: (D' ++ q) = p ++ c :: (d :: D' ++ q) := by simp
    have e2 : (((p ++ [c]).length : Nat) : Int) = (p.length : Int) + 1 := by simp
    rw [e1, e2] at this
    rw [this]
theorem lenB_cons {n : Nat} (h : 56 ≤ n) (hz : n < 65536) : ∃ d D', lenB n = d :: D' ∧ d ≠ 0 ∧ (d :: D').length ≤ 2 := by
  have e : ∀ k, k < 256 → (UInt8.ofNat k).toNat = k := fun k hk => by simp; omega
  unfold lenB
  split
  · exact ⟨_, _, rfl, fun q => by have := e n (by omega); rw [q] at this; simp at this; omega, by simp⟩
  · exact ⟨_, _, rfl, fun q => by have := e (n / 256) (by omega); rw [q] at this; simp at this; omega, by simp⟩
/-- the head of what is written at a place is told -/
theorem clp_str {p q x : List UInt8} (hz : x.length < 65536) (hs : ¬ (x.length = 1 ∧ (x.getD 0 0).toNat < 128)) :
    clp (p ++ (preB x.length 128 ++ x) ++ q) p.length = .ok (preB x.length 128) "bytes" x.length ((p.length : Int) + (preB x.length 128).length) := by
  have e : ∀ k, k < 256 → (UInt8.ofNat k).toNat = k := fun k hk => by simp; omega
  by_cases h1 : x.length < 56
  · have ep : preB x.length 128 = [UInt8.ofNat (128 + x.length)] := by rw [preB, if_pos h1]
    rw [ep]
    have eo : p ++ ([UInt8.ofNat (128 + x.length)] ++ x) ++ q = p ++ UInt8.ofNat (128 + x.length) :: (x ++ q) := by simp
    have hg := get_mid p (x ++ q) (UInt8.ofNat (128 + x.length))
    have hsl := sl_mid p [UInt8.ofNat (128 + x.length)] (x ++ q)
    have eo2 : p ++ [UInt8.ofNat (128 + x.length)] ++ (x ++ q) = p ++ UInt8.ofNat (128 + x.length) :: (x ++ q) := by simp
    rw [eo2] at hsl
    rw [eo]
    have hl : (p ++ UInt8.ofNat (128 + x.length) :: (x ++ q)).length = p.length + 1 + x.length + q.length := by simp; omega
    generalize hO : p ++ UInt8.ofNat (128 + x.length) :: (x ++ q) = o at *
    have hc : ((o.getD ((p.length : Int)).toNat 0).toNat : Int) = 128 + x.length := by rw [hg, e _ (by omega)]; omega
    rw [clp_e (by omega) (by omega) (by omega) ?_, hc]
    · have hs1 : sl o (some (p.length : Int)) (some ((p.length : Int) + 1)) = [UInt8.ofNat (128 + x.length)] := hsl
      have e1 : (128 + (x.length : Int)) - 128 = x.length := by omega
      rw [hs1, e1]
      rfl
    · rintro ⟨h2, h3⟩
      have h4 : x.length = 1 := by omega
      rcases h3 with h3 | h3
      · omega
      · match x, h4 with
        | [d], _ =>
          have hd : o.getD ((p.length : Int) + 1).toNat 0 = d := by
            rw [← hO, show ((p.length : Int) + 1).toNat = p.length + 1 by omega, List.getD_eq_getElem?_getD, List.getElem?_append_right (by omega), show p.length + 1 - p.length = 1 by omega]
            rfl
          rw [hd] at h3
          exact hs ⟨rfl, Int.ofNat_lt.mp h3⟩
  · have hp : preB x.length 128 = [UInt8.ofNat (183 + (lenB x.length).length)] ++ lenB x.length := by rw [preB, if_neg h1]
    obtain ⟨d, D', hD, hd0, hD2⟩ := lenB_cons (n := x.length) (by omega) hz
    have hbe := be_lenB hz
    rw [hD] at hp hbe
    rw [hp]
    have eo : p ++ ([UInt8.ofNat (183 + (d :: D').length)] ++ d :: D' ++ x) ++ q = p ++ UInt8.ofNat (183 + (d :: D').length) :: (d :: D' ++ (x ++ q)) := by simp
    obtain ⟨s1, s2, s3⟩ := long_parts p (x ++ q) D' (UInt8.ofNat (183 + (d :: D').length)) d
    have hg := get_mid p (d :: D' ++ (x ++ q)) (UInt8.ofNat (183 + (d :: D').length))
    have hl : (p ++ UInt8.ofNat (183 + (d :: D').length) :: (d :: D' ++ (x ++ q))).length = p.length + 1 + (d :: D').length + x.length + q.length := by simp; omega
    have hDp : 0 < (d :: D').length := by simp
    rw [eo]
    generalize (d :: D') = D at *
    generalize hO : p ++ UInt8.ofNat (183 + D.length) :: (D ++ (x ++ q)) = o at *
    have hc : ((o.getD ((p.length : Int)).toNat 0).toNat : Int) = 183 + D.length := by rw [hg, e _ (by omega)]; omega
    rw [clp_f (by omega) (by omega) (by omega), hc, show (183 : Int) + D.length - 183 = D.length by omega, s2, s3, hbe, s1, if_neg (by simpa using hd0), if_neg (by omega)]
    simp only [List.length_append, List.length_cons, List.length_nil]
    congr 1
    omega
theorem clp_row {p q x : List UInt8} (hz : x.length < 65536) :
    clp (p ++ (preB x.length 192 ++ x) ++ q) p.length = .ok (preB x.length 192) "list" x.length ((p.length : Int) + (preB x.length 192).length) := by
  have e : ∀ k, k < 256 → (UInt8.ofNat k).toNat = k := fun k hk => by simp; omega
  by_cases h1 : x.length < 56
  · have ep : preB x.length 192 = [UInt8.ofNat (192 + x.length)] := by rw [preB, if_pos h1]
    rw [ep]
    have eo : p ++ ([UInt8.ofNat (192 + x.length)] ++ x) ++ q = p ++ UInt8.ofNat (192 + x.length) :: (x ++ q) := by simp
    have hg := get_mid p (x ++ q) (UInt8.ofNat (192 + x.length))
    have hsl := sl_mid p [UInt8.ofNat (192 + x.length)] (x ++ q)
    have eo2 : p ++ [UInt8.ofNat (192 + x.length)] ++ (x ++ q) = p ++ UInt8.ofNat (192 + x.length) :: (x ++ q) := by simp
    rw [eo2] at hsl
    rw [eo]
    have hl : (p ++ UInt8.ofNat (192 + x.length) :: (x ++ q)).length = p.length + 1 + x.length + q.length := by simp; omega
    generalize hO : p ++ UInt8.ofNat (192 + x.length) :: (x ++ q) = o at *
    have hc : ((o.getD ((p.length : Int)).toNat 0).toNat : Int) = 192 + x.length := by rw [hg, e _ (by omega)]; omega
    rw [clp_g (by omega) (by omega) (by omega), hc]
    have hs1 : sl o (some (p.length : Int)) (some ((p.length : Int) + 1)) = [UInt8.ofNat (192 + x.length)] := hsl
    have e1 : (192 + (x.length : Int)) - 192 = x.length := by omega
    rw [hs1, e1]
    rfl
  · have hp : preB x.length 192 = [UInt8.ofNat (247 + (lenB x.length).length)] ++ lenB x.length := by rw [preB, if_neg h1]
    obtain ⟨d, D', hD, hd0, hD2⟩ := lenB_cons (n := x.length) (by omega) hz
    have hbe := be_lenB hz
    rw [hD] at hp hbe
    rw [hp]
    have eo : p ++ ([UInt8.ofNat (247 + (d :: D').length)] ++ d :: D' ++ x) ++ q = p ++ UInt8.ofNat (247 + (d :: D').length) :: (d :: D' ++ (x ++ q)) := by simp
    obtain ⟨s1, s2, s3⟩ := long_parts p (x ++ q) D' (UInt8.ofNat (247 + (d :: D').length)) d
    have hg := get_mid p (d :: D' ++ (x ++ q)) (UInt8.ofNat (247 + (d :: D').length))
    have hl : (p ++ UInt8.ofNat (247 + (d :: D').length) :: (d :: D' ++ (x ++ q))).length = p.length + 1 + (d :: D').length + x.length + q.length := by simp; omega
    have hDp : 0 < (d :: D').length := by simp
    rw [eo]
    generalize (d :: D') = D at *
    generalize hO : p ++ UInt8.ofNat (247 + D.length) :: (D ++ (x ++ q)) = o at *
    have hc : ((o.getD ((p.length : Int)).toNat 0).toNat : Int) = 247 + D.length := by rw [hg, e _ (by omega)]; omega
    rw [clp_h (by omega) (by omega), hc, show (247 : Int) + D.length - 192 - 56 + 1 = D.length by omega, s2, s3, hbe, s1, if_neg (by simpa using hd0), if_neg (by omega)]
    simp only [List.length_append, List.length_cons, List.length_nil]
    congr 1
    omega
theorem clp_one {p q : List UInt8} {c : UInt8} (hc : c.toNat < 128) : clp (p ++ [c] ++ q) p.length = .ok [] "bytes" 1 p.length := by
  have eo : p ++ [c] ++ q = p ++ c :: q := by simp
  have hg := get_mid p q c
  rw [eo]
  exact clp_b (by simp; omega) (by rw [hg]; omega)
/-- a row's parts are read one behind the other -/
theorem row_back {item1 : Int → IR} : ∀ (ts : List Tr) (n : Nat) (a : Int) (acc : List Tr) (rl : List UInt8), ts.length < n → (∀ (pre : List Tr) (t : Tr) (post : List Tr), ts = pre ++ t :: post → item1 (a + (encTs pre).length) = .ok t (encT t) (a + (encTs pre).length + (encT t).length)) →
    rowF item1 (a + (encTs ts).length) n a acc rl = .ok (.l (acc ++ ts)) (rl ++ encTs ts) (a + (encTs ts).length)
  | [], n, a, acc, rl, hn, _ => by
    obtain ⟨m, rfl⟩ : ∃ m, n = m + 1 := ⟨n - 1, by simp at hn; omega⟩
    have e0 : (encTs []).length = 0 := by simp [encTs]
    unfold rowF
    rw [if_neg (by omega), if_neg (by omega)]
    simp [encTs]
  | t :: ts, n, a, acc, rl, hn, H => by
    obtain ⟨m, rfl⟩ : ∃ m, n = m + 1 := ⟨n - 1, by simp at hn; omega⟩
    have e1 : (encTs (t :: ts)).length = (encT t).length + (encTs ts).length := by rw [encTs, List.length_append]
    have e0 : (encTs []).length = 0 := by simp [encTs]
    have hp := encT_pos t
    unfold rowF
    rw [if_pos (by omega)]
    have h0 := H [] t ts rfl
    rw [e0] at h0
    have h0' : item1 a = .ok t (encT t) (a + (encT t).length) := by simpa using h0
    rw [h0']
    dsimp only
    have := row_back ts m (a + (encT t).length) (acc ++ [t]) (rl ++ encT t) (by simp at hn; omega) fun pre u post hu => by
      have := H (t :: pre) u post (by rw [hu]; rfl)
      have e2 : (encTs (t :: pre)).length = (encT t).length + (encTs pre).length := by rw [encTs, List.length_append]
      rw [e2] at this
      have ea : a + (((encT t).length + (encTs pre).length : Nat) : Int) = a + (encT t).length + (encTs pre).length := by omega
      rw [ea] at this
      exact this
    have eb : a + ((encTs (t :: ts)).length : Int) = a + (encT t).length + (encTs ts).length := by omega
    rw [eb, this]
    simp [encTs]
theorem encTs_app : ∀ (a b : List Tr), encTs (a ++ b) = encTs a ++ encTs b
  | [], b => by simp [encTs]
  | t :: a, b => by rw [List.cons_append, encTs, encTs, encTs_app a b, List.append_assoc]
/-- what is written is read back, wherever it stands -/
theorem read_back (n : Nat) (hn : n ≤ 65536) : ∀ (f : Nat) (t : Tr), Deep f t → (encT t).length < n → ∀ p q, itemF (p ++ encT t ++ q) n (f + 1) p.length = .ok t (encT t) ((p.length : Int) + (encT t).length) := by
  have hb : ∀ (f : Nat) (x : List UInt8), (encT (.b x)).length < n → ∀ p q, itemF (p ++ encT (.b x) ++ q) n (f + 1) p.length = .ok (.b x) (encT (.b x)) ((p.length : Int) + (encT (.b x)).length) := by
    intro f x hl p q
    unfold itemF
    by_cases hs : x.length = 1 ∧ (x.getD 0 0).toNat < 128
    · have e : encT (.b x) = x := by rw [encT, if_pos hs]
      rw [e]
      match x, hs with
      | [c], ⟨_, hc⟩ =>
        rw [clp_one (c := c) hc]
        dsimp only
        rw [payF, if_pos rfl]
        have := sl_mid p [c] q
        rw [show (p.length : Int) + 1 = (p.length : Int) + (([c] : List UInt8).length : Nat) from rfl, this]
        rfl
    · have e : encT (.b x) = preB x.length 128 ++ x := by rw [encT, if_neg hs]
      rw [e] at hl ⊢
      rw [List.length_append] at hl
      rw [clp_str (by omega) hs]
      dsimp only
      rw [payF, if_pos rfl]
      have := sl_mid (p ++ preB x.length 128) x q
      have e1 : p ++ preB x.length 128 ++ x ++ q = p ++ (preB x.length 128 ++ x) ++ q := by simp
      have e2 : (((p ++ preB x.length 128).length : Nat) : Int) = (p.length : Int) + (preB x.length 128).length := by simp
      rw [e1, e2] at this
      rw [this, List.length_append]
      congr 1
      omega
  intro f
  induction f with
  | zero =>
    intro t D
    cases D
    exact hb 0 _
  | succ f ih =>
    intro t D
    cases D with
    | b => exact hb (f + 1) _
    | @l _ ts D' =>
      intro hl p q
      have e : encT (.l ts) = preB (encTs ts).length 192 ++ encTs ts := by rw [encT]
      rw [e] at hl ⊢
      rw [List.length_append] at hl
      unfold itemF
      rw [clp_row (by omega)]
      dsimp only
      rw [payF, if_neg (by decide)]
      have hlen := encTs_len ts
      have := row_back (item1 := itemF (p ++ (preB (encTs ts).length 192 ++ encTs ts) ++ q) n (f + 1)) ts n ((p.length : Int) + (preB (encTs ts).length 192).length) [] (preB (encTs ts).length 192) (by omega) fun pre u post hu => by
        have hm : u ∈ ts := by rw [hu]; simp
        have h1 := encT_mem hm
        have h2 := ih u (D' u hm) (by omega) (p ++ preB (encTs ts).length 192 ++ encTs pre) (encTs post ++ q)
        have eo : p ++ preB (encTs ts).length 192 ++ encTs pre ++ encT u ++ (encTs post ++ q) = p ++ (preB (encTs ts).length 192 ++ encTs ts) ++ q := by
          have et : encTs ts = encTs pre ++ (encT u ++ encTs post) := by rw [hu, encTs_app, encTs]
          generalize preB (encTs ts).length 192 = B
          rw [et]
          simp
        rw [eo] at h2
        have el : (((p ++ preB (encTs ts).length 192 ++ encTs pre).length : Nat) : Int) = (p.length : Int) + (preB (encTs ts).length 192).length + (encTs pre).length := by simp only [List.length_append]; omega
        rw [el] at h2
        exact h2
      rw [this, List.length_append]
      simp only [List.nil_append]
      congr 1
      omega
end

section
/-! a list comprehension whose element may turn the ledger -/
section
variable {prog : Program} {w : World} {A : Around} {E : Value → Shared → Prop} {gs : Array GenState} {dr : Drawn} {tk : Nat} {os : OsState} {h g : Heap} {L : Addr} {mm : Str → Option Value} {news : Ledger} {env : Env}
def TurnEnd (J : Nat → List Value → Ledger → Array GenState → Prop) (dr : Drawn) (os : OsState) (g : Heap) (L : Addr) (mm : Str → Option Value) (own : Ledger) (tw : List Addr) (i : Nat) (ys : List Value) (y : Value) (s₃ : Shared) : Prop :=
  ∃ news' gs'' h' tk', s₃ = ⟨h', gs'', dr, tk', os⟩ ∧ J (i + 1) (ys ++ [y]) news' gs'' ∧ Fr g L h' mm ∧ News g L h' (own ++ news') ∧ ∀ p ∈ news', p.1 ∉ tw
theorem comp_loop {elt iter : Expr} {x : Str} {px : Pos} {cscope : Scope} {cl : List (Str × Addr)} {pos : Pos} {I C D : Addr} {fp wr : List Addr} {n : Nat} {P : Nat → Value → Prop} {St : Nat → Heap → Prop} {R : Result → Shared → Prop} {mC : Str → Option Value}
    (W : Walks prog w A I fp wr n P St) (hsz : n ≤ 100000) (hkind : cscope.kind = .function) (hx : cscope.names.lookup x = some .local)
    (hLf : L ∉ fp) (hwr : ∀ b ∈ wr, g.get? b = none) (hlive : ∀ i h, St i h → ∀ b ∈ wr, ∃ o, h.get? b = some o)
    (hDC : D ≠ C) (hDf : D ∉ fp) (hCf : C ∉ fp) (hCL : C ≠ L) (hCg : g.get? C = none)
    (J : Nat → List Value → Ledger → Array GenState → Prop) (h0 : J 0 [] news gs) (F : Fr g L h mm) (N : News g L h ((D, lob [] 0) :: news)) (hnw : ∀ p ∈ news, p.1 ∉ C :: D :: wr) (hst : St 0 h) (hC : h.Ns C mC)
    (turn : ∀ i v ys news gs' h tk own mC E', i < n → P i v → J i ys news gs' → Fr g L h mm → News g L h (own ++ news) → (∀ p ∈ news, p.1 ∉ C :: D :: wr) → (∀ b ∈ C :: D :: wr, ∃ o, (b, o) ∈ own) → (∀ p ∈ own, p.1 ∈ C :: D :: fp) → h.Ns C mC → mC x = some v →
      wpAny (model prog w) A (eval elt (compEnvC cscope cl C env)) (TurnEnd J dr os g L mm own (C :: D :: wr) i ys) E' ⟨h, gs', dr, tk, os⟩)
    (done : ∀ ys k news' gs' h' tk' mC, J n ys news' gs' → ys.length = n → Fr g L h' mm → News g L h' ((D, lob ys k) :: news') → (∀ p ∈ news', p.1 ∉ C :: D :: wr) → h'.Ns C mC → R (.ok .next) ⟨h', gs', dr, tk', os⟩) :
    codeAny (model prog w) A (.compLoop (.ListComp elt [⟨.Name x px, iter, [], 0⟩] cscope pos) 0 (.ref I) (.ref D) (compEnvC cscope cl C env)) R ⟨h, gs, dr, tk, os⟩ := by
  have hCw : C ∉ wr := fun q => hCf (W.sub _ q)
  have hDw : D ∉ wr := fun q => hDf (W.sub _ q)
  have hLw : L ∉ wr := fun q => hLf (W.sub _ q)
  refine codeAny_compLoop_list (fun k s => ∃ i ys news gs' h tk mC k2, s = ⟨h, gs', dr, tk, os⟩ ∧ k = n - i ∧ i ≤ n ∧ ys.length = i ∧ J i ys news gs' ∧ Fr g L h mm ∧ News g L h ((D, lob ys k2) :: news) ∧ (∀ p ∈ news, p.1 ∉ C :: D :: wr) ∧ St i h ∧ h.Ns C mC) ?_ n
    ⟨0, [], news, gs, h, tk, mC, 0, rfl, rfl, Nat.zero_le _, rfl, h0, F, N, hnw, hst, hC⟩
  rintro k s ⟨i, ys, news, gs', h, tk, mC, k2, rfl, rfl, hi, hys, hJ, F, N, hnw, hst, hC⟩
  have hDn : D ≠ L := (N _ (.head _)).2.1
  have hDg : g.get? D = none := (N _ (.head _)).2.2
  rcases Nat.lt_or_ge i n with hin | hin
  · refine W.item i _ _ _ hin hst fun v h1 tk1 hP hst1 k1 => ?_
    have F1 : Fr g L h1 mm := ⟨F.ns.at fun o e => k1 _ _ hLw e, fun b o e => k1 _ _ (fun hm => by rw [hwr b hm] at e; cases e) (F.keep b o e), F.above⟩
    have N1 : News g L h1 ((D, lob ys k2) :: news) := fun p hp => by
      obtain ⟨x1, x2, x3⟩ := N p hp
      refine ⟨k1 _ _ ?_ x1, x2, x3⟩
      rcases List.mem_cons.mp hp with rfl | hp
      · exact hDw
      · exact fun q => hnw p hp (List.mem_cons_of_mem _ (List.mem_cons_of_mem _ q))
    have hC1 : h1.Ns C mC := hC.at' fun o e => k1 _ _ hCw e
    dsimp only
    refine wpAny_assign_Name (wpAny_storeName_local (lookup_relabel_local hx) hC1 (fun h2 hC2 hs2 => ?_) (by simp [compEnvC, relabel, hkind]))
    have up2 : ∀ b o, b ≠ C → h1.get? b = some o → h2.get? b = some o := fun b o hb e => hs2.extBut b o hb e
    have F2 : Fr g L h2 mm := ⟨F1.ns.at fun o e => up2 _ _ hCL.symm e, fun b o e => up2 _ _ (fun hm => by rw [hm, hCg] at e; cases e) (F1.keep b o e), F1.above⟩
    have N2 : News g L h2 ((D, lob ys k2) :: news) := fun p hp => by
      obtain ⟨x1, x2, x3⟩ := N1 p hp
      refine ⟨up2 _ _ ?_ x1, x2, x3⟩
      rcases List.mem_cons.mp hp with rfl | hp
      · exact hDC
      · exact fun q => hnw p hp (q ▸ List.mem_cons_self ..)
    have hst2 : St (i + 1) h2 := W.frame _ _ _ hst1 fun b hb o e => up2 _ _ (fun q => hCf (q ▸ hb)) e
    obtain ⟨oC, hoC⟩ : ∃ oC, h2.get? C = some oC := let ⟨o, _, _, q, _⟩ := hC2; ⟨o, q⟩
    obtain ⟨own, hown⟩ : ∃ own : Ledger, own = (C, oC) :: (D, lob ys k2) :: fp.filterMap fun b => if (g.get? b).isNone then (h2.get? b).map (b, ·) else none := ⟨_, rfl⟩
    have own_of : ∀ p ∈ own, h2.get? p.1 = some p.2 ∧ p.1 ≠ L ∧ g.get? p.1 = none := by
      intro p hp
      rw [hown] at hp
      rcases List.mem_cons.mp hp with rfl | hp
      · exact ⟨hoC, hCL, hCg⟩
      rcases List.mem_cons.mp hp with rfl | hp
      · exact N2 _ (.head _)
      obtain ⟨b, hb, e⟩ := List.mem_filterMap.mp hp
      split at e
      · rename_i hn
        obtain ⟨o, ho, rfl⟩ := Option.map_eq_some_iff.mp e
        exact ⟨ho, fun q => hLf (q ▸ hb), by simpa using hn⟩
      · cases e
    have own_in : ∀ b ∈ fp, ∀ o, g.get? b = none → h2.get? b = some o → (b, o) ∈ own := by
      intro b hb o hn ho
      rw [hown]
      refine List.mem_cons_of_mem _ (List.mem_cons_of_mem _ (List.mem_filterMap.mpr ⟨b, hb, ?_⟩))
      rw [hn, ho]
      rfl
    have NO : News g L h2 (own ++ news) := fun p hp => by
      rcases List.mem_append.mp hp with hp | hp
      · exact own_of p hp
      · exact N2 p (.tail _ hp)
    have own_fp : ∀ p ∈ own, p.1 ∈ C :: D :: fp := by
      intro p hp
      rw [hown] at hp
      rcases List.mem_cons.mp hp with rfl | hp
      · exact List.mem_cons_self ..
      rcases List.mem_cons.mp hp with rfl | hp
      · exact List.mem_cons_of_mem _ (List.mem_cons_self ..)
      obtain ⟨b, hb, e⟩ := List.mem_filterMap.mp hp
      split at e
      · obtain ⟨o, ho, rfl⟩ := Option.map_eq_some_iff.mp e
        exact List.mem_cons_of_mem _ (List.mem_cons_of_mem _ hb)
      · cases e
    refine wpAny_mono (turn i v ys news gs' h2 _ own _ _ hin hP hJ F2 NO hnw (fun b hb => ?_) own_fp hC2 (by simp)) (fun y s₃ h₃ => ?_) fun _ _ z => z
    · rcases List.mem_cons.mp hb with rfl | hb
      · exact ⟨oC, by rw [hown]; exact List.mem_cons_self ..⟩
      rcases List.mem_cons.mp hb with rfl | hb
      · exact ⟨_, by rw [hown]; exact List.mem_cons_of_mem _ (List.mem_cons_self ..)⟩
      obtain ⟨o, ho⟩ := hlive _ _ hst2 b hb
      exact ⟨o, own_in b (W.sub b hb) o (hwr b hb) ho⟩
    · obtain ⟨news', gs'', h3, tk3, rfl, hJ', F3, N3, hnw'⟩ := h₃
      have hD3 : h3.get? D = some (lob ys k2) := (N3 (D, lob ys k2) (List.mem_append_left _ (by rw [hown]; exact List.mem_cons_of_mem _ (List.mem_cons_self ..)))).1
      have hC3 : h3.get? C = some oC := (N3 (C, oC) (List.mem_append_left _ (by rw [hown]; exact List.mem_cons_self ..))).1
      have hst3 : St (i + 1) h3 := W.frame _ _ _ hst2 fun b hb o ho => by
        cases hg : g.get? b with
        | none => exact (N3 _ (List.mem_append_left _ (own_in b hb o hg ho))).1
        | some o₂ =>
          have := F2.keep b o₂ hg
          rw [ho] at this
          cases this
          exact F3.keep b o hg
      refine append_at (s := ⟨h3, gs'', dr, tk3, os⟩) (hsz := ?hz) hD3 fun h4 hs4 ho4 => ?_
      case hz => rw [List.size_toArray, sizeLine_eq]; omega
      refine ⟨n - (i + 1), by omega, i + 1, ys ++ [y], news', gs'', h4, tk3, _, k2 + 1, rfl, rfl, hin, by simp [hys], hJ', F3.change hs4 hDn hDg, ?_, hnw', W.frame _ _ _ hst3 fun b hb o e => hs4.extBut b o (fun q => hDf (q ▸ hb)) e, (hC2.at' fun o e => ?_)⟩
      · intro p hp
        rcases List.mem_cons.mp hp with rfl | hp
        · refine ⟨?_, hDn, hDg⟩
          rw [ho4]
          simp [lob]
        · obtain ⟨x1, x2, x3⟩ := N3 p (List.mem_append_right _ hp)
          exact ⟨hs4.extBut _ _ (fun q => hnw' p hp (by rw [q]; exact List.mem_cons_of_mem _ (List.mem_cons_self ..))) x1, x2, x3⟩
      · replace e : h2.get? C = some o := e
        rw [hoC] at e
        cases e
        exact hs4.extBut _ _ hDC.symm hC3
  · obtain rfl : i = n := Nat.le_antisymm hi hin
    refine W.done _ _ _ hst fun h1 tk1 k1 => ?_
    refine done ys k2 news gs' h1 _ mC hJ hys ⟨F.ns.at fun o e => k1 _ _ hLw e, fun b o e => k1 _ _ (fun hm => by rw [hwr b hm] at e; cases e) (F.keep b o e), F.above⟩ (fun p hp => ?_) hnw (hC.at' fun o e => k1 _ _ hCw e)
    obtain ⟨x1, x2, x3⟩ := N p hp
    refine ⟨k1 _ _ ?_ x1, x2, x3⟩
    rcases List.mem_cons.mp hp with rfl | hp
    · exact hDw
    · exact fun q => hnw p hp (List.mem_cons_of_mem _ (List.mem_cons_of_mem _ q))
/-- from the iterator on -/
def AfterIter (prog : Program) (w : World) (A : Around) (E : Value → Shared → Prop) (elt iter : Expr) (x : Str) (px : Pos) (cscope : Scope) (cl : List (Str × Addr)) (pos : Pos) (env : Env) (use : Option (Value → Sem Unit)) (Q : Value → Shared → Prop) (it : Value) (s₂ : Shared) : Prop :=
  wpAny (model prog w) A (newList []) (fun acc s₃ => wpAny (model prog w) A (newFunctionEnv cscope env.globals cl [] env.qual none .none (some env)) (fun cenv s₄ =>
    codeAny (model prog w) A (.compStart (.ListComp elt [⟨.Name x px, iter, [], 0⟩] cscope pos) 0 it acc { cenv with scope := relabel cscope env }) (compPost (model prog w) A E use Q acc cenv.locals) s₄) E s₃) E s₂
theorem x_lcomp {elt iter : Expr} {x : Str} {px : Pos} {cscope : Scope} {cl : List (Str × Addr)} {pos : Pos} {Q : Value → Shared → Prop} {s : Shared}
    (hs : ∀ x, foldedSetIterable iter env x = pure x) (hclos : closureFor cscope env = pure cl) (hkind : cscope.kind = .function) (hnames : ∀ y ∈ cscope.names, y.2 = .local → cscope.names.lookup y.1 = some .local)
    (H : wpAny (model prog w) A (eval iter env) (fun xv s₁ => wpAny (model prog w) A (pyIter xv) (AfterIter prog w A E elt iter x px cscope cl pos env none Q) E s₁) E s) :
    wpAny (model prog w) A (eval (.ListComp elt [⟨.Name x px, iter, [], 0⟩] cscope pos) env) Q E s := by
  rw [eval_ListComp]
  exact wpAny_comprehension_free (use := none) rfl hs hclos hkind hnames H
theorem x_acomp {elt iter : Expr} {x y : Str} {px py : Pos} {cscope : Scope} {cl : List (Str × Addr)} {pos spos : Pos} {Q : Flow → Shared → Prop} {s : Shared}
    (hsw : swapsWith (.ListComp elt [⟨.Name x px, iter, [], 0⟩] cscope pos) (some (.Name y py)) spos.line env = pure true)
    (hs : ∀ x, foldedSetIterable iter env x = pure x) (hclos : closureFor cscope env = pure cl) (hkind : cscope.kind = .function) (hnames : ∀ y ∈ cscope.names, y.2 = .local → cscope.names.lookup y.1 = some .local)
    (H : wpAny (model prog w) A (eval iter env) (fun xv s₁ => wpAny (model prog w) A (pyIter xv) (AfterIter prog w A E elt iter x px cscope cl pos env (some (assign (.Name y py) env)) (fun _ s' => Q .next s')) E s₁) E s) :
    wpAny (model prog w) A (exec (.Assign [.Name y py] (.ListComp elt [⟨.Name x px, iter, [], 0⟩] cscope pos) spos) env) Q E s := by
  rw [exec_Assign_Name_used _ _ _ _ hsw]
  refine wpAny_bind (wpAny_standAt (wpAny_bind ?_))
  show wpAny _ A (do let _ ← comprehension (.ListComp elt [⟨.Name x px, iter, [], 0⟩] cscope pos) cscope env _ (newList []) false (eval iter env) (some (assign (.Name y py) env))) _ _ s
  exact wpAny_bind (wpAny_mono (wpAny_comprehension_free (use := some (assign (.Name y py) env)) (Q := fun _ s' => Q .next s') rfl hs hclos hkind hnames H) (fun _ s' hq => wpAny_pure (wpAny_pure hq)) fun _ _ e => e)
/-- the block of a comprehension over what walks -/
theorem comp_block {elt iter : Expr} {x : Str} {px : Pos} {cscope : Scope} {cl : List (Str × Addr)} {pos : Pos} {I : Addr} {fp wr : List Addr} {n : Nat} {P : Nat → Value → Prop} {St : Nat → Heap → Prop} {use : Option (Value → Sem Unit)} {Q : Value → Shared → Prop}
    (W : Walks prog w A I fp wr n P St) (hsz : n ≤ 100000) (hcell : ∀ y ∈ cscope.names, y.2 ≠ .cell) (hkind : cscope.kind = .function) (hx : cscope.names.lookup x = some .local)
    (hLf : L ∉ fp) (hwr : ∀ b ∈ wr, g.get? b = none) (hlive : ∀ i h, St i h → ∀ b ∈ wr, ∃ o, h.get? b = some o) (hfp : ∀ b ∈ fp, b < h.objs.size)
    (J : Nat → List Value → Ledger → Array GenState → Prop) (h0 : J 0 [] news gs) (F : Fr g L h mm) (N : News g L h news) (hnw : ∀ p ∈ news, p.1 ∉ wr) (hst : St 0 h)
    (turn : ∀ i v ys news gs' h tk own C D mC E', i < n → P i v → J i ys news gs' → Fr g L h mm → News g L h (own ++ news) → (∀ p ∈ news, p.1 ∉ C :: D :: wr) → (∀ b ∈ C :: D :: wr, ∃ o, (b, o) ∈ own) → (∀ p ∈ own, p.1 ∈ C :: D :: fp) → h.Ns C mC → mC x = some v →
      wpAny (model prog w) A (eval elt (compEnvC cscope cl C env)) (TurnEnd J dr os g L mm own (C :: D :: wr) i ys) E' ⟨h, gs', dr, tk, os⟩)
    (done : ∀ C D ys k news' gs' h' tk' mC, J n ys news' gs' → ys.length = n → Fr g L h' mm → News g L h' ((D, lob ys k) :: news') → (∀ p ∈ news', p.1 ≠ D) → (∀ p ∈ (D, lob ys k) :: news', p.1 ≠ C) → C ≠ L → g.get? C = none → h'.Ns C mC → compPost (model prog w) A E use Q (.ref D) C (.ok .next) ⟨h', gs', dr, tk', os⟩) :
    AfterIter prog w A E elt iter x px cscope cl pos env use Q (.ref I) ⟨h, gs, dr, tk, os⟩ := by
  unfold AfterIter
  refine wpAny_newObj_type (s := ⟨h, gs, dr, tk, os⟩) (wpAny_newFunctionEnv hcell (by intro y hy; simp at hy) (fun h₁ hns₁ hsb₁ => ?_) hkind)
  dsimp only at hns₁ hsb₁ ⊢
  generalize hH2 : h.push { cls := .type "list", dict := none, data := .seq ([] : List Value).toArray } = H2 at hns₁ hsb₁ ⊢
  have hC : H2.objs.size = h.objs.size + 1 := by rw [← hH2, Heap.size_push]
  have hDC : h.objs.size ≠ H2.objs.size := by rw [hC]; exact Nat.ne_of_lt (Nat.lt_succ_self _)
  have below : ∀ b, b < h.objs.size → b ≠ H2.objs.size ∧ b ≠ h.objs.size := fun b hb => ⟨by rw [hC]; exact Nat.ne_of_lt (Nat.lt_succ_of_lt hb), Nat.ne_of_lt hb⟩
  have hDf : h.objs.size ∉ fp := fun hm => Nat.lt_irrefl _ (hfp _ hm)
  have hCf : H2.objs.size ∉ fp := fun hm => by have := hfp _ hm; rw [hC] at this; exact Nat.lt_irrefl _ (Nat.lt_of_succ_lt this)
  have old : ∀ b o, h.get? b = some o → h₁.get? b = some o := fun b o e => hsb₁.extBut b o (below b (Heap.lt_size e)).1 (Heap.get?_push_of_some _ (hH2 ▸ Heap.get?_push_of_some _ e))
  have hacc : h₁.get? h.objs.size = some (lob [] 0) := hsb₁.extBut _ _ hDC (Heap.get?_push_of_some _ (hH2 ▸ Heap.get?_push_size _ rfl))
  have hst₁ : St 0 h₁ := W.frame _ _ _ hst fun b _ o e => old b o e
  have freshg : ∀ a, h.objs.size ≤ a → g.get? a = none := fun a ha => by
    cases e : g.get? a with
    | none => rfl
    | some o' => exact absurd (Heap.lt_size (F.keep _ _ e)) (Nat.not_lt.mpr ha)
  have hLlt : L < h.objs.size := F.ns.lt
  have hCL : H2.objs.size ≠ L := by rw [hC]; exact Nat.ne_of_gt (Nat.lt_succ_of_lt hLlt)
  have hDL : h.objs.size ≠ L := Nat.ne_of_gt hLlt
  have hCg : g.get? H2.objs.size = none := freshg _ (by rw [hC]; exact Nat.le_succ _)
  have hDg : g.get? h.objs.size = none := freshg _ (Nat.le_refl _)
  have N1 : News g L h₁ ((h.objs.size, lob [] 0) :: news) := fun p hp => by
    rcases List.mem_cons.mp hp with rfl | hp
    · exact ⟨hacc, hDL, hDg⟩
    · exact news_ke N old p hp
  have F1 : Fr g L h₁ mm := F.keeps old
  have hnw1 : ∀ p ∈ news, p.1 ∉ H2.objs.size :: h.objs.size :: wr := fun p hp q => by
    have hlt := Heap.lt_size (N p hp).1
    rcases List.mem_cons.mp q with q | q
    · exact (below _ hlt).1 q
    rcases List.mem_cons.mp q with q | q
    · exact (below _ hlt).2 q
    exact hnw p hp q
  have loop : ∀ tk', codeAny (model prog w) A (.compLoop (.ListComp elt [⟨.Name x px, iter, [], 0⟩] cscope pos) 0 (.ref I) (.ref h.objs.size) (compEnvC cscope cl H2.objs.size env)) (compPost (model prog w) A E use Q (.ref h.objs.size) H2.objs.size) ⟨h₁, gs, dr, tk', os⟩ := by
    intro tk'
    refine comp_loop W hsz hkind hx hLf hwr hlive hDC hDf hCf hCL hCg J h0 F1 N1 hnw1 hst₁ hns₁ (fun i v ys news gs' h tk own mC E' => turn i v ys news gs' h tk own _ _ mC E') fun ys k news' gs' h' tk' mC hJ hy F' N' hw hn => ?_
    refine done _ _ ys k news' gs' h' tk' mC hJ hy F' N' (fun p hp q => hw p hp (by rw [q]; exact List.mem_cons_of_mem _ (List.mem_cons_self ..))) (fun p hp q => ?_) hCL hCg hn
    rcases List.mem_cons.mp hp with rfl | hp
    · exact hDC q
    · exact hw p hp (by rw [q]; exact List.mem_cons_self ..)
  exact codeAny_compStart_list (loop _) (W.self 0 _ _ _ hst₁ (loop _))
theorem comp_end0 {C D : Addr} {ys : List Value} {k : Nat} {news' : Ledger} {mC : Str → Option Value} {P : Shared → Prop} (F : Fr g L h mm) (N : News g L h ((D, lob ys k) :: news')) (hC : ∀ p ∈ (D, lob ys k) :: news', p.1 ≠ C) (hCL : C ≠ L) (hCg : g.get? C = none) (hn : h.Ns C mC)
    (H : ∀ h', Fr g L h' mm → News g L h' ((D, lob ys k) :: news') → P ⟨h', gs, dr, tk, os⟩) : ∃ m, h.Ns C m ∧ ∀ h', Heap.SameBut C h h' → P ⟨h', gs, dr, tk, os⟩ :=
  ⟨mC, hn, fun h' hs => H h' ⟨F.ns.at fun o e => hs.extBut _ _ hCL.symm e, fun b o e => hs.extBut _ _ (fun hm => by rw [hm, hCg] at e; cases e) (F.keep b o e), F.above⟩ fun p hp => ⟨hs.extBut _ _ (hC p hp) (N p hp).1, (N p hp).2⟩⟩
/-- its value is used as it stands -/
theorem comp_end {C D : Addr} {ys : List Value} {k : Nat} {news' : Ledger} {mC : Str → Option Value} {Q : Value → Shared → Prop} (F : Fr g L h mm) (N : News g L h ((D, lob ys k) :: news')) (hC : ∀ p ∈ (D, lob ys k) :: news', p.1 ≠ C) (hCL : C ≠ L) (hCg : g.get? C = none) (hn : h.Ns C mC)
    (H : ∀ h', Fr g L h' mm → News g L h' ((D, lob ys k) :: news') → Q (.ref D) ⟨h', gs, dr, tk, os⟩) : compPost (model prog w) A E none Q (.ref D) C (.ok .next) ⟨h, gs, dr, tk, os⟩ :=
  comp_end0 (P := fun s => Q (.ref D) s) F N hC hCL hCg hn H
/-- its value is bound -/
theorem comp_end_use {C D a : Addr} {ys : List Value} {k : Nat} {news' : Ledger} {mC : Str → Option Value} {Q : Value → Shared → Prop} {y : Str} {py : Pos} {ρ : List (Str × Value)} {name : Str} {scope : Scope} {cd : Value} (F : Fr g L h (look ρ)) (N : News g L h ((D, lob ys k) :: news')) (hC : ∀ p ∈ (D, lob ys k) :: news', p.1 ≠ C) (hCL : C ≠ L) (hCg : g.get? C = none) (hn : h.Ns C mC)
    (hk : scope.kind = .function) (hl : scope.names.lookup y = some .local)
    (H : ∀ h' tk', Fr g L h' (look ((y, .ref D) :: ρ)) → News g L h' ((D, lob ys k) :: news') → Q .none ⟨h', gs, dr, tk', os⟩) : compPost (model prog w) A E (some (assign (.Name y py) (envOf name scope L a cd))) Q (.ref D) C (.ok .next) ⟨h, gs, dr, tk, os⟩ := by
  have hCn : News g L h ((C, (h.get? C).getD default) :: (D, lob ys k) :: news') := fun p hp => by
    rcases List.mem_cons.mp hp with rfl | hp
    · obtain ⟨o, _, _, q, _⟩ := hn
      exact ⟨by rw [q]; rfl, hCL, hCg⟩
    · exact N p hp
  show wpAny _ A (assign (.Name y py) (envOf name scope L a cd) (.ref D)) _ _ _
  refine wpAny_assign_Name (x_store F hCn hk hl fun h' tk' F' N' => ?_)
  obtain ⟨o, ho⟩ : ∃ o, h.get? C = some o := let ⟨o, _, _, q, _⟩ := hn; ⟨o, q⟩
  have hC' : h'.get? C = some o := by have := (N' _ (.head _)).1; rw [ho] at this; exact this
  exact comp_end0 (P := fun s => Q .none s) (tk := tk') F' (N'.tail') hC hCL hCg (hn.at' fun ob e => by rw [ho] at e; cases e; exact hC') (fun h'' F'' N'' => H h'' tk' F'' N'')
end
end

section
/-! sorted(..) of a list of bytes -/
def nats (a : List UInt8) : List Nat := a.map (·.toNat)
theorem ltB_nats : ∀ (a b : List UInt8), ltB a b = decide (nats a < nats b)
  | [], [] => by unfold ltB nats; simp [Builtin.Bytes.order]
  | [], _ :: _ => by unfold ltB nats; simp [Builtin.Bytes.order]
  | _ :: _, [] => by unfold ltB nats; simp [Builtin.Bytes.order]
  | x :: a, y :: b => by
    have ih := ltB_nats a b
    unfold ltB nats at *
    rw [List.map_cons, List.map_cons]
    show ((if x < y then Ordering.lt else if x > y then Ordering.gt else Builtin.Bytes.order a b) == Ordering.lt) = _
    by_cases h : x < y
    · rw [if_pos h]
      have := UInt8.lt_iff_toNat_lt.mp h
      rw [show (Ordering.lt == Ordering.lt) = true from rfl]
      exact (decide_eq_true (List.cons_lt_cons_iff.mpr (.inl this))).symm
    · rw [if_neg h]
      by_cases h2 : x > y
      · rw [if_pos h2]
        have := UInt8.lt_iff_toNat_lt.mp h2
        rw [show (Ordering.gt == Ordering.lt) = false from rfl]
        refine (decide_eq_false fun q => ?_).symm
        rcases List.cons_lt_cons_iff.mp q with q | ⟨q, _⟩ <;> omega
      · rw [if_neg h2, ih]
        have e : x.toNat = y.toNat := by
          have h1 : ¬ x.toNat < y.toNat := fun q => h (UInt8.lt_iff_toNat_lt.mpr q)
          have h3 : ¬ y.toNat < x.toNat := fun q => h2 (UInt8.lt_iff_toNat_lt.mpr q)
          omega
        rw [e]
        congr 1
        apply propext
        rw [List.cons_lt_cons_iff]
        constructor
        · intro q; exact .inr ⟨rfl, q⟩
        · rintro (q | ⟨_, q⟩)
          · exact absurd q (Nat.lt_irrefl _)
          · exact q
theorem nats_inj : ∀ {a b : List UInt8}, nats a = nats b → a = b
  | [], [], _ => rfl
  | [], _ :: _, h => by simp [nats] at h
  | _ :: _, [], h => by simp [nats] at h
  | x :: a, y :: b, h => by
    unfold nats at h
    rw [List.map_cons, List.map_cons] at h
    injection h with h1 h2
    rw [UInt8.toNat_inj.mp h1, nats_inj h2]
theorem ltB_trans {a b c : List UInt8} (h1 : ltB a b = true) (h2 : ltB b c = true) : ltB a c = true := by
  rw [ltB_nats, decide_eq_true_eq] at *
  exact List.lt_trans h1 h2
theorem ltB_neg {a c : List UInt8} (b : List UInt8) (h : ltB a c = true) : ltB a b = true ∨ ltB b c = true := by
  simp only [ltB_nats, decide_eq_true_eq] at *
  by_cases hab : nats a < nats b
  · exact .inl hab
  · exact .inr (List.lt_of_le_of_lt (List.not_lt.mp hab) h)
theorem ltB_total {a b : List UInt8} (h1 : ltB a b = false) (h2 : ltB b a = false) : a = b := by
  simp only [ltB_nats, decide_eq_false_iff_not] at *
  exact nats_inj (List.le_antisymm (List.not_lt.mp h2) (List.not_lt.mp h1))
@[reducible] def byteKind : KeyKind where
  α := List UInt8
  blt := ltB
  irrefl := ltB_refl
  trans _ _ _ := ltB_trans
  negTrans _ b _ := ltB_neg b
  total _ _ := ltB_total
  keyOf v := match v with | .bytes x _ => some x.toList | _ => none
  dflt := []
section
variable {prog : Program} {w : World} {A : Around} {E : Value → Shared → Prop} {s : Shared}
theorem call_bytes_lt {b c : Array UInt8} {t u : Tok} {Q : Value → Shared → Prop} (h : Q (.bool (ltB b.toList c.toList)) s) : wpAny (model prog w) A (call (.builtin "bytes.__lt__") [.bytes b t, .bytes c u]) Q E s := by
  refine wpAny_call_entry slot_blt (typeIs_bytes s b t) entry_blt ?_ (args_blt _ _)
  show wpAny _ A.in1 (isInstance (.bytes c u) (.type "bytes") >>= fun r => _) _ E s
  refine wpAny_bind (wpAny_isInstance (typeIs_bytes s c u) PySem.F.sub_bytes_bytes ?_)
  exact wpAny_pure ⟨_, rfl, h⟩
theorem oneLt_bytes {b c : Array UInt8} {t u : Tok} {Q : Bool → Shared → Prop} (h : Q (ltB b.toList c.toList) s) : wpAny (model prog w) A (oneLt' true (.bytes b t) (.bytes c u)) Q E s := by
  rw [oneLt'_eq]
  simp only [if_true]
  refine wpAny_bind (wpAny_cRoomFor_byValue rfl ?_)
  refine wpAny_bind (wpAny_callSpecialIfBound?_slot (typeIs_bytes s b t) slot_blt (call_bytes_lt ?_))
  exact wpAny_truthy_bool h
end
theorem byteKind_oneLt : byteKind.OneLt := by
  intro prog w A E s x y a b Q ha hb h
  cases x <;> simp only [byteKind, reduceCtorEq, Option.some.injEq] at ha
  cases y <;> simp only [byteKind, reduceCtorEq, Option.some.injEq] at hb
  cases ha; cases hb
  exact oneLt_bytes h
inductive BsAre : List Value → List (List UInt8) → Prop
  | nil : BsAre [] []
  | cons {vs bs} (x : List UInt8) (t : Tok) : BsAre vs bs → BsAre (.bytes x.toArray t :: vs) (x :: bs)
def bsOf : Value → List UInt8
  | .bytes x _ => x.toList
  | _ => []
theorem BsAre.all : ∀ {vs : List Value} {ss : List (List UInt8)}, BsAre vs ss → ∀ v, v ∈ vs → ∃ x t, v = .bytes x t
  | _, _, .nil, v, hv => by simp at hv
  | _, _, .cons x t h, v, hv => by
    rcases List.mem_cons.mp hv with rfl | hv
    · exact ⟨x.toArray, t, rfl⟩
    · exact h.all v hv
theorem BsAre.bs : ∀ {vs : List Value} {ss : List (List UInt8)}, BsAre vs ss → vs.map bsOf = ss
  | _, _, .nil => rfl
  | _, _, .cons x t h => by rw [List.map_cons, h.bs]; rfl
theorem BsAre.length {vs : List Value} {ss : List (List UInt8)} (h : BsAre vs ss) : vs.length = ss.length := by rw [← h.bs, List.length_map]
theorem bsAre_map : ∀ (vs : List Value), (∀ v, v ∈ vs → ∃ x t, v = .bytes x t) → BsAre vs (vs.map bsOf)
  | [], _ => .nil
  | v :: vs, h => by
    obtain ⟨x, t, rfl⟩ := h v (List.mem_cons_self ..)
    exact .cons x.toList t (bsAre_map vs fun u hu => h u (List.mem_cons_of_mem _ hu))
theorem BsAre.get : ∀ {vs : List Value} {bs : List (List UInt8)}, BsAre vs bs → ∀ (i : Nat), i < bs.length → ∃ t, vs[i]? = some (.bytes (bs.getD i []).toArray t)
  | _, _, .nil, i, h => by simp at h
  | _, _, .cons x t r, 0, _ => ⟨t, rfl⟩
  | _, _, .cons x t r, i + 1, h => by
    obtain ⟨t', e⟩ := r.get i (by simpa using h)
    exact ⟨t', by simpa using e⟩
theorem BsAre.keysOf {vs : List Value} {ss : List (List UInt8)} (hS : BsAre vs ss) : KeysOf byteKind (pairsOf vs) := by
  intro p hp
  rw [pairsOf_toList] at hp
  obtain ⟨x, t, e⟩ := hS.all _ (mem_zip_self hp).2
  exact ⟨x.toList, by rw [e]⟩
theorem KK_bytes {xs : Array Keyed} {i : Nat} (hi : i < xs.size) {x : Array UInt8} {t : Tok} {q : Value} (hx : xs[i] = (.bytes x t, q)) : KK byteKind xs i = x.toList := by
  unfold KK; rw [getElem?_pos xs i hi, hx]; rfl
theorem firstOfTuple'_bytes (x : Array UInt8) (t : Tok) : firstOfTuple' (.bytes x t) = pure none := rfl
theorem mapM_first_bytes : ∀ {vs : List Value} {ss : List (List UInt8)}, BsAre vs ss → vs.mapM firstOfTuple' = pure (vs.map fun _ => none)
  | _, _, .nil => by simp
  | _, _, .cons x t h => by rw [List.mapM_cons, firstOfTuple'_bytes, mapM_first_bytes h]; simp
theorem mapM_typeOf_bytes : ∀ {vs : List Value} {ss : List (List UInt8)}, BsAre vs ss → vs.mapM typeOf = pure (vs.map fun _ => Value.type "bytes")
  | _, _, .nil => by simp
  | _, _, .cons x t h => by
    rw [List.mapM_cons, mapM_typeOf_bytes h]
    show (pure (Value.type "bytes") >>= fun b => pure _ >>= fun bs => pure (b :: bs)) = _
    simp
theorem keyKind_bytes {v₁ v₂ : Value} {vs : List Value} {ss : List (List UInt8)} (hS : BsAre (v₁ :: v₂ :: vs) ss) : keyKind' (v₁ :: v₂ :: vs).toArray = pure oneType' := by
  rw [keyKind'_eq, List.mapM_toArray, mapM_first_bytes hS]
  simp only [map_pure, pure_bind]
  rw [if_neg (by simp), if_neg (by simp)]
  rw [oneTypeOnly'_eq, List.mapM_toArray, mapM_typeOf_bytes hS]
  simp only [map_pure, pure_bind]
  have hall : ((List.map (fun _ => Value.type "bytes") (v₁ :: v₂ :: vs)).toArray.all fun x => x == Value.type "bytes") = true := by
    simp only [List.all_toArray, List.all_map, List.all_eq_true]
    intro _ _
    rfl
  have h0 : (List.map (fun _ => Value.type "bytes") (v₁ :: v₂ :: vs)).toArray[0]? = some (Value.type "bytes") := by simp
  rw [h0]
  simp only [hall, if_true, pure_bind, Option.isSome_some]
theorem sorted_out_bytes {vs : List Value} {ss : List (List UInt8)} (hS : BsAre vs ss) {xs : Array Keyed} (hp : xs.Perm (pairsOf vs)) (hs : SortedToK byteKind xs (pairsOf vs).size) :
    ∃ ss', BsAre (xs.map (·.2)).toList ss' ∧ ss'.Perm ss ∧ ss'.Pairwise (fun a b => ltB b a = false) := by
  have hl : xs.toList.Perm (vs.zip vs) := by rw [← pairsOf_toList]; exact Array.perm_iff_toList_perm.mp hp
  have hmem : ∀ p, p ∈ xs.toList → p.1 = p.2 ∧ p.1 ∈ vs := fun p hp' => mem_zip_self (hl.mem_iff.mp hp')
  refine ⟨xs.toList.map (fun p => bsOf p.1), ?_, ?_, ?_⟩
  · have e : (xs.map (·.2)).toList = xs.toList.map (·.1) := by
      rw [Array.toList_map]; exact List.map_congr_left fun p hp' => (hmem p hp').1.symm
    rw [e]
    have h1 := bsAre_map (xs.toList.map (·.1)) (by
      intro v hv
      obtain ⟨p, hp', rfl⟩ := List.mem_map.mp hv
      exact hS.all _ (hmem p hp').2)
    rwa [List.map_map] at h1
  · have h1 := hl.map (fun p => bsOf p.1)
    have e2 : (vs.zip vs).map (fun p => bsOf p.1) = ss := by
      have : (vs.zip vs).map (fun p => bsOf p.1) = ((vs.zip vs).map Prod.fst).map bsOf := by rw [List.map_map]; rfl
      rw [this, List.map_fst_zip (Nat.le_refl _), hS.bs]
    rwa [e2] at h1
  · rw [List.pairwise_iff_getElem]
    intro i j hi hj hij
    have hi' : i < xs.size := by simpa using hi
    have hj' : j < xs.size := by simpa using hj
    have h1 := hs i j (Nat.le_of_lt hij) (by rw [← hp.size_eq]; exact hj')
    obtain ⟨x, t, ex⟩ := hS.all _ (hmem xs[i] (by simp)).2
    obtain ⟨y, u, ey⟩ := hS.all _ (hmem xs[j] (by simp)).2
    rw [KK_bytes hi' (x := x) (t := t) (q := xs[i].2) (Prod.ext ex rfl), KK_bytes hj' (x := y) (t := u) (q := xs[j].2) (Prod.ext ey rfl)] at h1
    change ltB y.toList x.toList = false at h1
    simp only [List.getElem_map, Array.getElem_toList]
    rw [show bsOf xs[i].1 = x.toList by rw [ex]; rfl, show bsOf xs[j].1 = y.toList by rw [ey]; rfl]
    exact h1
section
variable {prog : Program} {w : World} {A : Around} {E : Value → Shared → Prop} {s : Shared}
theorem x_sortedb {h₀ : Heap} {L : Addr} {m : Str → Option Value} {news : List (Addr × Obj)} {l : Addr} {vs : List Value} {bs : List (List UInt8)} {Q : Value → Shared → Prop} {gs : Array GenState} {dr : Drawn} {tk : Nat} {os : OsState} {h : Heap}
    (F : Fr h₀ L h m) (N : News h₀ L h news) (hl : Heap.IsList h l vs.toArray) (hS : BsAre vs bs) (h64 : vs.length < 64)
    (H : ∀ h' u vs' bs' e, (∀ p ∈ news, p.1 ≠ u) → Fr h₀ L h' m → News h₀ L h' ((u, lob vs' e) :: news) → BsAre vs' bs' → bs'.Perm bs → bs'.Pairwise (fun a b => ltB b a = false) → Q (.ref u) ⟨h', gs, dr, tk, os⟩) :
    wpAny (model prog w) A (call (.builtin "sorted") [.ref l]) Q E ⟨h, gs, dr, tk, os⟩ := by
  refine sortedK (s := ⟨h, gs, dr, tk, os⟩) byteKind_oneLt hl hS.keysOf (fun v₁ v₂ rest e => keyKind_bytes (by rw [← e]; exact hS)) h64 fun st' hp hs => ?_
  obtain ⟨ss', h1, h2, h3⟩ := sorted_out_bytes hS hp hs
  obtain ⟨e, he⟩ := sortedAll_at h vs ((arrOf st').map (·.2))
  refine H _ _ _ ss' e (fun p hp q => ?_) (F.kept fun _ _ => sortedAll_old) (N.kept_cons F (fun _ _ => sortedAll_old) (Nat.le_succ _) he) h1 h2 h3
  have := Heap.lt_size (N p hp).1
  rw [q] at this
  exact Nat.lt_irrefl _ (Nat.lt_of_succ_lt this)
end
end

section
/-! names in any function's frame, cells among them -/
section
variable {w : World} {A : Around} {E : Value → Shared → Prop} {gs : Array GenState} {dr : Drawn} {tk : Nat} {os : OsState} {h g : Heap} {L a : Addr} {mm mC : Str → Option Value} {ρ : List (Str × Value)} {news : Ledger} {env : Env} {Q : Value → Shared → Prop}
theorem xe_name {M : Model} {x : Str} {pos : Pos} {v : Value} (hn : h.Ns env.locals mC) (hv : mC x = some v) (hk : env.scope.kind = .function) (hl : env.kindOf x = some .local) (hd : (x == ("__debug__" : Str)) = false) (k : Q v ⟨h, gs, dr, tk, os⟩) :
    wpAny M A (eval (.Name x pos) env) Q E ⟨h, gs, dr, tk, os⟩ := wpAny_Name (wpAny_loadName_local hk hl hn hv k) hd
theorem xe_cell {M : Model} {x : Str} {pos : Pos} {v : Value} {c : Addr} {o : Obj} (hc : env.cells.lookup x = some c) (hk : env.scope.kind = .function) (hl : env.kindOf x = some .cell) (hd : (x == ("__debug__" : Str)) = false) (N : News g L h news) (hm : (c, o) ∈ news) (ho : o.data = .cell (some v)) (k : Q v ⟨h, gs, dr, tk, os⟩) :
    wpAny M A (eval (.Name x pos) env) Q E ⟨h, gs, dr, tk, os⟩ := wpAny_Name (wpAny_loadName_cell hk hl hc ⟨o, N.get hm, ho⟩ k) hd
theorem xe_free {M : Model} {x : Str} {pos : Pos} {v : Value} {c : Addr} {o : Obj} (hc : env.cells.lookup x = some c) (hk : env.scope.kind = .function) (hl : env.kindOf x = some .free) (hd : (x == ("__debug__" : Str)) = false) (hd2 : (x == ("__classdict__" : Str)) = false) (N : News g L h news) (hm : (c, o) ∈ news) (ho : o.data = .cell (some v)) (k : Q v ⟨h, gs, dr, tk, os⟩) :
    wpAny M A (eval (.Name x pos) env) Q E ⟨h, gs, dr, tk, os⟩ := wpAny_Name (wpAny_loadName_free hk hl hc ⟨o, N.get hm, ho⟩ k hd2) hd
theorem xe_glob {M : Model} {x : Str} {pos : Pos} {v : Value} (B : Base w h) (hv : globs.lookup x = some v) (hg : env.globals = mainGlobals) (hk : env.scope.kind = .function) (hl : env.kindOf x = some .globalImplicit)
    (hd : (x == ("__debug__" : Str)) = false) (k : Q v ⟨h, gs, dr, tk, os⟩) : wpAny M A (eval (.Name x pos) env) Q E ⟨h, gs, dr, tk, os⟩ := by
  obtain ⟨mg, h1, h2, _⟩ := B.g
  exact Name_function_global hk hl (loadGlobal_global (s := ⟨h, gs, dr, tk, os⟩) (show h.Ns env.globals mg from hg ▸ h1) (h2 _ (globs_mem hv)) k) hd
theorem xe_blt {M : Model} {x : Str} {pos : Pos} {v : Value} (B : Base w h) (hb : bltNames.contains x = true) (hv : bootBuiltins x = some v) (hg : env.globals = mainGlobals) (hbu : env.builtins = builtinsNs) (hk : env.scope.kind = .function) (hl : env.kindOf x = some .globalImplicit)
    (hd : (x == ("__debug__" : Str)) = false) (hn : x ≠ "__name__") (k : Q v ⟨h, gs, dr, tk, os⟩) : wpAny M A (eval (.Name x pos) env) Q E ⟨h, gs, dr, tk, os⟩ := by
  obtain ⟨mg, h1, _, h3⟩ := B.g
  obtain ⟨mb, b1, b2⟩ := B.b
  exact Name_function_global hk hl (loadGlobal_builtin (s := ⟨h, gs, dr, tk, os⟩) (show h.Ns env.globals mg from hg ▸ h1) (h3 _ (List.contains_iff_mem.mp hb)) (show h.Ns env.builtins mb from hbu ▸ b1) ((b2 _ hn).trans hv) k) hd
theorem xe_call {x : Str} {np pos : Pos} {e : Expr} {rest : List Expr} {f : Addr} {o : Obj} {fd : FuncData} (B : Base w h) (hv : globs.lookup x = some (.ref f)) (hg : env.globals = mainGlobals) (hk : env.scope.kind = .function) (hl : env.kindOf x = some .globalImplicit)
    (hd : (x == ("__debug__" : Str)) = false) (ho : (objs w.params).lookup f = some o) (hdat : o.data = .func fd) (he : starEach (e :: rest) env = (false, eval e env) :: starEach rest env)
    (H : wpAny (model pw w) A (spliced (backTo pos (starEach (e :: rest) env))) (Called w A E f Q) E ⟨h, gs, dr, tk, os⟩) :
    wpAny (model pw w) A (eval (.Call (.Name x np) (e :: rest) [] pos) env) Q E ⟨h, gs, dr, tk, os⟩ := by
  refine wpAny_Call_ofName (xe_glob B hv hg hk hl hd ?_)
  refine callWith_def (o := o) hdat (wpAny_mono H (fun vs s₁ h₁ => ?_) fun _ _ x => x) he
  obtain ⟨⟨o', e1, e2⟩, h2⟩ := h₁
  rw [ho] at e1
  cases e1
  exact ⟨e2, h2⟩
theorem xe_called {f : Addr} {o : Obj} {vs : List Value} (B : Base w h) (ho : (objs w.params).lookup f = some o) (H : wpAny (model pw w) A (call (.ref f) vs) Q E ⟨h, gs, dr, tk, os⟩) :
    Called w A E f Q vs ⟨h, gs, dr, tk, os⟩ := ⟨⟨o, ho, B.get ho⟩, H⟩
theorem xe_callb {x : Str} {np pos : Pos} {e : Expr} {rest : List Expr} {id : String} (B : Base w h) (hb : bltNames.contains x = true) (hv : bootBuiltins x = some (.builtin id)) (hg : env.globals = mainGlobals) (hbu : env.builtins = builtinsNs) (hk : env.scope.kind = .function) (hl : env.kindOf x = some .globalImplicit)
    (hd : (x == ("__debug__" : Str)) = false) (hn : x ≠ "__name__") (he : starEach (e :: rest) env = (false, eval e env) :: starEach rest env) (hp : (backTo pos (starEach rest env)).any (·.1) = false)
    (H : wpAny (model pw w) A (spliced (backTo pos (starEach (e :: rest) env))) (fun vs s₁ => wpAny (model pw w) A (call (.builtin id) vs) Q E s₁) E ⟨h, gs, dr, tk, os⟩) :
    wpAny (model pw w) A (eval (.Call (.Name x np) (e :: rest) [] pos) env) Q E ⟨h, gs, dr, tk, os⟩ :=
  wpAny_Call_ofName (xe_blt B hb hv hg hbu hk hl hd hn (callWith_builtin1 H he hp))
theorem xe_callt {x : Str} {np pos : Pos} {e : Expr} {rest : List Expr} {T : String} (B : Base w h) (hb : bltNames.contains x = true) (hv : bootBuiltins x = some (.type T)) (hg : env.globals = mainGlobals) (hbu : env.builtins = builtinsNs) (hk : env.scope.kind = .function) (hl : env.kindOf x = some .globalImplicit)
    (hd : (x == ("__debug__" : Str)) = false) (hn : x ≠ "__name__") (he : starEach (e :: rest) env = (false, eval e env) :: starEach rest env) (hp : (backTo pos (starEach rest env)).any (·.1) = false)
    (H : wpAny (model pw w) A (spliced (backTo pos (starEach (e :: rest) env))) (fun vs s₁ => wpAny (model pw w) A (call (.type T) vs) Q E s₁) E ⟨h, gs, dr, tk, os⟩) :
    wpAny (model pw w) A (eval (.Call (.Name x np) (e :: rest) [] pos) env) Q E ⟨h, gs, dr, tk, os⟩ :=
  wpAny_Call_ofName (xe_blt B hb hv hg hbu hk hl hd hn (PyProof.Rows.callWith_type1 H he hp))
theorem xe_store {M : Model} {x : Str} {v : Value} {name : Str} {scope : Scope} {cd : Value} {Q : Unit → Shared → Prop} (F : Fr g L h (look ρ)) (N : News g L h news) (hk : scope.kind = .function) (hl : (envOfC name scope L a cd).kindOf x = some .local)
    (H : ∀ h' tk', Fr g L h' (look ((x, v) :: ρ)) → News g L h' news → Q () ⟨h', gs, dr, tk', os⟩) :
    wpAny M A (storeName (envOfC name scope L a cd) x v) Q E ⟨h, gs, dr, tk, os⟩ := stLocN (s := ⟨h, gs, dr, tk, os⟩) F N (fun h' F' N' => H h' _ (look_cons ρ x v ▸ F') N') hk hl
/-- a function is entered whose locals are cells in part -/
theorem x_enterC {name : Str} {params : Arguments} {body : List Stmt} {scope : Scope} {pm doc : Value} {f c : Addr} {o oc : Obj} {vs : Array Value} {tq : Tok} {vals : List Value} {binds : List (Str × Value)} {lρ : List (Str × Value)}
    (B : Base w h) (hdep : A.depth < recursionLimit) (ho : (objs w.params).lookup f = some o) (hdat : o.data = .func (docDef name params body scope pm (.ref c) doc))
    (hc : (objs w.params).lookup c = some oc) (hcd : oc.data = .fields vs) (hq : vs[1]? = some (.str name tq))
    (hbind : bindArgs (docDef name params body scope pm (.ref c) doc) ⟨vals, []⟩ = pure binds)
    (hkind : ∀ x ∈ binds, scope.names.lookup x.1 = some .local ∨ (scope.names.lookup x.1 = some .cell ∧ ((cellsFrom (h.objs.size + 1) scope.names []).lookup x.1).isSome = true))
    (hnd : ((cellsFrom 0 scope.names []).map (·.1)).Nodup) (hρ : (bindL (envOfC name scope h.objs.size f (.ref c)).kindOf binds fun _ => none) = look lρ)
    (hco : scope.isCoroutine = false) (hgen : scope.isGenerator = false) (hk : scope.kind = .function)
    (H : ∀ h₁ L tk' cells, L = h.objs.size → Fr h L h₁ (look lρ) → News h L h₁ cells → CellsAre (bindC (envOfC name scope L f (.ref c)).kindOf binds fun _ => none) (cellsFrom (L + 1) scope.names []) cells →
      wpAny (model pw w) (A.deeper (envOfC name scope L f (.ref c))) (execs body (envOfC name scope L f (.ref c))) (fun fl s' => Q (match fl with | .ret v => v | _ => .none) s') (fun _ _ => False) ⟨h₁, gs, dr, tk', os⟩) :
    wpAny (model pw w) A (call (.ref f) vals) Q E ⟨h, gs, dr, tk, os⟩ :=
  wpAny_call (call_cellsN_ret (s := ⟨h, gs, dr, tk, os⟩) hdep (B.get ho) hdat B.nolimit ⟨c, oc, vs, tq, rfl, B.get hc, hcd, hq⟩ hbind hkind hnd (fun h₁ tk' cells F N X => H h₁ _ tk' cells rfl (hρ ▸ F) N X) hco hgen hk)
end
/-! operations -/
section
variable {w : World} {A : Around} {E : Value → Shared → Prop} {gs : Array GenState} {dr : Drawn} {tk : Nat} {os : OsState} {h g : Heap} {L : Addr} {mm : Str → Option Value} {news news' : Ledger} {Q : Value → Shared → Prop} {t u : Tok} {prog : Program} {i j : Int}
theorem x_fdivE (hj : 0 < j ∧ j < 1000000) (H : ∀ t' tk', Q (.int (i / j) t') ⟨h, gs, dr, tk', os⟩) : wpAny (model prog w) A (binaryOp .FloorDiv (.int i t) (.int j u)) Q E ⟨h, gs, dr, tk, os⟩ :=
  floordiv_int (by omega) (by rw [Int.fdiv_eq_ediv_of_nonneg _ (by omega)]; exact H _ _) (Or.inl (PyProof.noPylong_small (by omega)))
theorem x_isb1 {x : List UInt8} (B : Base w h) (H : ∀ tk', Q (.bool true) ⟨h, gs, dr, tk', os⟩) : wpAny (model pw w) A (call (.builtin "isinstance") [.bytes x.toArray t, .type "bytes"]) Q E ⟨h, gs, dr, tk, os⟩ :=
  kia_one (s := ⟨h, gs, dr, tk, os⟩) (K := objs w.params) kitx_bytes B.inK trivial (by rfl) (by intro q; cases q) (fun tk' => H tk')
theorem x_isl1 {ax : Addr} {vs : List Value} {n : Nat} (B : Base w h) (hax : h.get? ax = some (lob vs n)) (H : ∀ tk', Q (.bool false) ⟨h, gs, dr, tk', os⟩) : wpAny (model pw w) A (call (.builtin "isinstance") [.ref ax, .type "bytes"]) Q E ⟨h, gs, dr, tk, os⟩ :=
  kia_one (s := ⟨h, gs, dr, tk, os⟩) (K := objs w.params) kitx_list B.inK ⟨_, hax, rfl⟩ (by rfl) (by intro q; cases q) (fun tk' => H tk')
theorem x_neg (H : ∀ t' tk', Q (.int (-i) t') ⟨h, gs, dr, tk', os⟩) : wpAny (model prog w) A (unaryOp .USub (.int i t)) Q E ⟨h, gs, dr, tk, os⟩ := PyProof.Rows.neg_int (H _ _)
theorem x_bne {b c : List UInt8} (H : Q (.bool (b != c)) ⟨h, gs, dr, tk, os⟩) : wpAny (model prog w) A (compareOp .NotEq (.bytes b.toArray t) (.bytes c.toArray u)) Q E ⟨h, gs, dr, tk, os⟩ := ne_bytes H
theorem x_boolne {b c : Bool} (H : Q (.bool (b != c)) ⟨h, gs, dr, tk, os⟩) : wpAny (model prog w) A (compareOp .NotEq (.bool b) (.bool c)) Q E ⟨h, gs, dr, tk, os⟩ := ne_bool H
/-- list + list -/
theorem x_ladd {l b : Addr} {vs ws : List Value} (F : Fr g L h mm) (N : News g L h news) (hl : Heap.IsList h l vs.toArray) (hb : Heap.IsList h b ws.toArray) (hz : vs.length + ws.length ≤ 100000)
    (H : ∀ h' u, (∀ p ∈ news, p.1 ≠ u) → Fr g L h' mm → News g L h' ((u, lob (vs ++ ws) 0) :: news) → Q (.ref u) ⟨h', gs, dr, tk, os⟩) : wpAny (model prog w) A (binaryOp .Add (.ref l) (.ref b)) Q E ⟨h, gs, dr, tk, os⟩ :=
  add_lists (s := ⟨h, gs, dr, tk, os⟩) F N hl hb (fun h' F' N' => H h' _ (news_lt N) F' N') (by rw [sizeLine_eq]; omega)
/-- a slice of a list -/
theorem x_lsl {l : Addr} {vs cells : List Value} {vl vu : Value} {lo hi : Option Int} {value slice : Expr} (F : Fr g L h mm) (N : News g L h news) (hl : Heap.IsList h l vs.toArray) (pl : IsPart vl lo) (pu : IsPart vu hi) (hz : vs.length ≤ 100000)
    (hs : ∀ h : Heap, subscripted slice false (.ref l) (.ref h.objs.size) = operate [.ref h.objs.size, .ref l] (getItem (.ref l) (.ref h.objs.size))) (ht : ∀ r, letTemporaryGo value (.ref l) r = pure ())
    (hc : slicePick vs.toArray lo hi none = cells.toArray)
    (H : ∀ h' u, (∀ p ∈ news, p.1 ≠ u) → Fr g L h' mm → News g L h' ((u, lob cells 0) :: news) → Q (.ref u) ⟨h', gs, dr, tk, os⟩) :
    SlQ (fun i s₂ => wpAny (model prog w) A (subscriptTail value slice (.ref l) i) Q E s₂) vl vu ⟨h, gs, dr, tk, os⟩ :=
  slice_list (s := ⟨h, gs, dr, tk, os⟩) (items := vs.toArray) F N hl pl pu (fun h' F' N' => by
    refine H h' _ (fun p hp e => ?_) F' (by rw [hc] at N'; simpa [lob] using N')
    have z := (N p hp).1
    have := Heap.lt_size z
    rw [e] at this
    exact Nat.lt_irrefl _ (Nat.lt_of_succ_lt this)) (hs h) ht (by rw [List.size_toArray, sizeLine_eq]; omega)
theorem pick_upto {vs : List Value} {i : Int} (h0 : 0 ≤ i) : slicePick vs.toArray none (some i) none = (vs.take i.toNat).toArray := by
  obtain ⟨n, rfl⟩ := Int.eq_ofNat_of_zero_le h0
  rw [slicePick_upto']
  simp
theorem pick_from {vs : List Value} {i : Int} (h0 : 0 ≤ i) : slicePick vs.toArray (some i) none none = (vs.drop i.toNat).toArray := by
  obtain ⟨n, rfl⟩ := Int.eq_ofNat_of_zero_le h0
  rw [slicePick_from']
  simp
/-- the last item of a list -/
theorem x_llast {l : Addr} {vs : List Value} {n : Nat} {x : Value} {value slice : Expr} (hg : h.get? l = some (lob vs n)) (hx : vs[vs.length - 1]? = some x)
    (hs : subscripted slice false (.ref l) (.int (-1) u) = operate [.ref l, .int (-1) u] (getItem (.ref l) (.int (-1) u))) (H : Q x ⟨h, gs, dr, tk, os⟩) :
    wpAny (model prog w) A (subscriptTail value slice (.ref l) (.int (-1) u)) Q E ⟨h, gs, dr, tk, os⟩ := by
  have hlt : vs.length - 1 < vs.length := (List.getElem?_eq_some_iff.mp hx).1
  have hl := isl_of hg
  refine kba_turn (value' := .Name Str.empty default) (fun _ => rfl) ?_
  exact subscriptTail_builtin hl.typeIs PySem.F.slot_list_getitem.lookup (wpAny_getItem_list_neg (s := ⟨h, gs, dr, tk, os⟩) hl (by decide) (by rw [List.size_toArray]; omega) (by decide) (by rw [List.size_toArray, show ((-1 : Int) + (vs.length : Int)).toNat = vs.length - 1 by omega]; simpa using hx) H) hs (fun _ => rfl)
/-- an item of a tuple, within -/
theorem x_tget {l : Addr} {vs : List Value} {n : Nat} {x : Value} {value slice : Expr} (hg : h.get? l = some { cls := .type "tuple", data := .seq vs.toArray n }) (h0 : 0 ≤ i) (hfit : i < 1000000) (hx : vs[i.toNat]? = some x)
    (hs : subscripted slice false (.ref l) (.int i u) = operate [.ref l, .int i u] (getItem (.ref l) (.int i u))) (H : Q x ⟨h, gs, dr, tk, os⟩) :
    wpAny (model prog w) A (subscriptTail value slice (.ref l) (.int i u)) Q E ⟨h, gs, dr, tk, os⟩ := kba_turn (value' := .Name Str.empty default) (fun _ => rfl) (x_titem (items := vs) hg h0 hfit hx hs (fun _ => rfl) H)
theorem x_sum {l : Addr} {vs : List Value} {ns : List Int} (F : Fr g L h mm) (N : News g L h news) (hh : A.handled = none) (hl : Heap.IsList h l vs.toArray) (hi : IntsAre vs ns)
    (H : ∀ h' t' tk', Fr g L h' mm → News g L h' news → Q (.int ns.sum t') ⟨h', gs, dr, tk', os⟩) : wpAny (model prog w) A (call (.builtin "sum") [.ref l]) Q E ⟨h, gs, dr, tk, os⟩ := by
  have hall : AllInts vs.toArray := hi.allInts
  obtain ⟨xs, hxs⟩ := hall.items
  have hn : numsOf vs = ns := hi.numsOf
  rw [hxs] at hl
  refine sum_intListG (s := ⟨h, gs, dr, tk, os⟩) hh hl fun h' tk' t' k => ?_
  have := H h' t' tk' (F.keeps k) (news_ke N k)
  rw [preSum_eq, List.take_of_length_le (by simp)]
  rw [← hn, show vs = (intItems xs).toList by rw [← hxs], nums_intItems] at this
  exact this
theorem x_min {i j : Int} (hh : A.handled = none) (F : Fr g L h mm) (N : News g L h news) (H : ∀ h' t' tk', Fr g L h' mm → News g L h' news → Q (.int (if j < i then j else i) t') ⟨h', gs, dr, tk', os⟩) : wpAny (model prog w) A (call (.builtin "min") [.int i t, .int j u]) Q E ⟨h, gs, dr, tk, os⟩ := by
  refine min_two_ints (s := ⟨h, gs, dr, tk, os⟩) hh fun h' tk' k => ?_
  by_cases hc : j < i
  · rw [if_pos hc]; have := H h' u tk' (F.keeps k) (news_ke N k); rwa [if_pos hc] at this
  · rw [if_neg hc]; have := H h' t tk' (F.keeps k) (news_ke N k); rwa [if_neg hc] at this
end
end

section
theorem ns_ne {g h : Heap} {L ax : Addr} {mm : Str → Option Value} {vs : List Value} {n : Nat} (F : Fr g L h mm) (hax : h.get? ax = some (lob vs n)) : L ≠ ax := by
  obtain ⟨o, es, ep, h1, h2, _⟩ := F.ns
  intro e
  subst e
  rw [hax] at h1
  cases h1
  cases h2
section
variable {prog : Program} {w : World} {A : Around} {E : Value → Shared → Prop} {gs : Array GenState} {dr : Drawn} {tk : Nat} {os : OsState} {h g : Heap} {L : Addr} {mm : Str → Option Value} {news : Ledger} {env : Env}
variable {elt iter : Expr} {x : Str} {px : Pos} {cscope : Scope} {cl : List (Str × Addr)} {pos : Pos} {use : Option (Value → Sem Unit)} {Q : Value → Shared → Prop}
theorem fresh_g (F : Fr g L h mm) : g.get? h.objs.size = none := by
  cases q : g.get? h.objs.size with
  | none => rfl
  | some o => exact absurd (Heap.lt_size (F.keep _ _ q)) (Nat.lt_irrefl _)
/-- a comprehension over a list that stands -/
theorem comp_list {ax : Addr} {vs : List Value} {n : Nat} (hh : A.handled = none) (hcell : ∀ y ∈ cscope.names, y.2 ≠ .cell) (hkind : cscope.kind = .function) (hx : cscope.names.lookup x = some .local) (hz : vs.length ≤ 100000)
    (J : Nat → List Value → Ledger → Array GenState → Prop) (h0 : J 0 [] news gs) (F : Fr g L h mm) (N : News g L h news) (hax : h.get? ax = some (lob vs n))
    (turn : ∀ i v ys news gs' h tk own C D I mC E', vs[i]? = some v → J i ys news gs' → Fr g L h mm → News g L h (own ++ news) → (∀ p ∈ news, p.1 ∉ [C, D, I]) → (∀ b ∈ [C, D, I], ∃ o, (b, o) ∈ own) → (∀ p ∈ own, p.1 ∈ [C, D, I, ax]) → h.Ns C mC → mC x = some v →
      wpAny (model prog w) A (eval elt (compEnvC cscope cl C env)) (TurnEnd J dr os g L mm own [C, D, I] i ys) E' ⟨h, gs', dr, tk, os⟩)
    (done : ∀ C D ys k news' gs' h' tk' mC, J vs.length ys news' gs' → ys.length = vs.length → Fr g L h' mm → News g L h' ((D, lob ys k) :: news') → (∀ p ∈ news', p.1 ≠ D) → (∀ p ∈ (D, lob ys k) :: news', p.1 ≠ C) → C ≠ L → g.get? C = none → h'.Ns C mC → compPost (model prog w) A E use Q (.ref D) C (.ok .next) ⟨h', gs', dr, tk', os⟩) :
    wpAny (model prog w) A (pyIter (.ref ax)) (AfterIter prog w A E elt iter x px cscope cl pos env use Q) E ⟨h, gs, dr, tk, os⟩ := by
  refine wpAny_pyIter_list (s := ⟨h, gs, dr, tk, os⟩) (isl_of hax) ?_
  have hI : ∀ p ∈ news, p.1 ≠ h.objs.size := news_lt N
  have hLI : L ≠ h.objs.size := Nat.ne_of_lt F.ns.lt
  have hLa : L ≠ ax := ns_ne F hax
  have haI : ax ≠ h.objs.size := Nat.ne_of_lt (Heap.lt_size hax)
  have k1 : Ke h (h.push { cls := .type "list_iterator", data := .fields #[.ref ax, .int 0 0] }) := fun b o e => Heap.get?_push_of_some _ e
  refine comp_block (Walks.list hh h.objs.size ax haI vs.toArray) (by simpa using hz) hcell hkind hx (by simp [hLI, hLa]) (fun b hb => ?_) (fun i h' st b hb => ?_) (fun b hb => ?_) J h0 (F.push _) (news_ke N k1) (fun p hp => by simpa using hI p hp) ⟨⟨_, Heap.get?_push_size _ rfl, rfl, rfl⟩, _, k1 _ _ hax, rfl, n, rfl⟩ ?_ (fun C D ys k news' gs' h' tk' mC hJ hy F' N' h1 h2 h3 h4 h5 => done C D ys k news' gs' h' tk' mC (by simpa using hJ) (by simpa using hy) F' N' h1 h2 h3 h4 h5)
  · rw [List.mem_singleton.mp hb]; exact fresh_g F
  · rw [List.mem_singleton.mp hb]
    obtain ⟨⟨o, ho, _⟩, _⟩ := st
    exact ⟨o, ho⟩
  · have hsz : (h.push { cls := .type "list_iterator", data := .fields #[.ref ax, .int 0 0] }).objs.size = h.objs.size + 1 := Heap.size_push ..
    rw [hsz]
    simp only [List.mem_cons, List.mem_nil_iff, or_false] at hb
    rcases hb with rfl | rfl
    · exact Nat.lt_succ_self _
    · exact Nat.lt_succ_of_lt (Heap.lt_size hax)
  · rintro i v ys news gs' h' tk' own C D mC E' hi hv hJ F' N' hnw hlive hown hn hm
    exact turn i v ys news gs' h' tk' own C D h.objs.size mC E' (by simpa using hv) hJ F' N' hnw hlive hown hn hm
/-- a comprehension over range(n) -/
theorem comp_range {r : Addr} {n : Nat} {t1 t2 t3 : Tok} (hh : A.handled = none) (hcell : ∀ y ∈ cscope.names, y.2 ≠ .cell) (hkind : cscope.kind = .function) (hx : cscope.names.lookup x = some .local) (hz : n ≤ 100000)
    (J : Nat → List Value → Ledger → Array GenState → Prop) (h0 : J 0 [] news gs) (F : Fr g L h mm) (N : News g L h news) (hr : h.get? r = some { cls := .type "range", data := .fields #[.int 0 t1, .int (n : Int) t2, .int 1 t3] })
    (turn : ∀ (i : Nat) u ys news gs' h tk own C D I mC E', i < n → J i ys news gs' → Fr g L h mm → News g L h (own ++ news) → (∀ p ∈ news, p.1 ∉ [C, D, I]) → (∀ b ∈ [C, D, I], ∃ o, (b, o) ∈ own) → h.Ns C mC → mC x = some (.int (i : Int) u) →
      wpAny (model prog w) A (eval elt (compEnvC cscope cl C env)) (TurnEnd J dr os g L mm own [C, D, I] i ys) E' ⟨h, gs', dr, tk, os⟩)
    (done : ∀ C D ys k news' gs' h' tk' mC, J n ys news' gs' → ys.length = n → Fr g L h' mm → News g L h' ((D, lob ys k) :: news') → (∀ p ∈ news', p.1 ≠ D) → (∀ p ∈ (D, lob ys k) :: news', p.1 ≠ C) → C ≠ L → g.get? C = none → h'.Ns C mC → compPost (model prog w) A E use Q (.ref D) C (.ok .next) ⟨h', gs', dr, tk', os⟩) :
    wpAny (model prog w) A (pyIter (.ref r)) (AfterIter prog w A E elt iter x px cscope cl pos env use Q) E ⟨h, gs, dr, tk, os⟩ := by
  refine wpAny_pyIter_range (s := ⟨h, gs, dr, tk, os⟩) (a := 0) (b := n) (c := 1) hr (small_one (by omega) (by omega) (by omega) (by omega)) ?_
  have hsz : Builtin.Range.rangeSize 0 (n : Int) 1 = (n : Int) := by rw [rangeSize_one]; split <;> omega
  have hI : ∀ p ∈ news, p.1 ≠ h.objs.size := news_lt N
  have hLI : L ≠ h.objs.size := Nat.ne_of_lt F.ns.lt
  refine comp_block (Walks.range hh h.objs.size 0 1 n) hz hcell hkind hx (by simp [hLI]) (fun b hb => ?_) (fun i h' st b hb => ?_) (fun b hb => ?_) J h0 (F.push _) (fun p hp => ⟨Heap.get?_push_of_some _ (N p hp).1, (N p hp).2⟩) (fun p hp => by simpa using hI p hp) (by show IsRangeIter _ _ _ _ _; rw [hsz]; simpa using Heap.get?_push_size _ rfl) ?_ done
  · rw [List.mem_singleton.mp hb]; exact fresh_g F
  · rw [List.mem_singleton.mp hb]; exact ⟨_, st⟩
  · rw [List.mem_singleton.mp hb]; simp
  · rintro i v ys news gs' h' tk' own C D mC E' hi ⟨u, rfl⟩ hJ F' N' hnw hlive _ hn hm
    exact turn i u ys news gs' h' tk' own C D h.objs.size mC E' hi hJ F' N' hnw hlive hn (by rw [hm, show (0 : Int) + (i : Int) * 1 = (i : Int) by omega])
/-- new objects lie off what a turn turns -/
theorem off_tw {h' : Heap} {T own : Ledger} {tw : List Addr} (X : New h h' T) (N : News g L h (own ++ news)) (live : ∀ b ∈ tw, ∃ o, (b, o) ∈ own) : ∀ p ∈ T, p.1 ∉ tw := fun p hp q => by
  obtain ⟨o, ho⟩ := live _ q
  have := (N _ (List.mem_append_left _ ho)).1
  rw [(X p hp).2] at this
  cases this
/-- elements that only make new objects -/
theorem comp_ke {ax : Addr} {vs : List Value} {n : Nat} (hh : A.handled = none) (hcell : ∀ y ∈ cscope.names, y.2 ≠ .cell) (hkind : cscope.kind = .function) (hx : cscope.names.lookup x = some .local) (hz : vs.length ≤ 100000)
    (R : Nat → Value → Ledger → Prop) (hR : ∀ i y T T', (∀ p ∈ T, p ∈ T') → R i y T → R i y T') (F : Fr g L h mm) (N : News g L h news) (hax : h.get? ax = some (lob vs n))
    (turn : ∀ i v h tk C mC E', vs[i]? = some v → Fr g L h mm → News g L h news → h.Ns C mC → mC x = some v →
      wpAny (model prog w) A (eval elt (compEnvC cscope cl C env)) (fun y s₃ => ∃ h' tk' T, s₃ = ⟨h', gs, dr, tk', os⟩ ∧ Ke h h' ∧ New h h' T ∧ R i y T) E' ⟨h, gs, dr, tk, os⟩)
    (done : ∀ C D ys k T h' tk' mC, (∀ j y, ys[j]? = some y → R j y T) → ys.length = vs.length → Fr g L h' mm → News g L h' ((D, lob ys k) :: (T ++ news)) → (∀ p ∈ T ++ news, p.1 ≠ D) → (∀ p ∈ (D, lob ys k) :: (T ++ news), p.1 ≠ C) → C ≠ L → g.get? C = none → h'.Ns C mC → compPost (model prog w) A E use Q (.ref D) C (.ok .next) ⟨h', gs, dr, tk', os⟩) :
    wpAny (model prog w) A (pyIter (.ref ax)) (AfterIter prog w A E elt iter x px cscope cl pos env use Q) E ⟨h, gs, dr, tk, os⟩ := by
  refine comp_list hh hcell hkind hx hz (fun i ys news' gs' => gs' = gs ∧ ys.length = i ∧ ∃ T, news' = T ++ news ∧ ∀ j y, ys[j]? = some y → R j y T) ⟨rfl, rfl, [], rfl, fun j y e => by simp at e⟩ F N hax ?_ ?_
  · rintro i v ys news' gs' h' tk' own C D I mC E' hv ⟨rfl, hl, T, rfl, hT⟩ F' N' hnw hlive _ hn hm
    refine wpAny_mono (turn i v h' tk' C mC E' hv F' (news_sub N' fun p hp => List.mem_append_right _ (List.mem_append_right _ hp)) hn hm) (fun y s₃ h₃ => ?_) fun _ _ e => e
    obtain ⟨h2, tk2, T2, rfl, k2, X2, r2⟩ := h₃
    have NA := news_adds F' N' k2 X2
    refine ⟨T2 ++ (T ++ news), gs', h2, tk2, rfl, ⟨rfl, by simp [hl], T2 ++ T, by simp, fun j z e => ?_⟩, F'.keeps k2, news_sub NA (fun p hp => ?_), fun p hp => ?_⟩
    · rcases Nat.lt_or_ge j ys.length with hj | hj
      · rw [List.getElem?_append_left hj] at e
        exact hR j z T _ (fun p hp => List.mem_append_right _ hp) (hT j z e)
      · rw [List.getElem?_append_right hj] at e
        obtain rfl : j = ys.length := by
          rcases Nat.eq_or_lt_of_le hj with q | q
          · exact q.symm
          · rw [List.getElem?_eq_none (by simp; omega)] at e; cases e
        rw [Nat.sub_self] at e
        cases e
        rw [hl]
        exact hR i _ T2 _ (fun p hp => List.mem_append_left _ hp) r2
    · simp only [List.mem_append] at hp ⊢
      rcases hp with hp | hp | hp | hp
      · exact .inr (.inl hp)
      · exact .inl hp
      · exact .inr (.inr (.inl hp))
      · exact .inr (.inr (.inr hp))
    · rcases List.mem_append.mp hp with hp | hp
      · exact off_tw X2 N' hlive p hp
      · exact hnw p hp
  · rintro C D ys k news' gs' h' tk' mC ⟨rfl, hl, T, rfl, hT⟩ hy F' N' h1 h2 h3 h4 h5
    exact done C D ys k T h' tk' mC hT hy F' N' h1 h2 h3 h4 h5
end
end

set_option hygiene true
section
variable {M : Model} {A : Around} {E : Value → Shared → Prop} {s : Shared} {name : Str} {scope cscope : Scope} {L a C : Addr} {cd : Value} {cl : List (Str × Addr)} {env : Env}
theorem gc_eval {e : Expr} {Q : Value → Shared → Prop} (h : wpAny M A (eval e (envOfC name scope L a cd)) Q E s) : wpAny M A (eval e (envOfC name scope L a cd)) Q E s := h
theorem gp_eval {e : Expr} {Q : Value → Shared → Prop} (h : wpAny M A (eval e (compEnvC cscope cl C env)) Q E s) : wpAny M A (eval e (compEnvC cscope cl C env)) Q E s := h
theorem gs_tail {v sl : Expr} {a i : Value} {Q : Value → Shared → Prop} (h : wpAny M A (subscriptTail v sl a i) Q E s) : wpAny M A (subscriptTail v sl a i) Q E s := h
theorem gu_op {o : UnaryOp} {a : Value} {Q : Value → Shared → Prop} (h : wpAny M A (unaryOp o a) Q E s) : wpAny M A (unaryOp o a) Q E s := h
end
set_option hygiene false
local macro_rules | `(tactic| tb_start) => `(tactic| first
  | ((with_reducible refine' gc_eval ?_); first
    | ((with_reducible refine' xe_name ?hn ?hv ?hk ?hl ?hd ?_); (case hn => exact F.ns); (case hv => rfl); (case hk => rfl); (case hl => rfl); (case hd => decide))
    | ((with_reducible refine' xe_cell ?hc ?hk ?hl ?hd ?N ?hm ?ho ?_); (case hc => rfl); (case hk => rfl); (case hl => rfl); (case hd => decide); (case N => exact N); (case hm => tb_rel); (case ho => assumption))
    | ((with_reducible refine' xe_call ?B ?hv ?hg ?hk ?hl ?hd ?ho ?hdat ?he ?_); (case B => exact Base.keeps (by assumption) F.keep); (case hv => rfl); (case hg => rfl); (case hk => rfl); (case hl => rfl); (case hd => decide); (case ho => rfl); (case hdat => rfl); (case he => rfl))
    | ((with_reducible refine' xe_callb ?B ?hb ?hv ?hg ?hbu ?hk ?hl ?hd ?hn ?he ?hp ?_); (case B => exact Base.keeps (by assumption) F.keep); (case hb => rfl); (case hv => tb_rel); (case hg => rfl); (case hbu => rfl); (case hk => rfl); (case hl => rfl); (case hd => decide); (case hn => decide); (case he => rfl); (case hp => rfl))
    | ((with_reducible refine' xe_callt ?B ?hb ?hv ?hg ?hbu ?hk ?hl ?hd ?hn ?he ?hp ?_); (case B => exact Base.keeps (by assumption) F.keep); (case hb => rfl); (case hv => tb_rel); (case hg => rfl); (case hbu => rfl); (case hk => rfl); (case hl => rfl); (case hd => decide); (case hn => decide); (case he => rfl); (case hp => rfl))
    | ((with_reducible refine' xe_glob ?B ?hv ?hg ?hk ?hl ?hd ?_); (case B => exact Base.keeps (by assumption) F.keep); (case hv => rfl); (case hg => rfl); (case hk => rfl); (case hl => rfl); (case hd => decide))
    | ((with_reducible refine' xe_blt ?B ?hb ?hv ?hg ?hbu ?hk ?hl ?hd ?hn ?_); (case B => exact Base.keeps (by assumption) F.keep); (case hb => rfl); (case hv => tb_rel); (case hg => rfl); (case hbu => rfl); (case hk => rfl); (case hl => rfl); (case hd => decide); (case hn => decide)))
  | ((with_reducible refine' gp_eval ?_); first
    | ((with_reducible refine' xe_name ?hn ?hv ?hk ?hl ?hd ?_); (case hn => exact hn); (case hv => exact hm); (case hk => rfl); (case hl => rfl); (case hd => decide))
    | ((with_reducible refine' xe_cell ?hc ?hk ?hl ?hd ?N ?hm ?ho ?_); (case hc => rfl); (case hk => rfl); (case hl => rfl); (case hd => decide); (case N => exact N); (case hm => tb_rel); (case ho => assumption))
    | ((with_reducible refine' xe_call ?B ?hv ?hg ?hk ?hl ?hd ?ho ?hdat ?he ?_); (case B => exact Base.keeps (by assumption) F.keep); (case hv => rfl); (case hg => rfl); (case hk => rfl); (case hl => rfl); (case hd => decide); (case ho => rfl); (case hdat => rfl); (case he => rfl)))
  | ((with_reducible refine' g_eval ?_); first
    | (with_reducible refine' UnaryOp_ ?_)
    | (with_reducible refine' wpAny_IfExp ?_))
  | ((with_reducible refine' g_exec ?_); ((with_reducible refine' wpAny_Assign_Subscript ?_ ?hs); (case hs => rfl)))
  | ((with_reducible refine' gs_tail ?_); ((with_reducible refine' x_llast ?hg ?hx ?hs ?_); (case hg => first | exact News.get N (by tb_rel) | exact Fr.keep F _ _ (by assumption)); (case hx => assumption); (case hs => with_unfolding_all rfl)))
  | ((with_reducible refine' gs_tail ?_); ((with_reducible refine' x_tget ?hg ?h0 ?hf ?hx ?hs ?_); (case hg => first | exact News.get N (by tb_rel) | exact Fr.keep F _ _ (by assumption)); (case h0 => first | decide | omega); (case hf => first | decide | omega); (case hx => first | assumption | rfl); (case hs => with_unfolding_all rfl)))
  | ((with_reducible refine' gu_op ?_); (with_reducible refine' x_neg ?_); intro _ _)
  | ((with_reducible refine' xe_store (news := _) ?F ?N ?hk ?hl ?_); (case F => exact F); (case N => exact N); (case hk => rfl); (case hl => rfl); (clear F N); intro _ _ F N)
  | ((with_reducible refine' g_bin ?_); first
    | ((with_reducible refine' x_fdivE ?hj ?_); (case hj => omega); intro _ _)
    | ((with_reducible refine' x_mode ?hj ?_); (case hj => omega); intro _ _)
    | ((with_reducible refine' x_ladd ?F ?N ?hl ?hb ?hz ?_); (case F => exact F); (case N => exact N); (case hl => first | exact isl_of (News.get N (by tb_rel)) | exact isl_of (Fr.keep F _ _ (by assumption))); (case hb => first | exact isl_of (News.get N (by tb_rel)) | exact isl_of (Fr.keep F _ _ (by assumption))); (case hz => simp only [List.length_append, List.length_take, List.length_drop, List.length_cons, List.length_nil]; omega); (clear F N); intro _ _ _ F N))
  | ((with_reducible refine' x_lsl ?F ?N ?hl ?pl ?pu ?hz ?hs ?ht ?hc ?_); (case F => exact F); (case N => exact N); (case hl => first | exact isl_of (News.get N (by tb_rel)) | exact isl_of (Fr.keep F _ _ (by assumption))); (case pl => first | exact .int _ _ | exact .none); (case pu => first | exact .int _ _ | exact .none); (case hz => omega); (case hs => intro _; with_unfolding_all rfl); (case ht => intro _; with_unfolding_all rfl); (case hc => first | exact pick_upto (by omega) | exact pick_from (by omega)); (clear F N); intro _ _ _ F N)
  | ((with_reducible refine' g_cmp ?_); first
    | (with_reducible refine' x_ne ?_)
    | (with_reducible refine' x_bne ?_)
    | (with_reducible refine' x_boolne ?_)
    | (with_reducible refine' x_bltt ?_))
  | ((with_reducible refine' g_call ?_); first
    | ((with_reducible refine' x_isb1 ?B ?_); (case B => exact Base.keeps (by assumption) F.keep); intro _)
    | ((with_reducible refine' x_isl1 ?B ?hax ?_); (case B => exact Base.keeps (by assumption) F.keep); (case hax => first | exact News.get N (by tb_rel) | exact Fr.keep F _ _ (by assumption)); intro _)
    | ((with_reducible refine' x_min ?hh ?F ?N ?_); (case hh => assumption); (case F => exact F); (case N => exact N); (clear F N); intro _ _ _ F N)
    | ((with_reducible refine' x_range ?F ?N ?_); (case F => exact F); (case N => exact N); (clear F N); intro _ _ _ _ _ _ F N)
    | ((with_reducible refine' x_bytes1 ?F ?N ?hl ?h0 ?h1 ?hh ?_); (case F => exact F); (case N => exact N); (case hl => exact News.get N (by tb_rel)); (case h0 => omega); (case h1 => omega); (case hh => assumption); (clear F N); intro _ _ _ F N))
  | (fail "no step"))

section
/-! what _law_changed makes -/
def o8 (i : Int) : List UInt8 := [UInt8.ofNat (i % 256).toNat]
def chgB (x : List UInt8) (num : Int) : Tr :=
  if num % 5 = 0 then .b (x ++ o8 (num / 5)) else if num % 5 = 1 then .b x.dropLast else if num % 5 = 2 then .b (x.dropLast ++ o8 (num / 5))
  else if num % 5 = 3 then .l [.b x] else .b (o8 (num / 5) ++ x.drop 1)
def chgF : Nat → Tr → Int → Tr
  | _, .b x, num => chgB x num
  | 0, .l ts, _ => .l ts
  | k + 1, .l ts, num =>
    if num % (ts.length + 2) = ts.length then .l (ts ++ [.b (o8 (num / (ts.length + 2)))])
    else if num % (ts.length + 2) > ts.length then .l ts.reverse
    else if num / (ts.length + 2) % 4 = 3 then .l (ts.take (num % (ts.length + 2)).toNat ++ ts.drop (num % (ts.length + 2) + 1).toNat)
    else .l (ts.take (num % (ts.length + 2)).toNat ++ [chgF k (ts.getD (num % (ts.length + 2)).toNat (.b [])) (num / (ts.length + 2) / 4)] ++ ts.drop (num % (ts.length + 2) + 1).toNat)
theorem sl_butlast (x : List UInt8) : sl x none (some (-1)) = x.dropLast := by
  have h := clipAt_cast x.length (-1)
  simp only [sl, Option.elim, List.drop_zero, Nat.sub_zero]
  rw [List.dropLast_eq_take]
  congr 1
  split at h <;> omega
theorem sl_rest (x : List UInt8) : sl x (some 1) none = x.drop 1 := by
  simp only [sl, Option.elim]
  rw [clipAt_nn _ _ (by decide), List.take_of_length_le (by rw [List.length_drop]; omega)]
  by_cases h : 1 ≤ x.length
  · rw [Nat.min_eq_left (by simpa using h)]; rfl
  · rw [List.drop_eq_nil_of_le (by omega), List.drop_eq_nil_of_le (by omega)]
section
variable {w : World} {A : Around} {E : Value → Shared → Prop} {gs : Array GenState} {dr : Drawn} {tk : Nat} {os : OsState} {h : Heap} {Q : Value → Shared → Prop}
abbrev chEnv (L : Addr) : Env := envOfC (Str.ofString "_law_changed") (fdS (sAt 42)) L 1769 (Value.ref 1768)
theorem ch_rho (v num : Value) (L : Addr) : (bindL (chEnv L).kindOf [(Str.ofString "tree", v), (Str.ofString "number", num)] fun _ => none) = look [(Str.ofString "number", num)] := by
  show (fun y => if y = _ then some _ else (look []) y) = _
  exact look_cons [] _ _
theorem ch_kind (v num : Value) (n : Nat) : ∀ x ∈ [(Str.ofString "tree", v), (Str.ofString "number", num)], (fdS (sAt 42)).names.lookup x.1 = some .local ∨ ((fdS (sAt 42)).names.lookup x.1 = some .cell ∧ ((cellsFrom (n + 1) (fdS (sAt 42)).names []).lookup x.1).isSome = true) := by
  intro x hx
  simp only [List.mem_cons, List.mem_nil_iff, or_false] at hx
  rcases hx with rfl | rfl
  · exact .inr ⟨rfl, rfl⟩
  · exact .inl rfl
theorem ch_enter {v num : Value} (B : Base w h) (hdep : A.depth < recursionLimit)
    (H : ∀ h₁ L tk' oR oT, L = h.objs.size → Fr h L h₁ (look [(Str.ofString "number", num)]) → News h L h₁ [(L + 1 + 1, oR), (L + 1, oT)] → oR.data = .cell none → oT.data = .cell (some v) →
      wpAny (model pw w) (A.deeper (chEnv L)) (execs (fdB (sAt 42)) (chEnv L)) (fun fl s' => Q (match fl with | .ret v => v | _ => .none) s') (fun _ _ => False) ⟨h₁, gs, dr, tk', os⟩) :
    wpAny (model pw w) A (call (.ref 1769) [v, num]) Q E ⟨h, gs, dr, tk, os⟩ := by
  refine x_enterC B hdep (by rfl) (by rfl) (by rfl) (by rfl) (by rfl) (binds := [(Str.ofString "tree", _), (Str.ofString "number", _)]) (lρ := [(Str.ofString "number", _)]) (by rfl) (ch_kind _ _ _) (by decide) (ch_rho _ _ _) (by rfl) (by rfl) (by rfl) ?_
  intro h₁ L tk' cells hL F N X
  obtain ⟨oR, oT, rfl, hR, hT⟩ := CellsAre.two (n := Str.ofString "room") (n' := Str.ofString "tree") (c := L + 1 + 1) (c' := L + 1) X
  exact H h₁ L tk' oR oT hL F N hR hT
theorem chg_b {x : List UInt8} {num : Int} {t tn : Tok} (B : Base w h) (hd : A.depth < recursionLimit) (hh : A.handled = none) (hz : x.length ≤ 10000)
    (H : ∀ h' v' T' tk', Ke h h' → New h h' T' → Rep T' v' (chgB x num) → Q v' ⟨h', gs, dr, tk', os⟩) : wpAny (model pw w) A (call (.ref 1769) [.bytes x.toArray t, .int num tn]) Q E ⟨h, gs, dr, tk, os⟩ := by
  refine ch_enter B hd ?_
  intro h₁ L tk' oR oT _ F N hR hT
  have hh' : (A.deeper (chEnv L)).handled = none := hh
  refine wpAny_execs_cons ?_
  repeat' tb_start
  · refine x_badd (c := [_]) (by simp only [List.length_cons, List.length_nil]; omega) fun t' tk' => ?_
    repeat' tb_start
    refine H _ _ [] _ F.keep .nil ?_
    rw [chgB, if_pos ‹num % 5 = 0›]
    exact .b
  · refine H _ _ [] _ F.keep .nil ?_
    rw [chgB, if_neg ‹num % 5 ≠ 0›, if_pos ‹num % 5 = 1›, ← sl_butlast]
    exact .b
  · have hle := sl_le x none (some (-1))
    refine x_badd (c := [_]) (by simp only [List.length_cons, List.length_nil]; omega) fun t' tk' => ?_
    repeat' tb_start
    refine H _ _ [] _ F.keep .nil ?_
    rw [chgB, if_neg ‹num % 5 ≠ 0›, if_neg ‹num % 5 ≠ 1›, if_pos ‹num % 5 = 2›, ← sl_butlast]
    exact .b
  · refine H _ _ [_] _ F.keep (New.of_news (news_sub N fun p hp => by rw [List.mem_singleton.mp hp]; exact .head _)) ?_
    rw [chgB, if_neg ‹num % 5 ≠ 0›, if_neg ‹num % 5 ≠ 1›, if_neg ‹num % 5 ≠ 2›, if_pos ‹num % 5 = 3›]
    exact .l (.head _) (.cons .b .nil)
  · have hle := sl_le x (some 1) none
    refine x_badd (b := [_]) (by simp only [List.length_cons, List.length_nil]; omega) fun t' tk' => ?_
    repeat' tb_start
    refine H _ _ [] _ F.keep .nil ?_
    rw [chgB, if_neg ‹num % 5 ≠ 0›, if_neg ‹num % 5 ≠ 1›, if_neg ‹num % 5 ≠ 2›, if_neg ‹num % 5 ≠ 3›, ← sl_rest]
    exact .b
end
theorem new_front {g h : Heap} {L : Addr} {q : Addr × Obj} {news T : Ledger} (N : News g L h (q :: news)) (k : ∀ p ∈ T, p ∈ news) : New g h (q :: T) := New.of_news (news_sub N fun p hp => by
  rcases List.mem_cons.mp hp with rfl | hp
  · exact List.mem_cons_self ..
  · exact List.mem_cons_of_mem _ (k p hp))
/-! rows of parts -/
theorem Reps.app {T : Ledger} : ∀ {vs ws : List Value} {ts us : List Tr}, Reps T vs ts → Reps T ws us → Reps T (vs ++ ws) (ts ++ us)
  | _, _, _, _, .nil, b => b
  | _, _, _, _, .cons a r, b => .cons a (r.app b)
theorem Reps.take {T : Ledger} : ∀ {vs : List Value} {ts : List Tr} (n : Nat), Reps T vs ts → Reps T (vs.take n) (ts.take n)
  | _, _, 0, _ => by rw [List.take_zero, List.take_zero]; exact .nil
  | _, _, _ + 1, .nil => .nil
  | _, _, n + 1, .cons a r => .cons a (r.take n)
theorem Reps.drop {T : Ledger} : ∀ {vs : List Value} {ts : List Tr} (n : Nat), Reps T vs ts → Reps T (vs.drop n) (ts.drop n)
  | _, _, 0, r => r
  | _, _, _ + 1, .nil => .nil
  | _, _, n + 1, .cons _ r => r.drop n
theorem Reps.rev {T : Ledger} : ∀ {vs : List Value} {ts : List Tr}, Reps T vs ts → Reps T vs.reverse ts.reverse
  | _, _, .nil => .nil
  | _, _, .cons a r => by rw [List.reverse_cons, List.reverse_cons]; exact r.rev.app (.cons a .nil)
theorem rev_snoc {α : Type} {vs : List α} {i : Nat} {v : α} (h : vs[vs.length - 1 - i]? = some v) (hi : i < vs.length) : vs.reverse.take i ++ [v] = vs.reverse.take (i + 1) := by
  have e : vs.reverse[i]? = some v := by rw [List.getElem?_reverse hi]; exact h
  rw [List.take_add_one, e]
  rfl
mutual
def wt : Tr → Nat
  | .b x => x.length + 4
  | .l ts => wts ts + 4
def wts : List Tr → Nat
  | [] => 0
  | t :: ts => wt t + wts ts
end
theorem wts_len : ∀ ts : List Tr, 4 * ts.length ≤ wts ts
  | [] => by simp
  | t :: ts => by
    have h : 4 ≤ wt t := by cases t <;> rw [wt] <;> omega
    rw [wts, List.length_cons]
    have := wts_len ts
    omega
theorem wts_mem {t : Tr} : ∀ {ts : List Tr}, t ∈ ts → wt t ≤ wts ts
  | [], h => nomatch h
  | s :: ts, h => by
    rw [wts]
    rcases List.mem_cons.mp h with rfl | h
    · omega
    · have := wts_mem h; omega
section
variable {w : World}
theorem chg_call : ∀ (k : Nat) (t : Tr), Deep k t → ∀ {A : Around} {E : Value → Shared → Prop} {gs : Array GenState} {dr : Drawn} {tk : Nat} {os : OsState} {h : Heap} {Q : Value → Shared → Prop} {v : Value} {T : Ledger} {num : Int} {tn : Tok},
    Base w h → A.depth + k + 1 < recursionLimit → A.handled = none → wt t ≤ 10000 → (∀ p ∈ T, h.get? p.1 = some p.2) → Rep T v t →
    (∀ h' v' T' tk', Ke h h' → New h h' T' → Rep (T' ++ T) v' (chgF k t num) → Q v' ⟨h', gs, dr, tk', os⟩) →
    wpAny (model pw w) A (call (.ref 1769) [v, .int num tn]) Q E ⟨h, gs, dr, tk, os⟩ := by
  intro k
  induction k with
  | zero =>
    intro t D A E gs dr tk os h Q v T num tn B hd hh hz hT R H
    cases D
    cases R
    exact chg_b B (by omega) hh (by rw [wt] at hz; omega) fun h' v' T' tk' k X R => H h' v' T' tk' k X (R.mono fun p hp => List.mem_append_left _ hp)
  | succ k ih =>
    intro t D A E gs dr tk os h Q v T num tn B hd hh hz hT R H
    cases R with
    | @b x u => exact chg_b B (by omega) hh (by rw [wt] at hz; omega) fun h' v' T' tk' k X R => H h' v' T' tk' k X (R.mono fun p hp => List.mem_append_left _ hp)
    | @l ax vs n ts hm Rs =>
      have D' : ∀ t ∈ ts, Deep k t := by cases D; assumption
      have hax := hT _ hm
      dsimp only at hax
      have hlen := Rs.length
      rw [wt] at hz
      have hl4 := wts_len ts
      have hm0 : 0 ≤ num % ((vs.length : Int) + 2) := Int.emod_nonneg _ (by omega)
      have hm1 : num % ((vs.length : Int) + 2) < (vs.length : Int) + 2 := Int.emod_lt_of_pos _ (by omega)
      refine ch_enter B (by omega) ?_
      intro h₁ L tk' oR oT _ F N hR hT'
      have hh' : (A.deeper (chEnv L)).handled = none := hh
      refine wpAny_execs_cons ?_
      repeat' tb_start
      refine stCN (s := ⟨_, gs, dr, _, os⟩) (own := []) (rest := [(L + 1, oT)]) (c := L + 1 + 1) F N (by rfl) hR (fun p hp => nomatch hp) (fun p hp => by rw [List.mem_singleton.mp hp]; exact Nat.ne_of_lt (Nat.lt_succ_self _)) (fun h₂ oR' F₂ N₂ hR' => ?_) (by rfl) (by rfl)
      rw [List.nil_append] at N₂
      clear F N
      have F := F₂
      have N := N₂
      clear F₂ N₂ hR oR
      repeat' tb_start
      · refine H _ _ [_] _ F.keep (New.of_news (news_sub N fun p hp => by rw [List.mem_singleton.mp hp]; exact .head _)) ?_
        rw [chgF, ← hlen, if_pos (by assumption)]
        exact .l (.head _) ((Rs.mono fun p hp => .tail _ hp).app (.cons (.b (x := o8 _)) .nil))
      · refine x_lcomp (cl := [(Str.ofString "tree", L + 1), (Str.ofString "room", L + 1 + 1)]) (fun _ => rfl) (by rfl) (by rfl) (by decide) ?_
        repeat' tb_start
        refine comp_range hh' (by decide) (by rfl) (by rfl) (by omega) (fun i ys news' gs' => gs' = gs ∧ (L + 1 + 1, oR') ∈ news' ∧ (L + 1, oT) ∈ news' ∧ ys = vs.reverse.take i) ⟨rfl, by tb_rel, by tb_rel, by simp⟩ F N (N.get (.head _)) ?_ ?_
        · clear F N
          rintro i u ys news' gs' h₃ tk₃ own C D I mC E' hi ⟨rfl, m1, m2, rfl⟩ F N hnw hlive hn hm
          have hv : vs[((vs.length : Int) - 1 - (i : Int)).toNat]? = some (vs[vs.length - 1 - i]'(by omega)) := by
            rw [show ((vs.length : Int) - 1 - (i : Int)).toNat = vs.length - 1 - i by omega]
            exact List.getElem?_eq_getElem _
          repeat' tb_start
          exact ⟨news', gs', h₃, _, rfl, ⟨rfl, m1, m2, rev_snoc (List.getElem?_eq_getElem _) hi⟩, F, N, hnw⟩
        · clear F N
          rintro C D ys k2 news' gs' h₃ tk₃ mC ⟨rfl, m1, m2, rfl⟩ hy F N h1 h2 h3 h4 h5
          refine comp_end F N h2 h3 h4 h5 fun h₄ F₄ N₄ => ?_
          refine H _ _ [_] _ F₄.keep (New.of_news (news_sub N₄ fun p hp => by rw [List.mem_singleton.mp hp]; exact .head _)) ?_
          rw [chgF, ← hlen, if_neg (by assumption), if_pos (by assumption)]
          refine .l (.head _) ?_
          rw [List.take_of_length_le (by simp)]
          exact (Rs.mono fun p hp => .tail _ hp).rev
      · refine H _ _ [_] _ F.keep (New.of_news (news_sub N fun p hp => by rw [List.mem_singleton.mp hp]; exact .head _)) ?_
        rw [chgF, ← hlen, if_neg (by assumption), if_neg (by assumption), if_pos (by assumption)]
        exact .l (.head _) (((Rs.mono fun p hp => .tail _ hp).take _).app ((Rs.mono fun p hp => .tail _ hp).drop _))
      · have hat : num % ((vs.length : Int) + 2) < vs.length := by
          have q1 : num % ((vs.length : Int) + 2) ≠ vs.length := by assumption
          have q2 : ¬ num % ((vs.length : Int) + 2) > vs.length := by assumption
          omega
        have hlt : (num % ((vs.length : Int) + 2)).toNat < vs.length := by omega
        have hva : vs[(num % ((vs.length : Int) + 2)).toNat]? = some vs[(num % ((vs.length : Int) + 2)).toNat] := List.getElem?_eq_getElem hlt
        obtain ⟨ta, hta, Ra⟩ := Rs.get _ _ hva
        have hma : ta ∈ ts := List.mem_of_getElem? hta
        have hwa := wts_mem hma
        repeat' tb_start
        refine ih ta (D' ta hma) (T := T) (B.keeps F.keep) (by show A.depth + 1 + k + 1 < _; omega) hh' (by omega) (fun p hp => F.keep _ _ (hT p hp)) Ra fun h₃ v₃ T₃ tk₃ k₃ X₃ R₃ => ?_
        have N₃ := news_adds F N k₃ X₃
        have F₃ := F.keeps k₃
        clear F N
        have F := F₃
        have N := N₃
        clear F₃ N₃
        repeat' tb_start
        refine H _ _ (_ :: T₃) _ F.keep (new_front N (fun p hp => by tb_rel)) ?_
        · have hd2 : ts.getD (num % ((vs.length : Int) + 2)).toNat (.b []) = ta := by rw [List.getD_eq_getElem?_getD, hta]; rfl
          rw [chgF, ← hlen, if_neg (by assumption), if_neg (by assumption), if_neg (by assumption), hd2]
          refine .l (.head _) ?_
          refine (((Rs.mono fun p hp => List.mem_append_right _ hp).take _).app (.cons (R₃.mono fun p hp => ?_) .nil)).app ((Rs.mono fun p hp => List.mem_append_right _ hp).drop _)
          rcases List.mem_append.mp hp with hp | hp
          · exact List.mem_append_left _ (List.mem_cons_of_mem _ hp)
          · exact List.mem_append_right _ hp
end
end

section
/-! what _law_measured makes -/
def bx : Tr → List UInt8
  | .b x => x
  | .l _ => []
def kd : Tr → List Tr
  | .b _ => []
  | .l ts => ts
abbrev mob (t : Tr) (t1 t2 t3 t4 : Tok) (kl : Addr) : Obj := tob [.int ((encT t).length : Int) t1, .int (tagT t) t2, .int (keyT t) t3, .bytes (bx t).toArray t4, .ref kl]
mutual
inductive MRep (T : Ledger) : Value → Tr → Prop
  | mk {u kl : Addr} {t : Tr} {t1 t2 t3 t4 : Tok} {kids : List Value} {n : Nat} : (u, mob t t1 t2 t3 t4 kl) ∈ T → (kl, lob kids n) ∈ T → MReps T kids (kd t) → MRep T (.ref u) t
inductive MReps (T : Ledger) : List Value → List Tr → Prop
  | nil : MReps T [] []
  | cons {v vs t ts} : MRep T v t → MReps T vs ts → MReps T (v :: vs) (t :: ts)
end
mutual
theorem MRep.mono {T T' : Ledger} (k : ∀ p ∈ T, p ∈ T') : ∀ {v t}, MRep T v t → MRep T' v t
  | _, _, .mk h1 h2 h3 => .mk (k _ h1) (k _ h2) (MReps.mono k h3)
theorem MReps.mono {T T' : Ledger} (k : ∀ p ∈ T, p ∈ T') : ∀ {v t}, MReps T v t → MReps T' v t
  | _, _, .nil => .nil
  | _, _, .cons h1 h2 => .cons (MRep.mono k h1) (MReps.mono k h2)
end
theorem MReps.length {T : Ledger} : ∀ {vs : List Value} {ts : List Tr}, MReps T vs ts → vs.length = ts.length
  | _, _, .nil => rfl
  | _, _, .cons _ b => by rw [List.length_cons, List.length_cons, b.length]
theorem MReps.get {T : Ledger} : ∀ {vs : List Value} {ts : List Tr}, MReps T vs ts → ∀ (i : Nat) (v : Value), vs[i]? = some v → ∃ t, ts[i]? = some t ∧ MRep T v t
  | _, _, .nil, i, v, e => by simp at e
  | _, _, .cons a b, 0, v, e => by simp at e; subst e; exact ⟨_, rfl, a⟩
  | _, _, .cons a b, i + 1, v, e => by
    obtain ⟨t, q1, q2⟩ := MReps.get b i v (by simpa using e)
    exact ⟨t, by simpa using q1, q2⟩
theorem MReps.of : ∀ {T : Ledger} {vs : List Value} {ts : List Tr}, vs.length = ts.length → (∀ (i : Nat) (v : Value), vs[i]? = some v → ∃ t, ts[i]? = some t ∧ MRep T v t) → MReps T vs ts
  | _, [], [], _, _ => .nil
  | _, [], _ :: _, h, _ => by simp at h
  | _, _ :: _, [], h, _ => by simp at h
  | _, v :: vs, t :: ts, h, H => by
    obtain ⟨t', e, r⟩ := H 0 v rfl
    cases e
    exact .cons r (MReps.of (by simpa using h) fun i w e => by simpa using H (i + 1) w (by simpa using e))
theorem ints_of : ∀ {vs : List Value} {ns : List Int}, vs.length = ns.length → (∀ (i : Nat) (v : Value), vs[i]? = some v → ∃ t, v = .int (ns.getD i 0) t) → IntsAre vs ns
  | [], [], _, _ => .nil
  | [], _ :: _, h, _ => by simp at h
  | _ :: _, [], h, _ => by simp at h
  | v :: vs, n :: ns, h, H => by
    obtain ⟨t, e⟩ := H 0 v rfl
    rw [e, List.getD_cons_zero]
    exact .cons _ t (ints_of (by simpa using h) fun i w e => by simpa using H (i + 1) w (by simpa using e))
theorem MRep.mk' {T : Ledger} {u kl : Addr} {t : Tr} {t1 t2 t3 t4 : Tok} {kids : List Value} {n : Nat} {a b c : Int} {d : List UInt8} (h : (u, tob [.int a t1, .int b t2, .int c t3, .bytes d.toArray t4, .ref kl]) ∈ T) (ea : a = ((encT t).length : Int)) (eb : b = tagT t) (ec : c = keyT t) (ed : d = bx t)
    (hk : (kl, lob kids n) ∈ T) (hs : MReps T kids (kd t)) : MRep T (.ref u) t := by
  subst ea eb ec ed
  exact .mk h hk hs
def aroundN (n : Nat) : Int := if n < 56 then (n : Int) + 1 else if n < 256 then (n : Int) + 2 else (n : Int) + 3
theorem around_pre {n o : Nat} (h : n < 65536) : ((preB n o).length : Int) + n = aroundN n := by
  unfold preB aroundN lenB
  by_cases h1 : n < 56
  · rw [if_pos h1, if_pos h1]; simp; omega
  · rw [if_neg h1, if_neg h1]
    by_cases h2 : n < 256
    · rw [if_pos h2, if_pos h2]; simp; omega
    · rw [if_neg h2, if_neg h2]; simp; omega
theorem enc_sum : ∀ ts : List Tr, (ts.map fun t => ((encT t).length : Int)).sum = ((encTs ts).length : Int)
  | [] => by rw [encTs]; rfl
  | t :: ts => by rw [List.map_cons, List.sum_cons, enc_sum ts, encTs, List.length_append]; push_cast; rfl
theorem single_iff {x : List UInt8} : single x = true ↔ x.length = 1 ∧ (x.getD 0 0).toNat < 128 := by
  unfold single; simp
section
variable {w : World} {A : Around} {E : Value → Shared → Prop} {gs : Array GenState} {dr : Drawn} {tk : Nat} {os : OsState} {h : Heap} {Q : Value → Shared → Prop}
theorem around_call {n : Nat} {t : Tok} (B : Base w h) (hd : A.depth < recursionLimit)
    (H : ∀ h' t' tk', Ke h h' → Q (.int (aroundN n) t') ⟨h', gs, dr, tk', os⟩) : wpAny (model pw w) A (call (.ref 1776) [.int (n : Int) t]) Q E ⟨h, gs, dr, tk, os⟩ := by
  refine x_enter B hd (by rfl) (by rfl) (by rfl) (by rfl) (by rfl) (binds := [(Str.ofString "body", _)]) (by rfl) (locs (by rfl)) (by rfl) (by rfl) (by rfl) (by decide) ?_
  intro h₁ L tk' _ F N
  show wpAny _ _ (execs (fdB (sAt 43)) _) _ _ _
  refine wpAny_execs_cons ?_
  repeat' tb_start
  · have e : aroundN n = (n : Int) + 1 := by rw [aroundN, if_pos (by omega)]
    rw [e] at H
    exact H _ _ _ F.keep
  · have e : aroundN n = (n : Int) + 2 := by rw [aroundN, if_neg (by omega), if_pos (by omega)]
    rw [e] at H
    exact H _ _ _ F.keep
  · have e : aroundN n = (n : Int) + 3 := by rw [aroundN, if_neg (by omega), if_neg (by omega)]
    rw [e] at H
    exact H _ _ _ F.keep
abbrev msEnv (L : Addr) : Env := envOf (Str.ofString "_law_measured") (fdS (sAt 44)) L 1781 (Value.ref 1780)
theorem meas_b {x : List UInt8} {t : Tok} (B : Base w h) (hd : A.depth + 1 < recursionLimit) (hh : A.handled = none) (hz : x.length ≤ 60000)
    (H : ∀ h' v' T' tk', Ke h h' → New h h' T' → MRep T' v' (.b x) → Q v' ⟨h', gs, dr, tk', os⟩) : wpAny (model pw w) A (call (.ref 1781) [.bytes x.toArray t]) Q E ⟨h, gs, dr, tk, os⟩ := by
  refine x_enter B (by omega) (by rfl) (by rfl) (by rfl) (by rfl) (by rfl) (binds := [(Str.ofString "tree", _)]) (by rfl) (locs (by rfl)) (by rfl) (by rfl) (by rfl) (by decide) ?_
  intro h₁ L tk' _ F N
  have hh' : (A.deeper (msEnv L)).handled = none := hh
  show wpAny _ _ (execs (fdB (sAt 44)) _) _ _ _
  refine wpAny_execs_cons ?_
  repeat' tb_start
  · have hs : single x = true := single_iff.mpr ⟨by omega, by have q : (((x.getD (Int.toNat 0) 0).toNat : Nat) : Int) < 128 := by { assumption }; exact Int.ofNat_lt.mp q⟩
    refine H _ _ [_, _] _ F.keep (new_front N fun p hp => by rw [List.mem_singleton.mp hp]; exact .head _) (MRep.mk' (d := x) (.head _) ?_ (tag_s hs).symm ?_ rfl (.tail _ (.head _)) .nil)
    · rw [encB_single hs]; omega
    · rw [keyT, if_pos hs]; rfl
  all_goals
    have hs : single x = false := by
      rw [← Bool.not_eq_true, single_iff]
      rintro ⟨q1, q2⟩
      have q3 : (((x.getD (Int.toNat 0) 0).toNat : Nat) : Int) < 128 := Int.ofNat_lt.mpr q2
      first
        | exact absurd q3 (by assumption)
        | omega
    refine around_call (n := x.length) (B.keeps F.keep) (by show A.depth + 1 < _; omega) fun h₂ t' tk₂ k₂ => ?_
    replace N := news_ke N k₂
    replace F := F.keeps k₂
    repeat' tb_start
    refine H _ _ [_, _] _ F.keep (new_front N fun p hp => by rw [List.mem_singleton.mp hp]; exact .head _) (MRep.mk' (d := x) (.head _) ?_ (tag_n hs).symm ?_ rfl (.tail _ (.head _)) .nil)
    · rw [encB_long hs, List.length_append, ← around_pre (o := 128) (by omega)]; push_cast; rfl
    · rw [keyT, hs]; rfl
end
section
variable {w : World}
theorem meas_call : ∀ (k : Nat) (t : Tr), Deep k t → ∀ {A : Around} {E : Value → Shared → Prop} {gs : Array GenState} {dr : Drawn} {tk : Nat} {os : OsState} {h : Heap} {Q : Value → Shared → Prop} {v : Value} {T : Ledger},
    Base w h → A.depth + k + 1 < recursionLimit → A.handled = none → (encT t).length ≤ 60000 → (∀ p ∈ T, h.get? p.1 = some p.2) → Rep T v t →
    (∀ h' v' T' tk', Ke h h' → New h h' T' → MRep T' v' t → Q v' ⟨h', gs, dr, tk', os⟩) →
    wpAny (model pw w) A (call (.ref 1781) [v]) Q E ⟨h, gs, dr, tk, os⟩ := by
  intro k
  induction k with
  | zero =>
    intro t D A E gs dr tk os h Q v T B hd hh hz hT R H
    cases D
    cases R
    exact meas_b B (by omega) hh (by rename_i x _; have : x.length ≤ (encT (.b x)).length := by { rw [encT]; split <;> simp }; omega) H
  | succ k ih =>
    intro t D A E gs dr tk os h Q v T B hd hh hz hT R H
    cases R with
    | @b x u => exact meas_b B (by omega) hh (by have : x.length ≤ (encT (.b x)).length := by { rw [encT]; split <;> simp }; omega) H
    | @l ax vs n ts hm Rs =>
      have D' : ∀ t ∈ ts, Deep k t := by cases D; assumption
      have hax := hT _ hm
      dsimp only at hax
      have hlen := Rs.length
      have hen : (encT (.l ts)).length = (preB (encTs ts).length 192).length + (encTs ts).length := by rw [encT, List.length_append]
      have htl := encTs_len ts
      refine x_enter B (by omega) (by rfl) (by rfl) (by rfl) (by rfl) (by rfl) (binds := [(Str.ofString "tree", _)]) (by rfl) (locs (by rfl)) (by rfl) (by rfl) (by rfl) (by decide) ?_
      intro h₁ L tk' _ F N
      have hh' : (A.deeper (msEnv L)).handled = none := hh
      show wpAny _ _ (execs (fdB (sAt 44)) _) _ _ _
      refine wpAny_execs_cons ?_
      repeat' tb_start
      refine x_acomp (cl := []) (by rfl) (fun _ => rfl) (by rfl) (by rfl) (by decide) ?_
      repeat' tb_start
      refine comp_ke hh' (by decide) (by rfl) (by rfl) (by omega) (fun i y T => ∃ t, ts[i]? = some t ∧ MRep T y t) (fun i y T T' k => fun ⟨t, e, r⟩ => ⟨t, e, r.mono k⟩) F N (F.keep _ _ hax) ?_ ?_
      · clear F N
        rintro i v h₂ tk₂ C mC E' hv F N hn hm
        obtain ⟨t, hti, Ri⟩ := Rs.get i v hv
        have hmem : t ∈ ts := List.mem_of_getElem? hti
        have hle := encT_mem hmem
        repeat' tb_start
        refine ih t (D' t hmem) (T := T) (B.keeps F.keep) (by show A.depth + 1 + k + 1 < _; omega) hh' (by omega) (fun p hp => F.keep _ _ (hT p hp)) Ri fun h₃ v₃ T₃ tk₃ k₃ X₃ R₃ => ?_
        exact ⟨h₃, tk₃, T₃, rfl, k₃, X₃, t, hti, R₃⟩
      · clear F N
        rintro C D2 ys k2 T2 h₂ tk₂ mC hys hyl F N h1 h2 h3 h4 h5
        refine comp_end_use F N h2 h3 h4 h5 (by rfl) (by rfl) fun h₃ tk₃ F₃ N₃ => ?_
        clear F N
        have F := F₃
        have N := N₃
        clear F₃ N₃
        have Ms : MReps T2 ys ts := MReps.of (by omega) hys
        repeat' tb_start
        refine x_lcomp (cl := []) (fun _ => rfl) (by rfl) (by rfl) (by decide) ?_
        repeat' tb_start
        refine comp_ke hh' (by decide) (by rfl) (by rfl) (by omega) (fun i y T => ∃ t, y = .int ((ts.map fun t => ((encT t).length : Int)).getD i 0) t) (fun i y T T' k r => r) F N (N.get (.head _)) ?_ ?_
        · clear F N
          rintro i v h₂ tk₂ C mC E' hv F N hn hm
          obtain ⟨t, hti, Ri⟩ := Ms.get i v hv
          cases Ri with
          | @mk u kl _ t1 t2 t3 t4 kids n q1 q2 q3 =>
            repeat' tb_start
            refine ⟨_, _, [], rfl, fun _ _ e => e, .nil, t1, ?_⟩
            rw [List.getD_eq_getElem?_getD, List.getElem?_map, hti]
            rfl
        · clear F N
          rintro C D3 zs k3 T3 h₂ tk₂ mC hzs hzl F N h1 h2 h3 h4 h5
          refine comp_end F N h2 h3 h4 h5 fun h₃ F₃ N₃ => ?_
          clear F N
          have F := F₃
          have N := N₃
          clear F₃ N₃
          have hi : IntsAre zs (ts.map fun t => ((encT t).length : Int)) := ints_of (by rw [List.length_map]; omega) hzs
          repeat' tb_start
          refine x_sum F N hh' (isl_of (N.get (.head _))) hi fun h₄ t' tk₄ F₄ N₄ => ?_
          rw [enc_sum]
          clear F N
          have F := F₄
          have N := N₄
          clear F₄ N₄
          repeat' tb_start
          refine around_call (n := (encTs ts).length) (B.keeps F.keep) (by show A.depth + 1 < _; omega) fun h₅ t' tk₅ k₅ => ?_
          replace N := news_ke N k₅
          replace F := F.keeps k₅
          repeat' tb_start
          refine H _ _ (_ :: (D2, lob ys k2) :: T2) _ F.keep (new_front N fun p hp => ?_) (MRep.mk' (d := []) (.head _) ?_ tag_l.symm rfl rfl (.tail _ (.head _)) (Ms.mono fun p hp => .tail _ (.tail _ hp)))
          · rcases List.mem_cons.mp hp with rfl | hp
            · tb_rel
            · tb_rel
          · rw [hen, ← around_pre (o := 192) (by omega)]; push_cast; rfl
end
end

section
theorem cmpT_eq (a b : Tr) : cmpT a b = if tagT a ≠ tagT b then (if tagT a < tagT b then -1 else 1) else if keyT a ≠ keyT b then (if keyT a < keyT b then -1 else 1) else if bx a ≠ bx b then (if ltB (bx a) (bx b) then -1 else 1) else cmpTs (kd a) (kd b) := by
  cases a with
  | b x =>
    cases b with
    | b y =>
      rw [cmpT]
      simp only [bx, kd, cmpTs, List.length_nil, Int.natCast_zero, Int.neg_zero]
      rfl
    | l us =>
      have h : tagT (.b x) ≠ tagT (.l us) := tag_bl
      rw [cmpT, if_pos h, if_pos h]
  | l ts =>
    cases b with
    | b y =>
      have h : tagT (.l ts) ≠ tagT (.b y) := fun e => tag_bl e.symm
      rw [cmpT, if_pos h, if_pos h]
    | l us =>
      rw [cmpT]
      simp only [bx, kd, ne_eq, not_true_eq_false, if_false]
theorem cmpTs_cons (t u : Tr) (ts us : List Tr) : cmpTs (t :: ts) (u :: us) = if cmpT t u ≠ 0 then cmpT t u else cmpTs ts us := by rw [cmpTs]
theorem cmpTs_nil : ∀ (ts us : List Tr), ts = [] ∨ us = [] → cmpTs ts us = (ts.length : Int) - us.length
  | [], us, _ => by rw [cmpTs]; simp
  | t :: ts, [], _ => by rw [cmpTs]; simp
  | _ :: _, _ :: _, h => by rcases h with h | h <;> cases h
section
variable {prog : Program} {w : World} {A : Around} {E : Value → Shared → Prop} {gs : Array GenState} {dr : Drawn} {tk : Nat} {os : OsState} {h g : Heap} {L : Addr} {mm : Str → Option Value} {news : Ledger}
/-- a for loop over a tuple that stands -/
theorem x_iter_tup {ax : Addr} {vs : List Value} {n : Nat} {env : Env} {target : Expr} {body : List Stmt} {R : Result → Shared → Prop} (hh : A.handled = none) (J : Nat → (Str → Option Value) → Ledger → Array GenState → Prop) (h0 : J 0 mm news gs) (F : Fr g L h mm) (N : News g L h news)
    (hax : h.get? ax = some { cls := .type "tuple", data := .seq vs.toArray n })
    (turn : ∀ (i : Nat) v m news gs' h tk own I, vs[i]? = some v → J i m news gs' → Fr g L h m → News g L h (own ++ news) → (∀ b ∈ [I], ∃ o, (b, o) ∈ own) → (∀ p ∈ news, p.1 ∉ [I]) →
      wpAny (model prog w) A (assign target env v) (fun _ s₂ => wpAny (model prog w) A (execs body env) (fun f s₃ => match f with
          | .next | .cont => ∃ m' news' gs'' h' tk', s₃ = ⟨h', gs'', dr, tk', os⟩ ∧ J (i + 1) m' news' gs'' ∧ Fr g L h' m' ∧ News g L h' (own ++ news') ∧ ∀ p ∈ news', p.1 ∉ [I]
          | .brk => R (.ok .next) s₃
          | .ret v => R (.ok (.ret v)) s₃) (notedBy (model prog w) A env fun e s' => R (.error e) s') s₂) (notedBy (model prog w) A env fun e s' => R (.error e) s') ⟨h, gs', dr, tk, os⟩)
    (done : ∀ m' news' gs' h' tk', J vs.length m' news' gs' → Fr g L h' m' → News g L h' news' → R (.ok .next) ⟨h', gs', dr, tk', os⟩)
    (ht : ∀ I v, letOwnedTupleGo target (.ref I) v = pure ()) :
    wpAny (model prog w) A (pyIter (.ref ax)) (fun it s₂ => codeAny (model prog w) A (.forLoop target it body [] env) R s₂) E ⟨h, gs, dr, tk, os⟩ := by
  have hI : ∀ p ∈ news, p.1 ≠ h.objs.size := news_lt N
  have hLI : L ≠ h.objs.size := Nat.ne_of_lt F.ns.lt
  have hLa : L ≠ ax := by
    obtain ⟨o, es, ep, h1, h2, _⟩ := F.ns
    intro e
    subst e
    rw [hax] at h1
    cases h1
    cases h2
  have haI : ax ≠ h.objs.size := Nat.ne_of_lt (Heap.lt_size hax)
  refine wpAny_pyIter_tuple (s := ⟨h, gs, dr, tk, os⟩) ⟨_, hax, rfl, n, rfl⟩ ?_
  refine loop_own (Walks.tuple hh h.objs.size ax haI vs.toArray) (by simp [hLI, hLa]) (fun b hb => ?_) (fun i h' st b hb => ?_) J h0 (F.push _) (fun p hp => ⟨Heap.get?_push_of_some _ (N p hp).1, (N p hp).2⟩) (fun p hp => by simpa using hI p hp) ⟨⟨_, Heap.get?_push_size _ rfl, rfl, rfl⟩, _, Heap.get?_push_of_some _ hax, rfl, n, rfl⟩ ?_ (fun m' news' gs' h' tk' hJ F' N' => done m' news' gs' h' tk' (by simpa using hJ) F' N') (ht _)
  · rw [List.mem_singleton.mp hb]; exact fresh_g F
  · rw [List.mem_singleton.mp hb]
    obtain ⟨⟨o, ho, _⟩, _⟩ := st
    exact ⟨o, ho⟩
  · rintro i v m news gs' h' tk' own hi hv hJ F' N' hown hnw hlive
    exact turn i v m news gs' h' tk' own h.objs.size (by simpa using hv) hJ F' N' hlive hnw
end
section
variable {w : World} {A : Around} {E : Value → Shared → Prop} {gs : Array GenState} {dr : Drawn} {tk : Nat} {os : OsState} {h : Heap} {Q : Value → Shared → Prop}
abbrev cpEnv (L : Addr) : Env := envOf (Str.ofString "_law_compared") (fdS (sAt 45)) L 1788 (Value.ref 1787)
theorem comp_step {a b : Tr} {v v' : Value} {T : Ledger} (B : Base w h) (hd : A.depth < recursionLimit) (hh : A.handled = none) (hza : (kd a).length ≤ 60000) (hzb : (kd b).length ≤ 60000) (hT : ∀ p ∈ T, h.get? p.1 = some p.2) (R : MRep T v a) (R' : MRep T v' b)
    (REC : ∀ t ∈ kd a, ∀ u, u ∈ kd b → ∀ {A' : Around} {E' : Value → Shared → Prop} {tk' : Nat} {h' : Heap} {Q' : Value → Shared → Prop} {v v' : Value}, Base w h' → A'.depth = A.depth + 1 → A'.handled = none → (∀ p ∈ T, h'.get? p.1 = some p.2) → MRep T v t → MRep T v' u →
      (∀ h'' t' tk', Ke h' h'' → Q' (.int (cmpT t u) t') ⟨h'', gs, dr, tk', os⟩) → wpAny (model pw w) A' (call (.ref 1788) [v, v']) Q' E' ⟨h', gs, dr, tk', os⟩)
    (H : ∀ h' t' tk', Ke h h' → Q (.int (cmpT a b) t') ⟨h', gs, dr, tk', os⟩) : wpAny (model pw w) A (call (.ref 1788) [v, v']) Q E ⟨h, gs, dr, tk, os⟩ := by
  cases R with
  | @mk u kl _ t1 t2 t3 t4 kids n q1 q2 q3 =>
  cases R' with
  | @mk u' kl' _ t1' t2' t3' t4' kids' n' q1' q2' q3' =>
  have g1 := hT _ q1
  have g2 := hT _ q2
  have g1' := hT _ q1'
  have g2' := hT _ q2'
  dsimp only at g1 g2 g1' g2'
  have hk := q3.length
  have hk' := q3'.length
  refine x_enter B hd (by rfl) (by rfl) (by rfl) (by rfl) (by rfl) (binds := [(Str.ofString "one", _), (Str.ofString "other", _)]) (by rfl) (locs (by rfl)) (by rfl) (by rfl) (by rfl) (by decide) ?_
  intro h₁ L tk' _ F N
  have hh' : (A.deeper (cpEnv L)).handled = none := hh
  show wpAny _ _ (execs (fdB (sAt 45)) _) _ _ _
  refine wpAny_execs_cons ?_
  refine wpAny_For ?_ (fun _ => rfl)
  repeat' tb_start
  refine x_iter_tup (n := 0) hh' (fun i m news gs' => gs' = gs ∧ news = [] ∧ (∃ ρ, m = look ([(Str.ofString "one", Value.ref u), (Str.ofString "other", Value.ref u')] ++ ρ)) ∧ (0 < i → tagT a = tagT b) ∧ (1 < i → keyT a = keyT b) ∧ (2 < i → bx a = bx b)) ?_ F (News.nil) (N.get (.head _)) ?_ ?_ (fun _ _ => by with_unfolding_all rfl)
  · exact ⟨rfl, rfl, ⟨_, (look_front (Has.all (by tb_rel))).symm⟩, fun q => absurd q (by omega), fun q => absurd q (by omega), fun q => absurd q (by omega)⟩
  · clear F N
    rintro i v m news gs' h₂ tk₂ own I hv ⟨rfl, rfl, ⟨ρ, rfl⟩, e1, e2, e3⟩ F N hlive hnw
    match i, hv with
    | 0, hv =>
      cases hv
      repeat' tb_start
      · have e : cmpT a b = -1 := by rw [cmpT_eq, if_pos (by assumption), if_pos (by assumption)]
        rw [e] at H
        exact H _ _ _ F.keep
      · have e : cmpT a b = 1 := by rw [cmpT_eq, if_pos (by assumption), if_neg (by assumption)]
        rw [e] at H
        exact H _ _ _ F.keep
      · exact ⟨_, _, _, _, _, rfl, ⟨rfl, rfl, ⟨_, (look_front (Has.all (by tb_rel))).symm⟩, fun _ => by assumption, fun q => absurd q (by omega), fun q => absurd q (by omega)⟩, F, N, fun p hp => nomatch hp⟩
    | 1, hv =>
      cases hv
      have e1 := e1 (by decide)
      repeat' tb_start
      · have e : cmpT a b = -1 := by rw [cmpT_eq, if_neg (fun q => q e1), if_pos (by assumption), if_pos (by assumption)]
        rw [e] at H
        exact H _ _ _ F.keep
      · have e : cmpT a b = 1 := by rw [cmpT_eq, if_neg (fun q => q e1), if_pos (by assumption), if_neg (by assumption)]
        rw [e] at H
        exact H _ _ _ F.keep
      · exact ⟨_, _, _, _, _, rfl, ⟨rfl, rfl, ⟨_, (look_front (Has.all (by tb_rel))).symm⟩, fun _ => e1, fun _ => by assumption, fun q => absurd q (by omega)⟩, F, N, fun p hp => nomatch hp⟩
    | 2, hv =>
      cases hv
      have e1 := e1 (by decide)
      have e2 := e2 (by decide)
      repeat' tb_start
      · have e : cmpT a b = -1 := by rw [cmpT_eq, if_neg (fun q => q e1), if_neg (fun q => q e2), if_pos (by assumption), if_pos (by assumption)]
        rw [e] at H
        exact H _ _ _ F.keep
      · have e : cmpT a b = 1 := by rw [cmpT_eq, if_neg (fun q => q e1), if_neg (fun q => q e2), if_pos (by assumption), if_neg (by rw [Bool.not_eq_true]; assumption)]
        rw [e] at H
        exact H _ _ _ F.keep
      · exact ⟨_, _, _, _, _, rfl, ⟨rfl, rfl, ⟨_, (look_front (Has.all (by tb_rel))).symm⟩, fun _ => e1, fun _ => e2, fun _ => by assumption⟩, F, N, fun p hp => nomatch hp⟩
    | i + 3, hv => simp at hv
  · clear F N
    rintro m news gs' h₂ tk₂ ⟨rfl, rfl, ⟨ρ, rfl⟩, e1, e2, e3⟩ F N
    have e1 := e1 (by simp)
    have e2 := e2 (by simp)
    have e3 := e3 (by simp)
    have ec : cmpT a b = cmpTs (kd a) (kd b) := by rw [cmpT_eq, if_neg (fun q => q e1), if_neg (fun q => q e2), if_neg (fun q => q e3)]
    rw [ec] at H
    dsimp only
    refine wpAny_execs_cons ?_
    refine wpAny_For ?_ (fun _ => rfl)
    repeat' tb_start
    have hmin : (if (kids'.length : Int) < (kids.length : Int) then (kids'.length : Int) else (kids.length : Int)) = ((min kids.length kids'.length : Nat) : Int) := by split <;> omega
    rw [hmin] at N
    refine x_iter_range (n := min kids.length kids'.length) hh' (by omega) (fun i m news gs'' => gs'' = gs' ∧ news = [] ∧ (∃ ρ, m = look ([(Str.ofString "one", Value.ref u), (Str.ofString "other", Value.ref u')] ++ ρ)) ∧ cmpTs (kd a) (kd b) = cmpTs ((kd a).drop i) ((kd b).drop i)) ?_ F News.nil (N.get (.head _)) ?_ ?_ (fun _ _ => by with_unfolding_all rfl)
    · exact ⟨rfl, rfl, ⟨_, (look_front (Has.all (by tb_rel))).symm⟩, rfl⟩
    · clear F N
      rintro i uu m news gs'' h₃ tk₃ own I hi ⟨rfl, rfl, ⟨ρ, rfl⟩, ei⟩ F N hown hlive hnw
      have hv : kids[((i : Nat) : Int).toNat]? = some (kids[i]'(by omega)) := by rw [Int.toNat_natCast]; exact List.getElem?_eq_getElem _
      have hv' : kids'[((i : Nat) : Int).toNat]? = some (kids'[i]'(by omega)) := by rw [Int.toNat_natCast]; exact List.getElem?_eq_getElem _
      obtain ⟨t, ht, Rt⟩ := q3.get i _ (List.getElem?_eq_getElem (by omega))
      obtain ⟨t', ht', Rt'⟩ := q3'.get i _ (List.getElem?_eq_getElem (by omega))
      have d1 : (kd a).drop i = t :: (kd a).drop (i + 1) := by
        obtain ⟨hlt, e⟩ := List.getElem?_eq_some_iff.mp ht
        rw [List.drop_eq_getElem_cons hlt, e]
      have d2 : (kd b).drop i = t' :: (kd b).drop (i + 1) := by
        obtain ⟨hlt, e⟩ := List.getElem?_eq_some_iff.mp ht'
        rw [List.drop_eq_getElem_cons hlt, e]
      rw [d1, d2, cmpTs_cons] at ei
      repeat' tb_start
      refine REC t (List.mem_of_getElem? ht) t' (List.mem_of_getElem? ht') (B.keeps F.keep) rfl hh' (fun p hp => F.keep _ _ (hT p hp)) Rt Rt' fun h₄ t5 tk₄ k₄ => ?_
      replace N := news_ke N k₄
      replace F := F.keeps k₄
      repeat' tb_start
      · rw [ei, if_pos (by assumption)] at H
        exact H _ _ _ F.keep
      · exact ⟨_, _, _, _, _, rfl, ⟨rfl, rfl, ⟨_, (look_front (Has.all (by tb_rel))).symm⟩, by rw [ei, if_neg (by simp; assumption)]⟩, F, N, fun p hp => nomatch hp⟩
    · clear F N
      rintro m news gs'' h₃ tk₃ ⟨rfl, rfl, ⟨ρ, rfl⟩, ei⟩ F N
      have en : cmpTs (kd a) (kd b) = (kids.length : Int) - kids'.length := by
        rw [ei, cmpTs_nil _ _ (by
          by_cases hq : kids.length ≤ kids'.length
          · exact .inl (List.drop_eq_nil_of_le (by omega))
          · exact .inr (List.drop_eq_nil_of_le (by omega))), List.length_drop, List.length_drop]
        omega
      rw [en] at H
      dsimp only
      repeat' tb_start
      exact H _ _ _ F.keep
end
section
variable {w : World}
theorem comp_call : ∀ (k : Nat) (a : Tr), Deep k a → ∀ (b : Tr) {A : Around} {E : Value → Shared → Prop} {gs : Array GenState} {dr : Drawn} {tk : Nat} {os : OsState} {h : Heap} {Q : Value → Shared → Prop} {v v' : Value} {T : Ledger},
    Base w h → A.depth + k < recursionLimit → A.handled = none → (encT a).length ≤ 60000 → (encT b).length ≤ 60000 → (∀ p ∈ T, h.get? p.1 = some p.2) → MRep T v a → MRep T v' b →
    (∀ h' t' tk', Ke h h' → Q (.int (cmpT a b) t') ⟨h', gs, dr, tk', os⟩) →
    wpAny (model pw w) A (call (.ref 1788) [v, v']) Q E ⟨h, gs, dr, tk, os⟩ := by
  have kl : ∀ t : Tr, (kd t).length ≤ (encT t).length := by
    intro t
    cases t with
    | b x => simp [kd]
    | l ts => rw [kd, encT, List.length_append]; have := encTs_len ts; omega
  have km : ∀ (t s : Tr), s ∈ kd t → (encT s).length ≤ (encT t).length := by
    intro t s hs
    cases t with
    | b x => cases hs
    | l ts => rw [encT, List.length_append]; have := encT_mem (t := s) (ts := ts) hs; omega
  intro k
  induction k with
  | zero =>
    intro a D b A E gs dr tk os h Q v v' T B hd hh hz hz' hT R R' H
    have hka : kd a = [] := by cases D; rfl
    exact comp_step B (by omega) hh (Nat.le_trans (kl a) hz) (Nat.le_trans (kl b) hz') hT R R' (fun t ht => by rw [hka] at ht; cases ht) H
  | succ k ih =>
    intro a D b A E gs dr tk os h Q v v' T B hd hh hz hz' hT R R' H
    refine comp_step B (by omega) hh (Nat.le_trans (kl a) hz) (Nat.le_trans (kl b) hz') hT R R' (fun t ht u hu => ?_) H
    intro A' E' tk' h' Q' v v' B' hd' hh' hT' R1 R2 H'
    have Dt : Deep k t := by
      cases D with
      | b => cases ht
      | l D => exact D t ht
    exact ih t Dt u B' (by omega) hh' (Nat.le_trans (km a t ht) hz) (Nat.le_trans (km b u hu) hz') hT' R1 R2 H'
end
end

section
/-! sizes and depths of the heap's trees -/
mutual
theorem enc_wt : ∀ t : Tr, (encT t).length ≤ wt t
  | .b x => by
    rw [encT, wt]
    have := preB_le x.length 128
    split
    · omega
    · rw [List.length_append]; omega
  | .l ts => by
    rw [encT, wt, List.length_append]
    have := preB_le (encTs ts).length 192
    have := encs_wt ts
    omega
theorem encs_wt : ∀ ts : List Tr, (encTs ts).length ≤ wts ts
  | [] => by rw [encTs, wts]; exact Nat.le_refl _
  | t :: ts => by
    rw [encTs, wts, List.length_append]
    have := enc_wt t
    have := encs_wt ts
    omega
end
theorem wts_app : ∀ (a b : List Tr), wts (a ++ b) = wts a + wts b
  | [], b => by rw [List.nil_append, wts, Nat.zero_add]
  | t :: a, b => by rw [List.cons_append, wts, wts, wts_app a b, Nat.add_assoc]
theorem wts_rev : ∀ a : List Tr, wts a.reverse = wts a
  | [] => rfl
  | t :: a => by rw [List.reverse_cons, wts_app, wts_rev a, wts, wts, wts]; omega
theorem wts_split {ts : List Tr} {i : Nat} (h : i < ts.length) (d : Tr) : wts ts = wts (ts.take i) + wt (ts.getD i d) + wts (ts.drop (i + 1)) := by
  have e : ts = ts.take i ++ ts.getD i d :: ts.drop (i + 1) := by
    rw [List.getD_eq_getElem?_getD, List.getElem?_eq_getElem h, Option.getD_some, ← List.drop_eq_getElem_cons h, List.take_append_drop]
  have := congrArg wts e
  rw [wts_app, wts] at this
  omega
theorem Deep.mono : ∀ {k m : Nat} {t : Tr}, Deep k t → k ≤ m → Deep m t
  | _, _, _, .b, _ => .b
  | _, 0, _, .l _, h => by omega
  | _, m + 1, _, .l H, h => .l fun t ht => (H t ht).mono (by omega)
theorem o8_len (i : Int) : (o8 i).length = 1 := rfl
theorem chgB_wt (x : List UInt8) (num : Int) : wt (chgB x num) ≤ x.length + 9 := by
  unfold chgB
  have := o8_len (num / 5)
  have hd : x.dropLast.length ≤ x.length := by rw [List.length_dropLast]; omega
  repeat' split
  · rw [wt, List.length_append]; omega
  · rw [wt]; omega
  · rw [wt, List.length_append]; omega
  · rw [wt, wts, wts, wt]; omega
  · rw [wt, List.length_append, List.length_drop]; omega
theorem chgB_deep (k : Nat) (x : List UInt8) (num : Int) : Deep (k + 1) (chgB x num) := by
  unfold chgB
  repeat' split
  · exact .b
  · exact .b
  · exact .b
  · exact .l fun t ht => by rw [List.mem_singleton.mp ht]; exact .b
  · exact .b
theorem chg_fit : ∀ (k : Nat) (t : Tr) (num : Int), Deep k t → wt (chgF k t num) ≤ wt t + 5 ∧ Deep (k + 1) (chgF k t num)
  | 0, .b x, num, _ => by rw [chgF, wt]; exact ⟨by have := chgB_wt x num; omega, chgB_deep _ _ _⟩
  | k + 1, .b x, num, _ => by rw [chgF, wt]; exact ⟨by have := chgB_wt x num; omega, chgB_deep _ _ _⟩
  | k + 1, .l ts, num, D => by
    have D' : ∀ t ∈ ts, Deep k t := by cases D; assumption
    have D2 : ∀ t ∈ ts, Deep (k + 1) t := fun t ht => (D' t ht).mono (by omega)
    have hm0 : 0 ≤ num % ((ts.length : Int) + 2) := Int.emod_nonneg _ (by omega)
    have hm1 : num % ((ts.length : Int) + 2) < (ts.length : Int) + 2 := Int.emod_lt_of_pos _ (by omega)
    rw [chgF]
    split
    · refine ⟨?_, .l fun t ht => ?_⟩
      · rw [wt, wts_app, wts, wts, wt, wt, o8_len]; omega
      · rcases List.mem_append.mp ht with ht | ht
        · exact D2 t ht
        · rw [List.mem_singleton.mp ht]; exact .b
    · rename_i h1
      split
      · refine ⟨?_, .l fun t ht => D2 t (List.mem_reverse.mp ht)⟩
        rw [wt, wts_rev, wt]; omega
      · rename_i h2
        have hlt : (num % ((ts.length : Int) + 2)).toNat < ts.length := by omega
        have e1 : (num % ((ts.length : Int) + 2) + 1).toNat = (num % ((ts.length : Int) + 2)).toNat + 1 := by omega
        have hs := wts_split hlt (.b [])
        rw [e1]
        split
        · refine ⟨?_, .l fun t ht => ?_⟩
          · rw [wt, wts_app, wt]; omega
          · rcases List.mem_append.mp ht with ht | ht
            · exact D2 t (List.mem_of_mem_take ht)
            · exact D2 t (List.mem_of_mem_drop ht)
        · have hmem : ts.getD (num % ((ts.length : Int) + 2)).toNat (.b []) ∈ ts := by
            rw [List.getD_eq_getElem?_getD, List.getElem?_eq_getElem hlt]; exact List.getElem_mem hlt
          obtain ⟨i1, i2⟩ := chg_fit k _ (num / ((ts.length : Int) + 2) / 4) (D' _ hmem)
          refine ⟨?_, .l fun t ht => ?_⟩
          · rw [wt, wts_app, wts_app, wts, wts, wt]; omega
          · rcases List.mem_append.mp ht with ht | ht
            · rcases List.mem_append.mp ht with ht | ht
              · exact D2 t (List.mem_of_mem_take ht)
              · rw [List.mem_singleton.mp ht]; exact i2
            · exact D2 t (List.mem_of_mem_drop ht)
/-! the places -/
section
variable (W : Nat → List UInt8)
/-- j stands ahead of i in the heap's order -/
def pre (j i : Nat) : Bool := if j < i then !ltB (W i) (W j) else ltB (W j) (W i)
def rank (n i : Nat) : Nat := (List.range n).countP fun j => pre W j i
variable {W}
theorem ltB_asymm {a b : List UInt8} (h : ltB a b = true) : ltB b a = false := by
  cases q : ltB b a with
  | false => rfl
  | true => have := ltB_trans h q; rw [ltB_refl] at this; cases this
theorem pre_self (i : Nat) : pre W i i = false := by unfold pre; rw [if_neg (Nat.lt_irrefl _), ltB_refl]
theorem pre_total {i j : Nat} (h : i ≠ j) (hp : pre W i j = false) : pre W j i = true := by
  unfold pre at *
  by_cases q : i < j
  · rw [if_pos q] at hp
    rw [if_neg (by omega)]
    simpa using hp
  · rw [if_neg q] at hp
    rw [if_pos (by omega), hp]
    rfl
theorem pre_le {j i : Nat} (h : pre W j i = true) : ltB (W i) (W j) = false := by
  unfold pre at h
  split at h
  · simpa using h
  · exact ltB_asymm h
theorem pre_of_lt {j i : Nat} (h : ltB (W j) (W i) = true) : pre W j i = true := by
  unfold pre
  split
  · rw [ltB_asymm h]; rfl
  · exact h
theorem ltB_le_trans {a b c : List UInt8} (h1 : ltB b a = false) (h2 : ltB c b = false) : ltB c a = false := by
  cases q : ltB c a with
  | false => rfl
  | true =>
    rcases ltB_neg b q with r | r
    · rw [h2] at r; cases r
    · rw [h1] at r; cases r
theorem pre_trans {i j k : Nat} (h1 : pre W i j = true) (h2 : pre W j k = true) : pre W i k = true := by
  have a1 := pre_le h1
  have a2 := pre_le h2
  have a3 := ltB_le_trans a1 a2
  by_cases q : ltB (W i) (W k) = true
  · exact pre_of_lt q
  · have e1 : W i = W k := ltB_total (by simpa using q) a3
    have e2 : W j = W k := ltB_total (by rw [← e1]; exact a1) a2
    have p1 : i < j := by
      rcases Nat.lt_or_ge i j with q | q
      · exact q
      · unfold pre at h1
        rw [if_neg (by omega), e1, e2, ltB_refl] at h1
        cases h1
    have p2 : j < k := by
      rcases Nat.lt_or_ge j k with q | q
      · exact q
      · unfold pre at h2
        rw [if_neg (by omega), e2, ltB_refl] at h2
        cases h2
    unfold pre
    rw [if_pos (by omega), e1, ltB_refl]
    rfl
theorem countP_le {α : Type} {p q : α → Bool} : ∀ {l : List α}, (∀ a ∈ l, p a = true → q a = true) → l.countP p ≤ l.countP q
  | [], _ => Nat.le_refl _
  | a :: l, h => by
    have ih := countP_le (l := l) fun b hb => h b (.tail _ hb)
    rw [List.countP_cons, List.countP_cons]
    cases hp : p a with
    | false => simp only [Bool.false_eq_true, if_false]; omega
    | true => rw [h a (.head _) hp]; simp only [if_true]; omega
theorem countP_lt {α : Type} {p q : α → Bool} : ∀ {l : List α}, (∀ a ∈ l, p a = true → q a = true) → (∃ a ∈ l, p a = false ∧ q a = true) → l.countP p < l.countP q
  | [], _, ⟨_, h, _⟩ => nomatch h
  | a :: l, h, ⟨b, hb, b1, b2⟩ => by
    rw [List.countP_cons, List.countP_cons]
    rcases List.mem_cons.mp hb with rfl | hb
    · have ih := countP_le (l := l) fun b hb => h b (.tail _ hb)
      rw [b1, b2]
      simp only [Bool.false_eq_true, if_false, if_true]
      omega
    · have ih := countP_lt (l := l) (fun b hb => h b (.tail _ hb)) ⟨b, hb, b1, b2⟩
      cases hp : p a with
      | false => simp only [Bool.false_eq_true, if_false]; omega
      | true => rw [h a (.head _) hp]; simp only [if_true]; omega
theorem rank_lt {n i : Nat} (h : i < n) : rank W n i < n := by
  have := countP_lt (p := fun j => pre W j i) (q := fun _ => true) (l := List.range n) (fun _ _ _ => rfl) ⟨i, List.mem_range.mpr h, pre_self i, rfl⟩
  unfold rank
  simpa using this
theorem rank_mono {n i j : Nat} (hi : i < n) (h : pre W i j = true) : rank W n i < rank W n j :=
  countP_lt (fun k _ hk => pre_trans hk h) ⟨i, List.mem_range.mpr hi, pre_self i, h⟩
theorem rank_inj {n i j : Nat} (hi : i < n) (hj : j < n) (h : rank W n i = rank W n j) : i = j := by
  by_cases e : i = j
  · exact e
  · cases q : pre W i j with
    | true => have := rank_mono hi q; omega
    | false => have := rank_mono hj (pre_total e q); omega
theorem surj : ∀ (n : Nat) (f : Nat → Nat), (∀ i, i < n → f i < n) → (∀ i j, i < n → j < n → f i = f j → i = j) → ∀ k, k < n → ∃ i, i < n ∧ f i = k
  | 0, _, _, _, k, hk => by omega
  | n + 1, f, hf, hinj, k, hk => by
    have hne : ∀ i, i < n → f i ≠ f n := fun i hi e => by have := hinj i n (by omega) (by omega) e; omega
    by_cases e : k = f n
    · exact ⟨n, by omega, e.symm⟩
    · obtain ⟨i, hi, hg⟩ := surj n (fun i => if f i < f n then f i else f i - 1) (fun i hi => by
        have h1 := hf i (by omega)
        have h2 := hf n (by omega)
        have h3 := hne i hi
        split <;> omega) (fun i j hi hj h => by
        have h1 := hne i hi
        have h2 := hne j hj
        refine hinj i j (by omega) (by omega) ?_
        split at h <;> split at h <;> omega) (if k < f n then k else k - 1) (by have := hf n (by omega); split <;> omega)
      refine ⟨i, by omega, ?_⟩
      have h1 := hne i hi
      split at hg <;> split at hg <;> omega
theorem rank_surj {n k : Nat} (hk : k < n) : ∃ i, i < n ∧ rank W n i = k :=
  surj n (rank W n) (fun _ h => rank_lt h) (fun _ _ hi hj h => rank_inj hi hj h) k hk
/-- in a sorted row, what holds of the smaller holds up to its count -/
theorem sorted_count {p : List UInt8 → Bool} (hp : ∀ a b, ltB b a = false → p b = true → p a = true) : ∀ {l : List (List UInt8)}, l.Pairwise (fun a b => ltB b a = false) → ∀ (k : Nat) (x : List UInt8), l[k]? = some x → (p x = true ↔ k < l.countP p)
  | [], _, k, x, e => by simp at e
  | a :: l, h, k, x, e => by
    have h1 := (List.pairwise_cons.mp h).1
    have h2 := (List.pairwise_cons.mp h).2
    rw [List.countP_cons]
    cases hpa : p a with
    | true =>
      simp only [if_true]
      cases k with
      | zero =>
        simp at e
        subst e
        simp [hpa]
      | succ k =>
        have ih := sorted_count hp h2 k x (by simpa using e)
        rw [ih]
        omega
    | false =>
      have hall : ∀ b ∈ l, p b = false := fun b hb => by
        cases q : p b with
        | false => rfl
        | true => rw [hp a b (h1 b hb) q] at hpa; cases hpa
      have hz : l.countP p = 0 := by rw [List.countP_eq_zero]; intro b hb; rw [hall b hb]; decide
      simp only [Bool.false_eq_true, if_false]
      rw [hz]
      have hx : p x = false := by
        cases k with
        | zero => simp at e; subst e; exact hpa
        | succ k => exact hall x (List.mem_of_getElem? (by simpa using e))
      rw [hx]
      constructor
      · intro q; cases q
      · intro q; omega
/-- the sorted octets hold each tree's octets at its place -/
theorem sorted_rank {n : Nat} {bs : List (List UInt8)} (hp : bs.Perm ((List.range n).map W)) (hs : bs.Pairwise (fun a b => ltB b a = false)) {i : Nat} (hi : i < n) : bs[rank W n i]? = some (W i) := by
  have hl : bs.length = n := by rw [hp.length_eq, List.length_map, List.length_range]
  have hr : rank W n i < bs.length := by rw [hl]; exact rank_lt hi
  have e := List.getElem?_eq_getElem hr
  rw [e]
  congr 1
  have c1 := sorted_count (p := fun a => ltB a (W i)) (fun a b h q => by
    rcases ltB_neg a q with r | r
    · rw [h] at r; cases r
    · exact r) hs _ _ e
  have c2 := sorted_count (p := fun a => !ltB (W i) a) (fun a b h q => by
    have q' : ltB (W i) b = false := by simpa using q
    have := ltB_le_trans h q'
    simpa using this) hs _ _ e
  rw [hp.countP_eq, List.countP_map] at c1 c2
  have a1 : (List.range n).countP ((fun a => ltB a (W i)) ∘ W) ≤ rank W n i := countP_le fun j _ h => pre_of_lt h
  have a2 : rank W n i < (List.range n).countP ((fun a => !ltB (W i) a) ∘ W) := countP_lt (fun j _ h => by
    show (!ltB (W i) (W j)) = true
    rw [pre_le h]
    rfl) ⟨i, List.mem_range.mpr hi, pre_self i, by show (!ltB (W i) (W i)) = true; rw [ltB_refl]; rfl⟩
  have d1 : ltB bs[rank W n i] (W i) = false := by
    cases q : ltB bs[rank W n i] (W i) with
    | false => rfl
    | true => have := c1.mp q; omega
  have d2 : ltB (W i) bs[rank W n i] = false := by
    have := c2.mpr a2
    simpa using this
  exact ltB_total d1 d2
/-- what the places are in the middle of the run: rows up to i done, of row i those ahead of b -/
def psAt (W : Nat → List UInt8) (i b j : Nat) : Nat :=
  if j < i then (List.range i).countP (fun k => pre W k j) + (if j < b ∧ pre W i j = true then 1 else 0) else if j = i then (List.range b).countP (fun k => pre W k i) else 0
theorem ps_next {i j : Nat} : psAt W i i j = psAt W (i + 1) 0 j := by
  unfold psAt
  by_cases h : j < i
  · rw [if_pos h, if_pos (show j < i + 1 by omega), if_neg (show ¬ (j < 0 ∧ _) by omega), List.range_succ, List.countP_append]
    cases q : pre W i j <;> simp [h, q]
  · by_cases h2 : j = i
    · subst h2
      rw [if_neg h, if_pos rfl, if_pos (show j < j + 1 by omega), if_neg (show ¬ (j < 0 ∧ _) by omega), List.range_succ, List.countP_append]
      simp [pre_self]
    · rw [if_neg h, if_neg h2, if_neg (show ¬ j < i + 1 by omega)]
      by_cases h3 : j = i + 1
      · rw [if_pos h3]; rfl
      · rw [if_neg h3]
theorem ps_low {i b : Nat} (hb : b < i) (h : ltB (W i) (W b) = true) (j : Nat) : psAt W i (b + 1) j = if j = b then psAt W i b j + 1 else psAt W i b j := by
  have hp : pre W i b = true := pre_of_lt h
  have hq : pre W b i = false := by unfold pre; rw [if_pos hb, h]; rfl
  unfold psAt
  by_cases e : j = b
  · subst e
    rw [if_pos rfl, if_pos hb, if_pos hb, if_pos ⟨by omega, hp⟩, if_neg (by omega)]
  · rw [if_neg e]
    by_cases h1 : j < i
    · rw [if_pos h1, if_pos h1]
      congr 1
      by_cases h2 : j < b
      · simp [h2, show j < b + 1 by omega]
      · simp [h2, show ¬ j < b + 1 by omega]
    · rw [if_neg h1, if_neg h1]
      by_cases h2 : j = i
      · rw [if_pos h2, if_pos h2, List.range_succ, List.countP_append]
        simp [hq]
      · rw [if_neg h2, if_neg h2]
theorem ps_high {i b : Nat} (hb : b < i) (h : ltB (W i) (W b) = false) (j : Nat) : psAt W i (b + 1) j = if j = i then psAt W i b j + 1 else psAt W i b j := by
  have hp : pre W i b = false := by unfold pre; rw [if_neg (by omega), h]
  have hq : pre W b i = true := by unfold pre; rw [if_pos hb, h]; rfl
  unfold psAt
  by_cases e : j = i
  · subst e
    rw [if_pos rfl, if_neg (Nat.lt_irrefl _), if_pos rfl, if_neg (Nat.lt_irrefl _), if_pos rfl, List.range_succ, List.countP_append]
    simp [hq]
  · rw [if_neg e]
    by_cases h1 : j < i
    · rw [if_pos h1, if_pos h1]
      congr 1
      by_cases h2 : j < b
      · simp [e, h2, show j < b + 1 by omega]
      · by_cases h3 : j = b
        · subst h3; simp [hp, e]
        · simp [e, h2, show ¬ j < b + 1 by omega]
    · rw [if_neg h1, if_neg h1, if_neg e, if_neg e]
theorem ps_start (j : Nat) : psAt W 0 0 j = 0 := by
  unfold psAt
  rw [if_neg (by omega)]
  split <;> rfl
theorem ps_end {n j : Nat} (h : j < n) : psAt W n 0 j = rank W n j := by
  unfold psAt rank
  rw [if_pos h, if_neg (by omega), Nat.add_zero]
end
/-- of octets that differ none begins the other -/
theorem less_take {a b : List UInt8} (h : Less a b) {m : Nat} (h1 : a.length ≤ m ∨ b.length ≤ m) (h2 : m ≤ a.length) (h3 : m ≤ b.length) : a.take m ≠ b.take m := by
  obtain ⟨p, x, y, s, t, rfl, rfl, hl⟩ := h
  intro e
  simp only [List.length_append, List.length_cons] at h1 h2 h3
  have := congrArg (fun l => l[p.length]?) e
  simp only [List.getElem?_take] at this
  rw [if_pos (by omega), if_pos (by omega), List.getElem?_append_right (Nat.le_refl _), List.getElem?_append_right (Nat.le_refl _), Nat.sub_self] at this
  injection this with this
  rw [this] at hl
  exact Nat.lt_irrefl _ hl
end

section
theorem BsAre.snoc : ∀ {vs : List Value} {bs : List (List UInt8)} {x : List UInt8} {t : Tok}, BsAre vs bs → BsAre (vs ++ [.bytes x.toArray t]) (bs ++ [x])
  | _, _, _, _, .nil => .cons _ _ .nil
  | _, _, _, _, .cons y u r => .cons y u r.snoc
theorem take_snoc {α : Type} {l : List α} {i : Nat} {x : α} (h : l[i]? = some x) : l.take (i + 1) = l.take i ++ [x] := by rw [List.take_add_one, h]; rfl
def PV (pv : List Value) (n : Nat) (f : Nat → Nat) : Prop := pv.length = n ∧ ∀ j, j < n → ∃ t, pv[j]? = some (.int ((f j : Nat) : Int) t)
theorem PV.set {pv : List Value} {n k : Nat} {f f' : Nat → Nat} {x : Int} {t : Tok} (P : PV pv n f) (hk : k < n) (hx : x = ((f' k : Nat) : Int)) (ho : ∀ j, j ≠ k → f' j = f j) : PV (pv.set k (.int x t)) n f' := by
  refine ⟨by rw [List.length_set]; exact P.1, fun j hj => ?_⟩
  by_cases e : j = k
  · subst e
    exact ⟨t, by rw [List.getElem?_set_self (by rw [P.1]; exact hj), hx]⟩
  · obtain ⟨u, hu⟩ := P.2 j hj
    exact ⟨u, by rw [List.getElem?_set_ne (Ne.symm e), hu, ho j e]⟩
theorem sl_take (x : List UInt8) {i : Int} (h : 0 ≤ i) : sl x none (some i) = x.take i.toNat := by
  simp only [sl, Option.elim, List.drop_zero, Nat.sub_zero]
  rw [clipAt_nn _ _ h, ← List.take_eq_take_min]
theorem short_ne {a b : List UInt8} (h : Less a b ∨ Less b a) : sl a none (some (if (b.length : Int) < (a.length : Int) then (b.length : Int) else (a.length : Int))) ≠ sl b none (some (if (b.length : Int) < (a.length : Int) then (b.length : Int) else (a.length : Int))) := by
  have e : (if (b.length : Int) < (a.length : Int) then (b.length : Int) else (a.length : Int)) = ((min a.length b.length : Nat) : Int) := by split <;> omega
  rw [e, sl_take _ (by omega), sl_take _ (by omega), Int.toNat_natCast]
  rcases h with h | h
  · exact less_take h (by omega) (by omega) (by omega)
  · exact fun q => less_take h (by omega) (by omega) (by omega) q.symm
theorem cmp_less {a b : Tr} (ha : (encT a).length < 65536) (hb : (encT b).length < 65536) (h : cmpT a b ≠ 0) : Less (encT a) (encT b) ∨ Less (encT b) (encT a) := by
  obtain ⟨_, h1, h2⟩ := cmp_spec a b ha hb
  rcases Int.lt_trichotomy (cmpT a b) 0 with q | q | q
  · exact .inl (h1 q)
  · exact absurd q h
  · exact .inr (h2 q)
theorem enc_inj {a b : Tr} (ha : (encT a).length < 65536) (hb : (encT b).length < 65536) (h : encT a = encT b) : a = b :=
  (cmp_spec a b ha hb).1 ((cmp_enc ha hb).1.mpr h)
theorem map_range {Hs : List Tr} : Hs.map encT = (List.range Hs.length).map fun i => encT (Hs.getD i (.b [])) := by
  refine List.ext_getElem? fun i => ?_
  rw [List.getElem?_map, List.getElem?_map]
  by_cases h : i < Hs.length
  · rw [List.getElem?_range h, List.getElem?_eq_getElem h, Option.map_some, Option.map_some, List.getD_eq_getElem?_getD, List.getElem?_eq_getElem h]
    rfl
  · rw [List.getElem?_eq_none (by omega), List.getElem?_eq_none (by simp; omega)]
    rfl
theorem news_own2 {own R : Ledger} {a I : Addr} {o o' : Obj} (H : ∀ p ∈ own ++ (a, o) :: R, p.1 ≠ I) : ∀ p ∈ own ++ (a, o') :: R, p.1 ≠ I := by
  intro p hp
  rcases List.mem_append.mp hp with hp | hp
  · exact H p (List.mem_append_left _ hp)
  · rcases List.mem_cons.mp hp with rfl | hp
    · exact H (_, o) (List.mem_append_right _ (List.mem_cons_self ..))
    · exact H p (List.mem_append_right _ (List.mem_cons_of_mem _ hp))
theorem news_own1 {R : Ledger} {a I : Addr} {o o' : Obj} (H : ∀ p ∈ (a, o) :: R, p.1 ≠ I) : ∀ p ∈ (a, o') :: R, p.1 ≠ I := news_own2 (own := []) H
section
variable {w : World} {A : Around} {E' : Value → Shared → Prop} {gs : Array GenState} {dr : Drawn} {tk : Nat} {os : OsState} {hb h : Heap} {Q : Value → Shared → Prop}
abbrev envL2 (L : Addr) : Env := envOf (Str.ofString "law") (fdS (sAt 46)) L 1793 (Value.ref 1792)
theorem law_tail2 {L hp : Addr} {ρ : List (Str × Value)} {T : Ledger} {hv : List Value} {k0 : Nat} {Hs : List Tr} (B₀ : Base w hb) (K0 : ∀ g, Below A g [] g) (hd : A.depth + 100 < recursionLimit) (hu : A.units + 100 < cLine) (hh : A.handled = none)
    (F : Fr hb L h (look ([(Str.ofString "heap", Value.ref hp)] ++ ρ))) (N : News hb L h ((hp, lob hv k0) :: T)) (Rs : Reps T hv Hs) (hn : Hs.length ≤ 9) (hfit : ∀ t ∈ Hs, wt t ≤ 1200 ∧ Deep 10 t) (ht : hb.get? 1702 = some (ob1702 w.params))
    (H : ∀ h' tk' gs', OldK hb h' → GExt gs gs' → Q (.bool true) ⟨h', gs', dr, tk', os⟩) :
    wpAny (model pw w) (A.deeper (envL2 L)) (execs ((fdB (sAt 46)).drop 4) (envL2 L)) (fun fl s' => Q (match fl with | .ret v => v | _ => .none) s') E' ⟨h, gs, dr, tk, os⟩ := by
  have hh' : (A.deeper (envL2 L)).handled = none := hh
  have hdd : (A.deeper (envL2 L)).depth = A.depth + 1 := rfl
  have hdu : (A.deeper (envL2 L)).units ≤ A.units + 10 := by show A.units + 3 ≤ _; omega
  have hlen := Rs.length
  have hez : ∀ t ∈ Hs, (encT t).length ≤ 1200 := fun t ht => Nat.le_trans (enc_wt t) (hfit t ht).1
  have h1L : (1702 : Addr) ≠ L := Nat.ne_of_lt (Nat.lt_of_lt_of_le (Heap.lt_size ht) F.above)
  have hne : ∀ p ∈ (hp, lob hv k0) :: T, p.1 ≠ 1702 := fun p hp e => by
    have := (N p hp).2.2
    rw [e, ht] at this
    cases this
  have B : Base w (hideAll hb [1702]) := base_tab B₀
  have N' : News (hideAll hb [1702]) L h ((1702, ob1702 w.params) :: (hp, lob hv k0) :: T) := by
    intro p hp
    rcases List.mem_cons.mp hp with rfl | hp
    · exact ⟨F.keep _ _ ht, h1L, hideAll_none _ (.head _)⟩
    · obtain ⟨a, b, c⟩ := N p hp
      refine ⟨a, b, ?_⟩
      cases q : (hideAll hb [1702]).get? p.1 with
      | none => rfl
      | some o => have := (hide1 _ _ q).1; rw [c] at this; cases this
  have F' := fr_hide (S := 1702) F
  clear F N
  have F := F'
  have N := N'
  clear F' N'
  have K : Below A (hideAll hb [1702]) [] (hideAll hb [1702]) := K0 _
  refine wpAny_execs_cons ?_
  refine x_acomp (cl := []) (by rfl) (fun _ => rfl) (by rfl) (by rfl) (by decide) ?_
  repeat' tb_start
  refine comp_list (n := k0) hh' (by decide) (by rfl) (by rfl) (by omega) (fun i ys news' gs' => ∃ o ps, TabO o ps ∧ news' = (1702, o) :: (hp, lob hv k0) :: T ∧ GExt gs gs' ∧ BsAre ys ((Hs.take i).map encT)) ⟨_, #[], ⟨rfl, trivial⟩, rfl, GExt.refl _, .nil⟩ F N (N.get (.tail _ (.head _))) ?_ ?_
  · clear F N
    rintro i v ys news' gs' h₂ tk₂ own C D I mC E' hvi ⟨o, ps, ho, rfl, ge, hbs⟩ F N hnw hlive hown hn hm
    obtain ⟨t, hti, Ri⟩ := Rs.get i v hvi
    have hmem : t ∈ Hs := List.mem_of_getElem? hti
    repeat' tb_start
    refine encode_call (k := 10) (hfit t hmem).2 (B.keeps F.keep) (by show A.depth + 1 + 2 * 10 + 4 < _; omega) hh' (by have := hez t hmem; omega) (N.get (a := 1702) (o := o) (List.mem_append_right _ (.head _))) ho (T := T) (fun p hp => ⟨hne p (.tail _ hp), (N p (List.mem_append_right _ (.tail _ (.tail _ hp)))).1⟩) Ri (ca := true) (fun pm S => by rfl) fun h₃ t₃ tk₃ gs₃ o₃ kp₃ h17 ht₃ ge₃ => ?_
    obtain ⟨ps₃, ht₃⟩ := ht₃
    have hoff : ∀ p ∈ own, p.1 ≠ 1702 := fun p hp e => by
      have q1 := hnw (1702, o) (.head _)
      have q2 := hown p hp
      have q3 := hne _ (.head _)
      dsimp only at q1 q3
      rw [e] at q2
      simp only [List.mem_cons, List.mem_nil_iff, or_false, not_or] at q1 q2
      rcases q2 with q | q | q | q
      · exact q1.1 q
      · exact q1.2.1 q
      · exact q1.2.2 q
      · exact q3 q.symm
    refine ⟨(1702, o₃) :: (hp, lob hv k0) :: T, gs₃, h₃, tk₃, rfl, ⟨o₃, ps₃, ht₃, rfl, ge.trans ge₃, ?_⟩, ⟨F.ns.at' fun ob e => kp₃ L ob h1L.symm e, fun b ob e => kp₃ b ob (hide1 b ob e).2 (F.keep b ob e), F.above⟩, fun p hp => ?_, fun p hp => ?_⟩
    · rw [take_snoc hti, List.map_append]
      exact hbs.snoc
    · rcases List.mem_append.mp hp with hp | hp
      · obtain ⟨a, b⟩ := N p (List.mem_append_left _ hp)
        exact ⟨kp₃ _ _ (hoff p hp) a, b⟩
      · rcases List.mem_cons.mp hp with rfl | hp
        · exact ⟨h17, (N (1702, o) (List.mem_append_right _ (.head _))).2⟩
        · obtain ⟨a, b⟩ := N p (List.mem_append_right _ (.tail _ hp))
          exact ⟨kp₃ _ _ (hne p hp) a, b⟩
    · rcases List.mem_cons.mp hp with rfl | hp
      · exact hnw (1702, o) (.head _)
      · exact hnw p (.tail _ hp)
  clear F N
  rintro C wr ys k1 news' gs₁ h₂ tk₂ mC ⟨o, ps, ho, rfl, ge, hbs⟩ hyl F N h1 h2 h3 h4 h5
  refine comp_end_use F N h2 h3 h4 h5 (by rfl) (by rfl) fun h₃ tk₃ F₃ N₃ => ?_
  rw [hlen, List.take_length] at hbs
  clear F N h1 h2 h3 h4 h5
  have F := F₃
  have N := N₃
  clear F₃ N₃
  refine wpAny_execs_cons ?_
  refine x_acomp (cl := []) (by rfl) (fun _ => rfl) (by rfl) (by rfl) (by decide) ?_
  repeat' tb_start
  refine comp_ke (n := k0) hh' (by decide) (by rfl) (by rfl) (by omega) (fun i y T => ∃ t, Hs[i]? = some t ∧ MRep T y t) (fun i y T T' k => fun ⟨t, e, r⟩ => ⟨t, e, r.mono k⟩) F N (N.get (.tail _ (.tail _ (.head _)))) ?_ ?_
  · clear F N
    rintro i v h₂ tk₂ C mC E' hv F N hn hm
    obtain ⟨t, hti, Ri⟩ := Rs.get i v hv
    have hmem : t ∈ Hs := List.mem_of_getElem? hti
    repeat' tb_start
    refine meas_call 10 t (hfit t hmem).2 (T := T) (B.keeps F.keep) (by show A.depth + 1 + 10 + 1 < _; omega) hh' (by have := hez t hmem; omega) (fun p hp => (N p (.tail _ (.tail _ (.tail _ hp)))).1) Ri fun h₃ v₃ T₃ tk₃ k₃ X₃ R₃ => ?_
    exact ⟨h₃, tk₃, T₃, rfl, k₃, X₃, t, hti, R₃⟩
  clear F N
  rintro C ms zs k2 T2 h₂ tk₂ mC hzs hzl F N h1 h2 h3 h4 h5
  refine comp_end_use F N h2 h3 h4 h5 (by rfl) (by rfl) fun h₃ tk₃ F₃ N₃ => ?_
  have Ms : MReps T2 zs Hs := MReps.of (by omega) hzs
  clear F N h1 h2 h3 h4 h5
  have F := F₃
  have N := N₃
  clear F₃ N₃
  refine wpAny_execs_cons ?_
  refine x_acomp (cl := []) (by rfl) (fun _ => rfl) (by rfl) (by rfl) (by decide) ?_
  repeat' tb_start
  refine comp_ke (vs := hv) (n := k0) hh' (by decide) (by rfl) (by rfl) (by omega) (fun i y T => ∃ t, y = .int 0 t) (fun i y T T' k r => r) F N (N.get (by tb_rel)) ?_ ?_
  · clear F N
    rintro i v h₂ tk₂ C mC E' hv F N hn hm
    repeat' tb_start
    exact ⟨_, _, [], rfl, fun _ _ e => e, .nil, _, rfl⟩
  clear F N
  rintro C pl qs k3 T3 h₂ tk₂ mC hqs hql F N h1 h2 h3 h4 h5
  refine comp_end_use F N h2 h3 h4 h5 (by rfl) (by rfl) fun h₃ tk₃ F₃ N₃ => ?_
  clear F N h2 h3 h4 h5
  have F := F₃
  have N := N₃
  clear F₃ N₃
  obtain ⟨REST, hREST⟩ : ∃ R, R = T3 ++ (ms, lob zs k2) :: (T2 ++ (wr, lob ys k1) :: (1702, o) :: (hp, lob hv k0) :: T) := ⟨_, rfl⟩
  rw [← hREST] at N h1
  have m1 : (ms, lob zs k2) ∈ REST := by rw [hREST]; tb_rel
  have m2 : (wr, lob ys k1) ∈ REST := by rw [hREST]; tb_rel
  have m3 : (1702, o) ∈ REST := by rw [hREST]; tb_rel
  have m4 : (hp, lob hv k0) ∈ REST := by rw [hREST]; tb_rel
  have mT2 : ∀ p ∈ T2, p ∈ REST := fun p hp => by rw [hREST]; tb_rel
  have mT : ∀ p ∈ T, p ∈ REST := fun p hp => by rw [hREST]; tb_rel
  clear hREST
  have G : ∀ i, i < hv.length → ∃ t x zi, ys[i]? = some (.bytes (encT (Hs.getD i (.b []))).toArray t) ∧ zs[i]? = some zi ∧ MRep T2 zi (Hs.getD i (.b [])) ∧ hv[i]? = some x ∧ Rep T x (Hs.getD i (.b [])) ∧ Hs.getD i (.b []) ∈ Hs := by
    intro i hi
    have hi' : i < Hs.length := by omega
    have e : Hs[i]? = some (Hs.getD i (.b [])) := by rw [List.getD_eq_getElem?_getD, List.getElem?_eq_getElem hi']; rfl
    obtain ⟨t, q1⟩ := hbs.get i (by rw [List.length_map]; exact hi')
    obtain ⟨t1, q2, q3⟩ := Ms.get i _ (List.getElem?_eq_getElem (by omega))
    obtain ⟨t2, q4, q5⟩ := Rs.get i _ (List.getElem?_eq_getElem hi)
    rw [e] at q2 q4
    cases q2
    cases q4
    refine ⟨t, _, _, ?_, List.getElem?_eq_getElem (by omega), q3, List.getElem?_eq_getElem hi, q5, List.mem_of_getElem? e⟩
    rw [q1, List.getD_eq_getElem?_getD, List.getElem?_map, e]
    rfl
  have P0 : PV qs hv.length (psAt (fun i => encT (Hs.getD i (.b []))) 0 0) := ⟨hql, fun j hj => by
    obtain ⟨t, e⟩ := hqs j _ (List.getElem?_eq_getElem (by omega))
    exact ⟨t, by rw [ps_start, List.getElem?_eq_getElem (by omega), e]; rfl⟩⟩
  refine wpAny_execs_cons ?_
  refine wpAny_For ?_ (fun _ => rfl)
  repeat' tb_start
  refine x_iter_range (n := hv.length) hh' (by omega) (fun i m news gs' => gs' = gs₁ ∧ (∃ ρ, m = look ([(Str.ofString "heap", Value.ref hp), (Str.ofString "written", Value.ref wr), (Str.ofString "measured", Value.ref ms), (Str.ofString "places", Value.ref pl)] ++ ρ)) ∧ ∃ pv k, news = (pl, lob pv k) :: REST ∧ PV pv hv.length (psAt (fun i => encT (Hs.getD i (.b []))) i 0)) ?_ F (News.tail' N) (N.get (.head _)) ?_ ?_ (fun _ _ => by with_unfolding_all rfl)
  · exact ⟨rfl, ⟨_, (look_front (Has.all (by tb_rel))).symm⟩, qs, k3, rfl, P0⟩
  · clear F N
    rintro i u m news gs' h₂ tk₂ own I hi ⟨rfl, ⟨ρ, rfl⟩, pv, k, rfl, P⟩ F N hown ⟨oI, hoI⟩ hnI
    obtain ⟨ti, xi, zi, g1, g2, g3, g4, g5, g6⟩ := G i hi
    have hpo : ∀ p ∈ own, p.1 ≠ pl := fun p hp => by rw [hown p hp]; exact Ne.symm (hnI _ (.head _))
    have g1' : ys[((i : Nat) : Int).toNat]? = some (.bytes (encT (Hs.getD i (.b []))).toArray ti) := by rw [Int.toNat_natCast]; exact g1
    have g2' : zs[((i : Nat) : Int).toNat]? = some zi := by rw [Int.toNat_natCast]; exact g2
    have hzi := hez _ g6
    have g3' := g3
    cases g3 with
    | @mk ui kl _ t1 t2 t3 t4 kids n q1 q2 q3 =>
    have q1' := mT2 _ q1
    repeat' tb_start
    · exact absurd rfl (by assumption)
    · refine wpAny_For ?_ (fun _ => rfl)
      repeat' tb_start
      refine x_iter_range (n := i) hh' (by omega) (fun b m news gs'' => gs'' = gs' ∧ (∃ ρ, m = look ([(Str.ofString "at", Value.int (i : Int) u), (Str.ofString "heap", Value.ref hp), (Str.ofString "written", Value.ref wr), (Str.ofString "measured", Value.ref ms), (Str.ofString "places", Value.ref pl)] ++ ρ)) ∧ ∃ pv k, news = own ++ (pl, lob pv k) :: REST ∧ PV pv hv.length (psAt (fun i => encT (Hs.getD i (.b []))) i b)) ?_ F (News.tail' N) (N.get (.head _)) ?_ ?_ (fun _ _ => by with_unfolding_all rfl)
      · exact ⟨rfl, ⟨_, (look_front (Has.all (by tb_rel))).symm⟩, pv, k, rfl, P⟩
      · clear F N P
        rintro b u2 m news gs'' h₃ tk₃ own2 I2 hib ⟨rfl, ⟨ρ, rfl⟩, pv, k, rfl, P⟩ F N hown2 ⟨oI2, hoI2⟩ hnI2
        have hpo2 : ∀ p ∈ own2, p.1 ≠ pl := fun p hp => by rw [hown2 p hp]; exact Ne.symm (hnI2 (pl, lob pv k) (List.mem_append_right _ (.head _)))
        obtain ⟨tb, xb, zb, f1, f2, f3, f4, f5, f6⟩ := G b (by omega)
        have f1' : ys[((b : Nat) : Int).toNat]? = some (.bytes (encT (Hs.getD b (.b []))).toArray tb) := by rw [Int.toNat_natCast]; exact f1
        have f2' : zs[((b : Nat) : Int).toNat]? = some zb := by rw [Int.toNat_natCast]; exact f2
        have hzb := hez _ f6
        have hpl := P.1
        obtain ⟨c1, hc1⟩ := P.2 b (by omega)
        obtain ⟨c2, hc2⟩ := P.2 i (by omega)
        have hc1' : pv[((b : Nat) : Int).toNat]? = some (.int ((psAt (fun i => encT (Hs.getD i (.b []))) i b b : Nat) : Int) c1) := by rw [Int.toNat_natCast]; exact hc1
        have hc2' : pv[((i : Nat) : Int).toNat]? = some (.int ((psAt (fun i => encT (Hs.getD i (.b []))) i b i : Nat) : Int) c2) := by rw [Int.toNat_natCast]; exact hc2
        have hcmp := cmp_enc (a := Hs.getD i (.b [])) (b := Hs.getD b (.b [])) (by omega) (by omega)
        repeat' tb_start
        refine comp_call 10 _ (hfit _ g6).2 _ (B.keeps F.keep) (by show A.depth + 1 + 10 < _; omega) hh' (by omega) (by omega) (T := T2) (fun p hp => (N p (List.mem_append_right _ (List.mem_append_right _ (.tail _ (mT2 p hp))))).1) g3' f3 fun h₄ t5 tk₄ k₄ => ?_
        replace N := news_ke N k₄
        replace F := F.keeps k₄
        repeat' tb_start
        · refine absurd ?_ (show ¬ _ by assumption)
          rw [Bool.eq_iff_iff, beq_iff_eq, beq_iff_eq]
          exact hcmp.1
        · refine absurd ?_ (show ¬ _ by assumption)
          rw [Bool.eq_iff_iff, decide_eq_true_iff]
          exact hcmp.2
        · exact absurd (by assumption) (short_ne (cmp_less (by omega) (by omega) (by assumption)))
        · have hl := hcmp.2.mp (by assumption)
          rw [Int.toNat_natCast] at N
          exact ⟨_, _, _, _, _, rfl, ⟨rfl, ⟨_, (look_front (Has.all (by tb_rel))).symm⟩, _, _, rfl, P.set (k := b) (by omega) (by rw [ps_low hib hl, if_pos rfl]; push_cast; rfl) (fun j hj => by rw [ps_low hib hl, if_neg hj])⟩, F, N, news_own2 hnI2⟩
        · have hl : ltB (encT (Hs.getD i (.b []))) (encT (Hs.getD b (.b []))) = false := by rw [← Bool.not_eq_true]; exact fun q => absurd (hcmp.2.mpr q) (by assumption)
          rw [Int.toNat_natCast] at N
          exact ⟨_, _, _, _, _, rfl, ⟨rfl, ⟨_, (look_front (Has.all (by tb_rel))).symm⟩, _, _, rfl, P.set (k := i) (by omega) (by rw [ps_high hib hl, if_pos rfl]; push_cast; rfl) (fun j hj => by rw [ps_high hib hl, if_neg hj])⟩, F, N, news_own2 hnI2⟩
        · have hl := hcmp.2.mp (by assumption)
          rw [Int.toNat_natCast] at N
          exact ⟨_, _, _, _, _, rfl, ⟨rfl, ⟨_, (look_front (Has.all (by tb_rel))).symm⟩, _, _, rfl, P.set (k := b) (by omega) (by rw [ps_low hib hl, if_pos rfl]; push_cast; rfl) (fun j hj => by rw [ps_low hib hl, if_neg hj])⟩, F, N, news_own2 hnI2⟩
        · have hl : ltB (encT (Hs.getD i (.b []))) (encT (Hs.getD b (.b []))) = false := by rw [← Bool.not_eq_true]; exact fun q => absurd (hcmp.2.mpr q) (by assumption)
          rw [Int.toNat_natCast] at N
          exact ⟨_, _, _, _, _, rfl, ⟨rfl, ⟨_, (look_front (Has.all (by tb_rel))).symm⟩, _, _, rfl, P.set (k := i) (by omega) (by rw [ps_high hib hl, if_pos rfl]; push_cast; rfl) (fun j hj => by rw [ps_high hib hl, if_neg hj])⟩, F, N, news_own2 hnI2⟩
      · clear F N
        rintro m news gs'' h₃ tk₃ ⟨rfl, ⟨ρ, rfl⟩, pv, k, rfl, P⟩ F N
        dsimp only
        repeat' tb_start
        refine ⟨_, _, _, _, _, rfl, ⟨rfl, ⟨_, (look_front (Has.all (by tb_rel))).symm⟩, pv, k, rfl, ?_⟩, F, N, news_own1 hnI⟩
        exact ⟨P.1, fun j hj => by rw [← ps_next]; exact P.2 j hj⟩
  · clear F N
    rintro m news gs' h₂ tk₂ ⟨rfl, ⟨ρ, rfl⟩, pv, k, rfl, P⟩ F N
    dsimp only
    have PR : PV pv hv.length (rank (fun i => encT (Hs.getD i (.b []))) hv.length) := ⟨P.1, fun j hj => by rw [← ps_end hj]; exact P.2 j hj⟩
    clear P
    refine wpAny_execs_cons ?_
    refine x_acomp (cl := []) (by rfl) (fun _ => rfl) (by rfl) (by rfl) (by decide) ?_
    repeat' tb_start
    refine comp_ke (vs := hv) (n := k0) hh' (by decide) (by rfl) (by rfl) (by omega) (fun i y T => True) (fun i y T T' k r => r) F N (N.get (by tb_rel)) ?_ ?_
    · clear F N
      rintro i v h₂ tk₂ C mC E' hv F N hn hm
      repeat' tb_start
      exact ⟨_, _, [], rfl, fun _ _ e => e, .nil, trivial⟩
    clear F N
    rintro C ou us k4 T4 h₂ tk₂ mC _ hul F N h1 h2 h3 h4 h5
    refine comp_end_use F N h2 h3 h4 h5 (by rfl) (by rfl) fun h₃ tk₃ F₃ N₃ => ?_
    clear F N h2 h3 h4 h5
    have F := F₃
    have N := N₃
    clear F₃ N₃
    refine wpAny_execs_cons ?_
    refine wpAny_For ?_ (fun _ => rfl)
    repeat' tb_start
    refine x_iter_range (n := hv.length) hh' (by omega) (fun i m news gs'' => gs'' = gs' ∧ (∃ ρ, m = look ([(Str.ofString "heap", Value.ref hp), (Str.ofString "written", Value.ref wr), (Str.ofString "places", Value.ref pl), (Str.ofString "ours", Value.ref ou)] ++ ρ)) ∧ ∃ ov k', news = (ou, lob ov k') :: (T4 ++ (pl, lob pv k) :: REST) ∧ ov.length = hv.length ∧ ∀ j, j < i → ov[rank (fun i => encT (Hs.getD i (.b []))) hv.length j]? = hv[j]?) ?_ F (News.tail' N) (N.get (.head _)) ?_ ?_ (fun _ _ => by with_unfolding_all rfl)
    · exact ⟨rfl, ⟨_, (look_front (Has.all (by tb_rel))).symm⟩, us, k4, rfl, hul, fun j hj => absurd hj (by omega)⟩
    · clear F N
      rintro i u m news gs'' h₄ tk₄ own I hi ⟨rfl, ⟨ρ, rfl⟩, ov, k', rfl, hol, hoj⟩ F N hown ⟨oI, hoI⟩ hnI
      have hoo : ∀ p ∈ own, p.1 ≠ ou := fun p hp => by rw [hown p hp]; exact Ne.symm (hnI _ (.head _))
      obtain ⟨t, x, zi, g1, g2, g3, g4, g5, g6⟩ := G i hi
      have g4' : hv[((i : Nat) : Int).toNat]? = some x := by rw [Int.toNat_natCast]; exact g4
      obtain ⟨tr, hr⟩ := PR.2 i hi
      have hr' : pv[((i : Nat) : Int).toNat]? = some (.int ((rank (fun i => encT (Hs.getD i (.b []))) hv.length i : Nat) : Int) tr) := by rw [Int.toNat_natCast]; exact hr
      have hrl := rank_lt (W := fun i => encT (Hs.getD i (.b []))) hi
      have hr9 : rank (fun i => encT (Hs.getD i (.b []))) hv.length i < 10 := by omega
      repeat' tb_start
      refine x_setl F N (by tb_rel) (upd_app hoo (.head h1)) (by omega) (by rw [hol]; exact Int.ofNat_lt.mpr hrl) (by omega) fun h₅ F₅ N₅ => ?_
      clear F N
      have F := F₅
      have N := N₅
      clear F₅ N₅
      rw [Int.toNat_natCast] at N
      repeat' tb_start
      refine ⟨_, _, _, _, _, rfl, ⟨rfl, ⟨_, (look_front (Has.all (by tb_rel))).symm⟩, _, _, rfl, by rw [List.length_set]; exact hol, fun j hj => ?_⟩, F, N, news_own1 hnI⟩
      by_cases e : j = i
      · subst e
        rw [List.getElem?_set_self (by omega), g4]
      · rw [List.getElem?_set_ne (fun q => e (rank_inj (by omega) hi q.symm)), hoj j (by omega)]
    · clear F N
      rintro m news gs'' h₄ tk₄ ⟨rfl, ⟨ρ, rfl⟩, ov, k', rfl, hol, hoj⟩ F N
      dsimp only
      refine wpAny_execs_cons ?_
      repeat' tb_start
      refine x_lcomp (cl := []) (fun _ => rfl) (by rfl) (by rfl) (by decide) ?_
      repeat' tb_start
      refine x_sortedb F N (isl_of (N.get (a := wr) (by tb_rel))) hbs (by omega) fun h₅ us vs' bs' e hus F₅ N₅ hbs' hperm hsort => ?_
      clear F N
      have F := F₅
      have N := N₅
      clear F₅ N₅
      have hbl : bs'.length = Hs.length := by rw [hperm.length_eq, List.length_map]
      have hvl : vs'.length = Hs.length := by rw [hbs'.length, hbl]
      have hperm' := hperm
      rw [map_range] at hperm'
      repeat' tb_start
      refine comp_ke (vs := vs') (n := e) hh' (by decide) (by rfl) (by rfl) (by omega) (fun i y T => ∃ t, t ∈ Hs ∧ bs'[i]? = some (encT t) ∧ Rep T y t) (fun i y T T' k => fun ⟨t, e1, e2, r⟩ => ⟨t, e1, e2, r.mono k⟩) F N (N.get (.head _)) ?_ ?_
      · clear F N
        rintro i v h₆ tk₆ C mC E' hvi F N hn hm
        have hil : i < bs'.length := by
          have := (List.getElem?_eq_some_iff.mp hvi).1
          omega
        obtain ⟨tt, e1⟩ := hbs'.get i hil
        rw [hvi] at e1
        cases e1
        have hbi : bs'[i]? = some (bs'.getD i []) := by rw [List.getD_eq_getElem?_getD, List.getElem?_eq_getElem hil]; rfl
        obtain ⟨t, ht1, ht2⟩ := List.mem_map.mp (hperm.mem_iff.mp (List.mem_of_getElem? hbi))
        have hz := hez t ht1
        have hrb : itemF (encT t) 1500 (10 + 1) 0 = .ok t (encT t) ((encT t).length : Int) := by
          have := read_back 1500 (by decide) 10 t (hfit t ht1).2 (by omega) [] []
          simpa using this
        rw [← ht2] at hbi hm
        repeat' tb_start
        refine decode_call (N₁ := 1500) (f := 10) (o := encT t) (strict := true) (cb := false) (t1 := tt) (by decide) B (K.push F rfl) (by show A.depth + 1 + 10 + 6 < _; omega) hh' (fun pm S => by rfl) (by omega) _ hrb (by intro q; cases q) (fun t' e2 h₇ v' T' tk₇ k₇ X₇ R₇ => ?_) (fun m e2 => ?_)
        · have e3 : t' = t := by
            simp [rawF] at e2
            exact e2.symm
          subst e3
          exact ⟨h₇, tk₇, T', rfl, k₇, X₇, _, ht1, hbi, R₇⟩
        · simp [rawF] at e2
      clear F N
      rintro C D ws k5 T5 h₆ tk₆ mC hws hwl F N g1 g2 g3 g4 g5
      refine comp_end F N g2 g3 g4 g5 fun h₇ F₇ N₇ => ?_
      clear F N g1 g2 g3 g4 g5
      have F := F₇
      have N := N₇
      clear F₇ N₇
      repeat' tb_start
      have hwl' : ws.length = hv.length := by omega
      have gD := N.get (a := D) (.head _)
      have gO : h₇.get? ou = some (lob ov k') := N.get (by tb_rel)
      have gT5 : ∀ p ∈ T5, h₇.get? p.1 = some p.2 := fun p hp => (N p (by tb_rel)).1
      have gT : ∀ p ∈ T, h₇.get? p.1 = some p.2 := fun p hp => (N p (List.mem_cons_of_mem _ (List.mem_append_right _ (List.mem_cons_of_mem _ (List.mem_cons_of_mem _ (List.mem_append_right _ (List.mem_cons_of_mem _ (mT p hp)))))))).1
      have rc : PySem.SeqAt.RcAt (A.deeper (envL2 L)) ⟨h₇, gs'', dr, tk₆, os⟩ (.ref D) (.ref ou) true := by
        rw [← all_true ws.toArray.size]
        refine PySem.SeqAt.RcAt.lists (s := ⟨h₇, gs'', dr, tk₆, os⟩) (isl_of gD) (isl_of gO) (by rw [List.size_toArray, List.size_toArray]; omega) (by omega) fun j j1 j2 => ?_
        have hj : j < hv.length := by rw [List.size_toArray] at j1; omega
        obtain ⟨i, hi, hri⟩ := rank_surj (W := fun i => encT (Hs.getD i (.b []))) hj
        obtain ⟨t, x, zi, f1, f2, f3, f4, f5, f6⟩ := G i hi
        have e1 := hoj i hi
        rw [hri, f4] at e1
        obtain ⟨t', w1, w2, w3⟩ := hws j _ (List.getElem?_eq_getElem (by simpa using j1))
        have e2 := sorted_rank (W := fun i => encT (Hs.getD i (.b []))) (n := hv.length) (by rw [hlen]; exact hperm') hsort hi
        rw [hri, w2] at e2
        have e3 : t' = Hs.getD i (.b []) := enc_inj (by have := hez _ w1; omega) (by have := hez _ f6; omega) (Option.some.inj e2)
        subst e3
        have e4 : ov[j]? = some ov.toArray[j] := by simp
        rw [e1] at e4
        injection e4 with e4
        rw [← e4]
        exact rep_eq 10 _ (hfit _ f6).2 gT5 gT w3 f5 (by show (A.deeper (envL2 L)).units + 1 + 10 < _; omega)
      refine rc _ _ _ _ ?_
      have h17 : h₇.get? 1702 = some o := N.get (List.mem_cons_of_mem _ (List.mem_append_right _ (List.mem_cons_of_mem _ (List.mem_cons_of_mem _ (List.mem_append_right _ (List.mem_cons_of_mem _ m3))))))
      refine H _ _ _ ⟨fun b ob q => ?_, fun b ob q => ?_⟩ ge
      · by_cases hb2 : b = 1702
        · subst hb2
          rw [ht] at q
          cases q
          obtain ⟨e5, _⟩ := ho
          exact .inr (.inl ⟨⟨1706, _, _, B₀.get (a := 1706) rfl, rfl, rfl, rfl⟩, rfl, #[], ps, rfl, by rw [h17, e5]; simp [ob1702]⟩)
        · exact .inl (F.keep _ _ (hideAll_get _ q (by simpa using hb2)))
      · by_cases hb2 : b = 1702
        · subst hb2
          exact ⟨_, h17⟩
        · exact ⟨_, F.keep _ _ (hideAll_get _ q (by simpa using hb2))⟩
end
end

section
section
variable {prog : Program} {w : World} {A : Around} {E : Value → Shared → Prop} {gs : Array GenState} {dr : Drawn} {tk : Nat} {os : OsState} {h g : Heap} {L : Addr} {mm : Str → Option Value} {news : Ledger} {Q : Value → Shared → Prop}
/-- a for loop over a list that stands -/
theorem x_iter_lst {ax : Addr} {vs : List Value} {n : Nat} {env : Env} {target : Expr} {body : List Stmt} {R : Result → Shared → Prop} (hh : A.handled = none) (J : Nat → (Str → Option Value) → Ledger → Array GenState → Prop) (h0 : J 0 mm news gs) (F : Fr g L h mm) (N : News g L h news)
    (hax : h.get? ax = some (lob vs n))
    (turn : ∀ (i : Nat) v m news gs' h tk own I, vs[i]? = some v → J i m news gs' → Fr g L h m → News g L h (own ++ news) → (∀ p ∈ own, p.1 ∈ [I, ax]) → (∀ b ∈ [I], ∃ o, (b, o) ∈ own) → (∀ p ∈ news, p.1 ∉ [I]) →
      wpAny (model prog w) A (assign target env v) (fun _ s₂ => wpAny (model prog w) A (execs body env) (fun f s₃ => match f with
          | .next | .cont => ∃ m' news' gs'' h' tk', s₃ = ⟨h', gs'', dr, tk', os⟩ ∧ J (i + 1) m' news' gs'' ∧ Fr g L h' m' ∧ News g L h' (own ++ news') ∧ ∀ p ∈ news', p.1 ∉ [I]
          | .brk => R (.ok .next) s₃
          | .ret v => R (.ok (.ret v)) s₃) (notedBy (model prog w) A env fun e s' => R (.error e) s') s₂) (notedBy (model prog w) A env fun e s' => R (.error e) s') ⟨h, gs', dr, tk, os⟩)
    (done : ∀ m' news' gs' h' tk', J vs.length m' news' gs' → Fr g L h' m' → News g L h' news' → R (.ok .next) ⟨h', gs', dr, tk', os⟩)
    (ht : ∀ I v, letOwnedTupleGo target (.ref I) v = pure ()) :
    wpAny (model prog w) A (pyIter (.ref ax)) (fun it s₂ => codeAny (model prog w) A (.forLoop target it body [] env) R s₂) E ⟨h, gs, dr, tk, os⟩ := by
  have hI : ∀ p ∈ news, p.1 ≠ h.objs.size := news_lt N
  have hLI : L ≠ h.objs.size := Nat.ne_of_lt F.ns.lt
  have hLa : L ≠ ax := ns_ne F hax
  have haI : ax ≠ h.objs.size := Nat.ne_of_lt (Heap.lt_size hax)
  refine wpAny_pyIter_list (s := ⟨h, gs, dr, tk, os⟩) (isl_of hax) ?_
  refine loop_own (Walks.list hh h.objs.size ax haI vs.toArray) (by simp [hLI, hLa]) (fun b hb => ?_) (fun i h' st b hb => ?_) J h0 (F.push _) (fun p hp => ⟨Heap.get?_push_of_some _ (N p hp).1, (N p hp).2⟩) (fun p hp => by simpa using hI p hp) ⟨⟨_, Heap.get?_push_size _ rfl, rfl, rfl⟩, _, Heap.get?_push_of_some _ hax, rfl, n, rfl⟩ ?_ (fun m' news' gs' h' tk' hJ F' N' => done m' news' gs' h' tk' (by simpa using hJ) F' N') (ht _)
  · rw [List.mem_singleton.mp hb]; exact fresh_g F
  · rw [List.mem_singleton.mp hb]
    obtain ⟨⟨o, ho, _⟩, _⟩ := st
    exact ⟨o, ho⟩
  · rintro i v m news gs' h' tk' own hi hv hJ F' N' hown hnw hlive
    exact turn i v m news gs' h' tk' own h.objs.size (by simpa using hv) hJ F' N' hown hlive hnw
/-- bytes([c]) * n -/
theorem x_bmulA {b : UInt8} {i : Int} {t u : Tok} (h0 : 0 ≤ i) (hn : i ≤ 100000) (H : ∀ t' tk', Q (.bytes (List.replicate i.toNat b).toArray t') ⟨h, gs, dr, tk', os⟩) : wpAny (model prog w) A (binaryOp .Mult (.bytes [b].toArray t) (.int i u)) Q E ⟨h, gs, dr, tk, os⟩ := by
  by_cases h2 : 2 ≤ i
  · exact x_bmul h2 hn H
  · have one : ∀ {n : Int} (hf : Builtin.Bytes.fitsIndex n = true) (m : Made), Gives (Builtin.«bytes.__mul__» ⟨[.bytes [b].toArray t, .int n u], []⟩) m → m.post Q ⟨h, gs, dr, tk, os⟩ → wpAny (model prog w) A (binaryOp .Mult (.bytes [b].toArray t) (.int n u)) Q E ⟨h, gs, dr, tk, os⟩ := by
      intro n hf m hm hq
      refine wpAny_binaryOp_repeat (s := ⟨h, gs, dr, tk, os⟩) (T := "bytes") (U := "int") (by decide) (fun s' => typeIs_bytes s' _ t) (fun s' => typeIs_int s' n u) BMul.noFill F.fills_int_mul F.slot_int_rmul BMul.repeats F.slot_int_index.lookup ?_
      exact call_gives F.slot_int_rmul (typeIs_int _ n u) F.entry_int_rmul (F.args_int_rmul_2 _ _) (BMul.int_declines n u _ t) ⟨rfl, call_gives BMul.slot_mul (typeIs_bytes _ _ t) BMul.entry_mul (BMul.args_mul _ _) hm hq⟩
    obtain rfl | rfl : i = 0 ∨ i = 1 := by omega
    · refine one (by decide) _ (BMul.gives_mul (b := [b].toArray) (n := 0) (by decide) (by simp) (by simp) (by simp [Builtin.Bytes.tooLong])) ?_
      rw [BMul.repeated_list (by simp)]
      exact ⟨by simp, by have := H tk (tk + 1); simpa using this⟩
    · refine one (by decide) (.val (.bytes [b].toArray t)) (.of_wp fun M A E s Q hq => ?_) (show Q (.bytes [b].toArray t) _ from H t tk)
      show wpAny M A (Builtin.Bytes.repeatArgs .bytes "__mul__" ⟨[.bytes [b].toArray t, .int 1 u], []⟩ >>= fun r => _) _ E s
      refine wpAny_bind (wpAny_of_eq (BMul.args_eq (by decide)) ?_)
      refine wpAny_bind (wpAny_of_eq (a := [b].toArray) rfl ?_)
      show wpAny M A (if [b].toArray.size * (1 : Int).toNat ≥ 2 ^ 63 then _ else _) _ E s
      rw [if_neg (by simp)]
      refine wpAny_ite_split (fun _ => ?_) (fun q => absurd (show ([b].toArray.size * (1 : Int).toNat == [b].toArray.size) = true by simp) q)
      refine wpAny_bind (wpAny_typeOf (typeIs_bytes s _ t) ?_)
      refine bm_if_true (by decide) ?_
      exact wpAny_bind (wpAny_rule (wpAny_pure ⟨_, rfl, hq⟩))
/-- a slice of a list of ints -/
theorem x_slg {l : Addr} {vs : List Value} {ns : List Int} {k : Nat} {vl vu : Value} {lo hi : Option Int} {value slice : Expr} (F : Fr g L h mm) (N : News g L h news) (hl : Heap.IsList h l vs.toArray) (hi' : IntsAre vs ns) (pl : IsPart vl lo) (pu : IsPart vu hi) (hz : vs.length ≤ 1000) (hk : (slicePick vs.toArray lo hi none).size ≤ k)
    (hs : ∀ h : Heap, subscripted slice false (.ref l) (.ref h.objs.size) = operate [.ref h.objs.size, .ref l] (getItem (.ref l) (.ref h.objs.size))) (ht : ∀ r, letTemporaryGo value (.ref l) r = pure ())
    (H : ∀ h' u cells ms, IntsAre cells ms → cells.length ≤ k → (∀ p ∈ news, p.1 ≠ u) → Fr g L h' mm → News g L h' ((u, lob cells 0) :: news) → Q (.ref u) ⟨h', gs, dr, tk, os⟩) :
    SlQ (fun i s₂ => wpAny (model prog w) A (subscriptTail value slice (.ref l) i) Q E s₂) vl vu ⟨h, gs, dr, tk, os⟩ :=
  slice_list (s := ⟨h, gs, dr, tk, os⟩) (items := vs.toArray) F N hl pl pu (fun h' F' N' => by
    refine H h' _ (slicePick vs.toArray lo hi none).toList _ (hi'.pick lo hi none) (by simpa using hk) (fun p hp e => ?_) F' (by simpa [lob] using N')
    have z := (N p hp).1
    have := Heap.lt_size z
    rw [e] at this
    exact Nat.lt_irrefl _ (Nat.lt_of_succ_lt this)) (hs h) ht (by rw [List.size_toArray, sizeLine_eq]; omega)
theorem pick_size (vs : List Value) {a b : Nat} : (slicePick vs.toArray (some (a : Int)) (some (b : Int)) none).size ≤ b - a := by
  rw [slicePick_plain]
  simp only [Option.elim, clipAt_nat, List.size_toArray, List.length_take, List.length_drop]
  omega
theorem pick_size0 (vs : List Value) {b : Nat} : (slicePick vs.toArray none (some (b : Int)) none).size ≤ b := by
  rw [slicePick_plain]
  simp only [Option.elim, clipAt_nat, List.size_toArray, List.length_take, List.length_drop]
  omega
end
theorem ints_app : ∀ {vs ws : List Value} {ns ms : List Int}, IntsAre vs ns → IntsAre ws ms → IntsAre (vs ++ ws) (ns ++ ms)
  | _, _, _, _, .nil, b => b
  | _, _, _, _, .cons n t r, b => .cons n t (ints_app r b)
def szs (P : Params) : List Value := match (ob1764 P).data with
  | .seq xs _ => xs.toList
  | _ => []
theorem szs_ob (P : Params) : ob1764 P = { cls := .type "tuple", data := .seq (szs P).toArray } := by rfl
theorem szs_get (P : Params) : ∀ k, k < 16 → ∃ n t, (szs P)[k]? = some (.int n t) ∧ 0 ≤ n ∧ n ≤ 252
  | 0, _ => ⟨_, _, rfl, by decide, by decide⟩
  | 1, _ => ⟨_, _, rfl, by decide, by decide⟩
  | 2, _ => ⟨_, _, rfl, by decide, by decide⟩
  | 3, _ => ⟨_, _, rfl, by decide, by decide⟩
  | 4, _ => ⟨_, _, rfl, by decide, by decide⟩
  | 5, _ => ⟨_, _, rfl, by decide, by decide⟩
  | 6, _ => ⟨_, _, rfl, by decide, by decide⟩
  | 7, _ => ⟨_, _, rfl, by decide, by decide⟩
  | 8, _ => ⟨_, _, rfl, by decide, by decide⟩
  | 9, _ => ⟨_, _, rfl, by decide, by decide⟩
  | 10, _ => ⟨_, _, rfl, by decide, by decide⟩
  | 11, _ => ⟨_, _, rfl, by decide, by decide⟩
  | 12, _ => ⟨_, _, rfl, by decide, by decide⟩
  | 13, _ => ⟨_, _, rfl, by decide, by decide⟩
  | 14, _ => ⟨_, _, rfl, by decide, by decide⟩
  | 15, _ => ⟨_, _, rfl, by decide, by decide⟩
  | k + 16, h => by omega
section
variable {w : World} {A : Around} {E : Value → Shared → Prop} {gs : Array GenState} {dr : Drawn} {tk : Nat} {os : OsState} {h : Heap} {Q : Value → Shared → Prop}
theorem law_call2 {sc : Addr} {vs : List Value} {ns : List Int} (B : Base w h) (K0 : ∀ g, Below A g [] g) (hd : A.depth + 100 < recursionLimit) (hu : A.units + 100 < cLine) (hh : A.handled = none) (hsc : Heap.IsList h sc vs.toArray) (hi : IntsAre vs ns) (hl : ns.length ≤ 63)
    (ht : h.get? 1702 = some (ob1702 w.params)) (H : ∀ h' tk' gs', OldK h h' → GExt gs gs' → Q (.bool true) ⟨h', gs', dr, tk', os⟩) : wpAny (model pw w) A (call (.ref 1793) [.ref sc]) Q E ⟨h, gs, dr, tk, os⟩ := by
  refine x_enter B (by omega) (by rfl) (by rfl) (by rfl) (by rfl) (by rfl) (binds := [(Str.ofString "script", _)]) (by rfl) (locs (by rfl)) (by rfl) (by rfl) (by rfl) (by decide) ?_
  intro h₁ L tk' _ F N
  have hh' : (A.deeper (envL2 L)).handled = none := hh
  have hdd : (A.deeper (envL2 L)).depth = A.depth + 1 := rfl
  have hvl := hi.length
  have hsz : h.get? 1764 = some { cls := .type "tuple", data := .seq (szs w.params).toArray } := (B.get (a := 1764) (by rfl)).trans (congrArg some (szs_ob w.params))
  show wpAny _ _ (execs (fdB (sAt 46)) _) _ _ _
  refine wpAny_execs_cons ?_
  repeat' tb_start
  refine wpAny_For ?_ (fun _ => rfl)
  repeat' tb_start
  rename_i tr _ _ _ _ _
  refine x_slg (k := 4) F N (let ⟨o, q, r⟩ := hsc; ⟨o, F.keep _ _ q, r⟩) hi .none (.int _ _) (by omega) (pick_size0 vs (b := 4)) (fun _ => by with_unfolding_all rfl) (fun _ => by with_unfolding_all rfl) fun h₂ C cells ms hms hcl hC F₂ N₂ => ?_
  clear F N
  have F := F₂
  have N := N₂
  clear F₂ N₂
  have hCtr : tr ≠ C := hC _ (.head _)
  repeat' tb_start
  refine x_iter_lst (n := 0) hh' (fun i m news gs' => gs' = gs ∧ (∃ ρ, m = look ([(Str.ofString "tree", Value.ref tr), (Str.ofString "script", Value.ref sc)] ++ ρ)) ∧ ∃ cells k T ts, news = (tr, lob cells k) :: T ∧ (∀ p ∈ T, p.1 ≠ tr) ∧ Reps T cells ts ∧ ts.length ≤ i ∧ wts ts ≤ 270 * i ∧ ∀ t ∈ ts, Deep 1 t) ?_ F (News.tail' N) (N.get (.head _)) ?_ ?_ (fun _ _ => by with_unfolding_all rfl)
  · exact ⟨rfl, ⟨_, (look_front (Has.all (by tb_rel))).symm⟩, [], 0, [], [], rfl, (fun p hp => nomatch hp), .nil, Nat.zero_le _, Nat.zero_le _, (fun t ht => nomatch ht)⟩
  · clear F N
    rintro i v m news gs' h₃ tk₃ own I hvi ⟨rfl, ⟨ρ, rfl⟩, cs, k, T, ts, rfl, hT, Rs, hlen, hw, hD⟩ F N hown hlive hnI
    have hil := (List.getElem?_eq_some_iff.mp hvi).1
    obtain ⟨tn, e⟩ := ints_get hms i (by rw [← hms.length]; exact hil)
    rw [hvi] at e
    cases e
    generalize ms.getD i 0 = num at hvi
    have hmod : (num / 3 % 16).toNat < 16 := by omega
    obtain ⟨sn, st, s1, s2, s3⟩ := szs_get w.params (num / 3 % 16).toNat hmod
    have hcl2 := Rs.length
    have hoff : ∀ p ∈ own, p.1 ≠ tr := fun p hp e => by
      have q1 := hown p hp
      have q2 := hnI (tr, lob cs k) (.head _)
      rw [e] at q1
      simp only [List.mem_cons, List.mem_nil_iff, or_false] at q1 q2
      rcases q1 with q | q
      · exact q2 q
      · exact hCtr q
    repeat' tb_start
    refine x_bmulA s2 (by omega) fun t' tk' => ?_
    repeat' tb_start
    · rename_i u2 hu2 _ _
      have hut : u2 ≠ tr := fun e => hu2 (tr, lob cs k) (by tb_rel) e.symm
      replace N := news_sub (T := own ++ (tr, lob cs k) :: (u2, _) :: T) N (fun p hp => by
        rcases List.mem_append.mp hp with hp | hp
        · tb_rel
        · rcases List.mem_cons.mp hp with rfl | hp
          · tb_rel
          · rcases List.mem_cons.mp hp with rfl | hp
            · exact List.mem_cons_self ..
            · tb_rel)
      refine x_append F N (by tb_rel) (upd_app hoff (.head (off_cons hut hT))) (by omega) fun h₄ F₄ N₄ => ?_
      clear F N
      have F := F₄
      have N := N₄
      clear F₄ N₄
      repeat' tb_start
      refine ⟨_, _, _, _, _, rfl, ⟨rfl, ⟨_, (look_front (Has.all (by tb_rel))).symm⟩, _, _, _, _, rfl, off_cons hut hT, (Rs.mono fun p hp => .tail _ hp).snoc (.l (.head _) (.cons (.b (x := List.replicate _ _)) (.cons (.b (x := [128])) .nil))), ?_, ?_, ?_⟩, F, N, ?_⟩
      · simp only [List.length_append, List.length_cons, List.length_nil]; omega
      · rw [wts_app, wts, wts, wt, wts, wts, wts, wt, wt, List.length_replicate]
        simp only [List.length_cons, List.length_nil]
        omega
      · intro t ht
        rcases List.mem_append.mp ht with ht | ht
        · exact hD t ht
        · rw [List.mem_singleton.mp ht]
          refine .l fun t ht => ?_
          rcases List.mem_cons.mp ht with rfl | ht
          · exact .b
          · rw [List.mem_singleton.mp ht]; exact .b
      · obtain ⟨oI, hoI⟩ := hlive I (List.mem_singleton.mpr rfl)
        intro p hp
        rcases List.mem_cons.mp hp with rfl | hp
        · exact hnI (tr, lob cs k) (.head _)
        · rcases List.mem_cons.mp hp with rfl | hp
          · exact fun e => hu2 (I, oI) (by tb_rel) (List.mem_singleton.mp e).symm
          · exact hnI p (.tail _ hp)
    · replace N := news_sub (T := own ++ (tr, lob cs k) :: T) N (fun p hp => .tail _ hp)
      refine x_append F N (by tb_rel) (upd_app hoff (.head hT)) (by omega) fun h₄ F₄ N₄ => ?_
      clear F N
      have F := F₄
      have N := N₄
      clear F₄ N₄
      repeat' tb_start
      refine ⟨_, _, _, _, _, rfl, ⟨rfl, ⟨_, (look_front (Has.all (by tb_rel))).symm⟩, _, _, _, _, rfl, hT, Rs.snoc (.b (x := List.replicate _ _)), ?_, ?_, ?_⟩, F, N, ?_⟩
      · simp only [List.length_append, List.length_cons, List.length_nil]; omega
      · rw [wts_app, wts, wts, wt, List.length_replicate]
        omega
      · intro t ht
        rcases List.mem_append.mp ht with ht | ht
        · exact hD t ht
        · rw [List.mem_singleton.mp ht]
          exact .b
      · intro p hp
        rcases List.mem_cons.mp hp with rfl | hp
        · exact hnI (tr, lob cs k) (.head _)
        · exact hnI p (.tail _ hp)
  · clear F N
    rintro m news gs' h₃ tk₃ ⟨rfl, ⟨ρ, rfl⟩, cs, k, T, ts, rfl, hT, Rs, hlen, hw, hD⟩ F N
    dsimp only
    refine wpAny_execs_cons ?_
    repeat' tb_start
    rename_i hp hph _ _
    have htr : tr ≠ hp := hph _ (.head _)
    refine wpAny_For ?_ (fun _ => rfl)
    repeat' tb_start
    refine x_slg (k := 10 - 4) F N (let ⟨o, q, r⟩ := hsc; ⟨o, F.keep _ _ q, r⟩) hi (.int _ _) (.int _ _) (by omega) (pick_size vs (a := 4) (b := 10)) (fun _ => by with_unfolding_all rfl) (fun _ => by with_unfolding_all rfl) fun h₄ C2 cells2 ms2 hms2 hcl2 hC2 F₄ N₄ => ?_
    clear F N
    have F := F₄
    have N := N₄
    clear F₄ N₄
    have hC2p : hp ≠ C2 := hC2 _ (.head _)
    repeat' tb_start
    rename_i t5 _ t0 _ _ ul5 _ _ ul hul
    have hulp : hp ≠ ul := hul (hp, lob [.ref tr] 0) (by tb_rel)
    have hall : IntsAre (cells2 ++ [.int 5 t5, .int 0 t0]) (ms2 ++ [5, 0]) := ints_app hms2 (.cons _ _ (.cons _ _ .nil))
    have hwts := wts_len ts
    refine x_iter_lst (n := 0) hh' (fun i m news gs'' => gs'' = gs' ∧ (∃ ρ, m = look ([(Str.ofString "heap", Value.ref hp)] ++ ρ)) ∧ ∃ hv k T Hs, news = (hp, lob hv k) :: T ∧ (∀ p ∈ T, p.1 ≠ hp) ∧ Reps T hv Hs ∧ Hs.length = i + 1 ∧ ∀ t ∈ Hs, wt t ≤ 1100 + 5 * i ∧ Deep (2 + i) t) ?_ F (news_sub (T := (hp, lob [.ref tr] 0) :: (tr, lob cs k) :: T) N (fun p hp => by
        rcases List.mem_cons.mp hp with rfl | hp
        · tb_rel
        · rcases List.mem_cons.mp hp with rfl | hp
          · tb_rel
          · tb_rel)) (N.get (.head _)) ?_ ?_ (fun _ _ => by with_unfolding_all rfl)
    · refine ⟨rfl, ⟨_, (look_front (Has.all (by tb_rel))).symm⟩, [.ref tr], 0, (tr, lob cs k) :: T, [.l ts], rfl, ?_, .cons (.l (.head _) (Rs.mono fun p hp => .tail _ hp)) .nil, rfl, fun t ht => ?_⟩
      · refine off_cons htr fun p hp => hph p (.tail _ hp)
      · rw [List.mem_singleton.mp ht]
        refine ⟨by rw [wt]; omega, .l fun t ht => hD t ht⟩
    · clear F N
      rintro i v m news gs'' h₅ tk₅ own I hvi ⟨rfl, ⟨ρ, rfl⟩, hv, k', T', Hs, rfl, hT', Rs', hHl, hfit⟩ F N hown hlive hnI
      have hil := (List.getElem?_eq_some_iff.mp hvi).1
      obtain ⟨tn, e⟩ := ints_get hall i (by rw [← hall.length]; exact hil)
      rw [hvi] at e
      cases e
      generalize (ms2 ++ [5, 0]).getD i 0 = num at hvi
      have hvl' := Rs'.length
      have hi8 : i < 8 := by simp only [List.length_append, List.length_cons, List.length_nil] at hil; omega
      have hlast : hv[hv.length - 1]? = some (hv[hv.length - 1]'(by omega)) := List.getElem?_eq_getElem _
      obtain ⟨tx, hx1, Rx⟩ := Rs'.get _ _ hlast
      obtain ⟨f1, f2⟩ := hfit tx (List.mem_of_getElem? hx1)
      have hoff : ∀ p ∈ own, p.1 ≠ hp := fun p hp e => by
        have q1 := hown p hp
        have q2 := hnI (_, lob hv k') (.head _)
        rw [e] at q1
        simp only [List.mem_cons, List.mem_nil_iff, or_false] at q1 q2
        rcases q1 with q | q
        · exact q2 q
        · exact hulp q
      obtain ⟨oI, hoI⟩ := hlive I (List.mem_singleton.mpr rfl)
      repeat' tb_start
      have gI := (N (I, oI) (List.mem_append_left _ hoI)).1
      have gH := (N (hp, lob hv k') (List.mem_append_right _ (.head _))).1
      refine chg_call (2 + i) tx f2 (B.keeps F.keep) (by show A.depth + 1 + (2 + i) + 1 < _; omega) hh' (by omega) (T := T') (fun p hp => (N p (List.mem_append_right _ (.tail _ hp))).1) Rx fun h₆ v₆ T₆ tk₆ k₆ X₆ R₆ => ?_
      have N₆ := news_adds F N k₆ X₆
      have F₆ := F.keeps k₆
      clear F N
      have F := F₆
      have N := N₆
      clear F₆ N₆
      repeat' tb_start
      replace N := news_sub (T := own ++ (hp, lob hv k') :: (T₆ ++ T')) N (fun p hp => by
        rcases List.mem_append.mp hp with hp | hp
        · tb_rel
        · rcases List.mem_cons.mp hp with rfl | hp
          · tb_rel
          · rcases List.mem_append.mp hp with hp | hp
            · tb_rel
            · tb_rel)
      refine x_append F N (by tb_rel) (upd_app hoff (.head (off_app (X₆.off gH) hT'))) (by omega) fun h₇ F₇ N₇ => ?_
      clear F N
      have F := F₇
      have N := N₇
      clear F₇ N₇
      repeat' tb_start
      obtain ⟨c1, c2⟩ := chg_fit (2 + i) tx num f2
      refine ⟨_, _, _, _, _, rfl, ⟨rfl, ⟨_, (look_front (Has.all (by tb_rel))).symm⟩, _, _, _, _, rfl, off_app (X₆.off gH) hT', (Rs'.mono fun p hp => List.mem_append_right _ hp).snoc R₆, by rw [List.length_append, hHl]; rfl, fun t ht => ?_⟩, F, N, fun p hp => ?_⟩
      · rcases List.mem_append.mp ht with ht | ht
        · obtain ⟨a, b⟩ := hfit t ht
          exact ⟨by omega, b.mono (by omega)⟩
        · rw [List.mem_singleton.mp ht]
          exact ⟨by omega, by rw [show 2 + (i + 1) = 2 + i + 1 by omega]; exact c2⟩
      · rcases List.mem_cons.mp hp with rfl | hp
        · exact hnI (_, lob hv k') (.head _)
        · rcases List.mem_append.mp hp with hp | hp
          · exact fun e => X₆.off gI p hp (List.mem_singleton.mp e)
          · exact hnI p (.tail _ hp)
    · clear F N
      rintro m news gs'' h₅ tk₅ ⟨rfl, ⟨ρ, rfl⟩, hv, k', T', Hs, rfl, hT', Rs', hHl, hfit⟩ F N
      dsimp only
      have hl8 : (cells2 ++ [Value.int 5 t5, .int 0 t0]).length ≤ 8 := by simp only [List.length_append, List.length_cons, List.length_nil]; omega
      exact law_tail2 B K0 hd hu hh F N Rs' (by omega) (fun t ht => ⟨by have := (hfit t ht).1; omega, (hfit t ht).2.mono (by omega)⟩) ht H
end
end

section
open PySem PySem.W PySem.W.X PySem.Calls PyProof.Rows
theorem walk02 : ∀ {d : DefRec} {kwd : List (Str × Expr)}, defOf qv (Str.ofString "law") = some (d, kwd) → d.name = Str.ofString "law" → WalkX qv lse (fun _ _ => True) Yf Ya PySem.Challenge.rw_ff0024_02.row.toRowW d kwd fun f vs => PySem.call f vs := by
  intro d kwd hdef hname
  intro w s₀ s₁ mg mb G Y fa o pm cd doc dV kV ho hd hcd hD hmg hg args vals as L hpre hlay hrd hwl hlo
  wrow_args hpre hlay hrd hwl hlo
  rename_i ns _ _ _ _ _ _ _ sc vs _ hsc _ _ _ hi _ hlen _
  have B : Base w s₁.heap := base_of G Y L.keeps
  have hfa : fa = 1793 := by
    obtain ⟨mg', h1, h2, _⟩ := B.g
    have e : mg' = mg := h1.eq_nsMap.trans G.T.g.eq_nsMap.symm
    have := h2 (Str.ofString "law", .ref 1793) (by decide)
    rw [e] at this
    rw [hname] at hmg
    have := hmg.symm.trans this
    injection this with this
    injection this
  subst hfa
  have ht : s₁.heap.get? 1702 = some (ob1702 w.params) := L.keeps _ _ (tab_of Y)
  have hl : ns.length ≤ 63 := by omega
  have hgs : AllBare s₁.gens := .of_eq hg
  obtain ⟨h, gs, dr, tk, os⟩ := s₁
  show wpAny (model pw w) callerA (call (.ref 1793) [.ref sc]) _ _ _
  refine law_call2 B (fun g => below_caller g) (by decide) (by decide) rfl hsc hi hl ht fun h' tk' gs' hold ge => ?_
  refine ⟨.inl ⟨.bool true, .bool true, [], rfl, fun _ => rfl, ?_, ?_, ?_⟩, hold, rfl, fun y hy => ge.bare hgs y hy⟩
  · first | exact .bool true | exact ReadsW.bool true | exact .bool
  · first | with_unfolding_all rfl | kernel_rfl | (simp [PySem.Challenge.rw_ff0024_02]; done) | decide
  · exact fun _ => ⟨.nil, fun _ h => nomatch h⟩
theorem law_holds : PySem.Challenge.rw_ff0024_02.Holds := by
  w_on
  o_law
  refine holds_openX (q := qv) (loose := lse) (Xt := Xt) (XP := fun _ _ => True) (Yf := Yf) (Ya := Ya) (N := 60000) left (fun _ _ => trivial) (fun _ _ _ _ _ => trivial) (by rfl) (by rfl) (by rfl) (fun s e => recFacts_of e) (by rfl) (by assumption) (by k_qdec) ⟨rfl, rfl, rfl, rfl, rfl, by decide +kernel⟩ ?hw ?hc
  case hw => w_witness2
  exact walk02 rfl rfl
end
end Mine
end
open PySem PySem.W PyProof.Rows
set_option maxRecDepth 100000 in
set_option maxHeartbeats 0 in
theorem PySem.Challenge.cw_ff0024_02_holds : PySem.Challenge.rw_ff0024_02.Holds := by
  exact Mine.law_holds
