import PyProof.Rows.All
import Wide.All
import OpenK.AllK
import Wide.FinOn
import Lean
import PySem.Challenge.RW_wy0070_01
open PySem PySem.W PyProof.Rows
set_option Elab.async false
set_option linter.unusedVariables false
section -- WzDefs

open PySem PySem.W PyProof.Rows
set_option maxRecDepth 100000
noncomputable section
namespace Wy70
abbrev pw : Program := PySem.Challenge.pw_wy0070_01
def stBody : List Stmt := behindTheImports pw
def stAt (i : Nat) : Stmt := pw.main.body.getD i (.Pass default)
def fnObj (i : Nat) (f : Arguments → List Stmt → Scope → Obj) : Obj := match stAt i with | .FunctionDef _ a b _ _ _ s _ _ _ => f a b s | _ => default
def envE : Env := { scope := pw.main.scope, locals := mainNs, globals := mainNs, cells := [], code := .ref 13, frame := some 14 }
abbrev cE : Code := .body stBody envE
abbrev annE : Option Value := some (.ref 6)
def life0 : Life := {}
def ledOf (P : Params) : Bool := !P.followText "set-order"
abbrev tbQ : String → Option Builtin := PySem.W.Fast.tw14364793385576792824
abbrev goQ (w : World) (n : Nat) (s : SharedT) (t : Thread) : Option (SharedT × Thread) := PySem.W.Fast.tw10295753902157049106 tbQ pw w 11 annE 1 n s t
abbrev runQ (w : World) (n : Nat) (s : SharedT) (t : Thread) : Option (Flow × SharedT × Code × Pos) := PySem.W.Fast.tw10110043849684766642 tbQ pw w 11 annE 1 n s t
abbrev loopAt (id : String) (a : Args) (pos : Pos) (st : List Frame) : Thread := ⟨PySem.W.Fast.tw11892475500146522536 tbQ (.builtin id a), .builtin id a, pos, st⟩
abbrev wholeAt (k : Nat) (pos : Pos) : Thread := piecesOf [stAt k] envE cE pos [topFrame ⟨0, 0, 0, 0⟩]
def stackOf (w : World) (n : Nat) (s : SharedT) (t : Thread) : List Frame := match goQ w n s t with | some (_, t') => t'.stack | none => []
def o11 : Obj := ⟨(.type "tuple"), none, (.seq ⟨[]⟩ 0), ⟨[]⟩⟩
def o12 : Obj := ⟨.none, none, (.fields ⟨[]⟩), ⟨[]⟩⟩
def o13 : Obj := ⟨(.type "code"), none, (.fields ⟨[(.str (Str.ofString "<module>") 182), (.str (Str.ofString "<module>") 183), (.str (Str.ofString "/claim/cut.py") 184), (.int 1 0), (.int 0 0), (.int 0 0), (.int 0 0), (.int 0 0), (.ref 11), (.bool false), (.int 181 0), (.ref 12), .none, .none, .none, .none, (.int 185 0), (.int 1 0), (.str (Str.ofString "/claim/cut.py") 186)]⟩), ⟨[]⟩⟩
def o14 : Obj := ⟨(.type "frame"), none, .plain, ⟨[(some (.ref 13)), (some (.ref 3)), (some (.ref 3)), none, (some (.str (Str.ofString "__main__") 164)), none, (some (.ref 0))]⟩⟩
def heapA (P : Params) : Heap := ⟨⟨[(boot_o_0 P), (boot_o_1 P), (boot_o_2 P), (boot_o_3 P), (boot_o_4 P), (boot_o_5 P), (boot_o_6 P), (boot_o_7 P), (boot_o_8 P), (boot_o_9 P), (boot_o_10 P), o11, o12, o13, o14]⟩, life0⟩
def tree_0 (P : Params) : BT := (.node (boot_o_0 P) (.node (boot_o_1 P) (.node (boot_o_3 P) (.node (boot_o_7 P) .nil .nil) (.node o11 .nil .nil)) (.node (boot_o_5 P) (.node (boot_o_9 P) .nil .nil) (.node o13 .nil .nil))) (.node (boot_o_2 P) (.node (boot_o_4 P) (.node (boot_o_8 P) .nil .nil) (.node o12 .nil .nil)) (.node (boot_o_6 P) (.node (boot_o_10 P) .nil .nil) (.node o14 .nil .nil))))
def S_0 (w : World) (os : OsState) : SharedT := ⟨tree_0 w.params, 15, life0, ⟨[]⟩, ⟨0, 0, 0, 0⟩, 187, os⟩
def o3_1 (P : Params) : Obj := ⟨(.type "dict"), none, (.dict ⟨[⟨PyData.keyHash P (Str.ofString "__name__"), .str (Str.ofString "__name__") 165, (.str (Str.ofString "cpy313.stringprep") 187)⟩, ⟨PyData.keyHash P (Str.ofString "__doc__"), .str (Str.ofString "__doc__") 166, .none⟩, ⟨PyData.keyHash P (Str.ofString "__package__"), .str (Str.ofString "__package__") 167, .none⟩, ⟨PyData.keyHash P (Str.ofString "__loader__"), .str (Str.ofString "__loader__") 168, (.builtin "__main__.__loader__#opaque")⟩, ⟨PyData.keyHash P (Str.ofString "__spec__"), .str (Str.ofString "__spec__") 169, .none⟩, ⟨PyData.keyHash P (Str.ofString "__annotations__"), .str (Str.ofString "__annotations__") 170, (.ref 6)⟩, ⟨PyData.keyHash P (Str.ofString "__builtins__"), .str (Str.ofString "__builtins__") 171, (.ref 4)⟩, ⟨PyData.keyHash P (Str.ofString "__file__"), .str (Str.ofString "__file__") 173, (.str (Str.ofString "/claim/cut.py") 172)⟩, ⟨PyData.keyHash P (Str.ofString "__cached__"), .str (Str.ofString "__cached__") 174, .none⟩]⟩ 9), ⟨[]⟩⟩
def tree_1 (P : Params) : BT := (.node (boot_o_0 P) (.node (boot_o_1 P) (.node (o3_1 P) (.node (boot_o_7 P) .nil .nil) (.node o11 .nil .nil)) (.node (boot_o_5 P) (.node (boot_o_9 P) .nil .nil) (.node o13 .nil .nil))) (.node (boot_o_2 P) (.node (boot_o_4 P) (.node (boot_o_8 P) .nil .nil) (.node o12 .nil .nil)) (.node (boot_o_6 P) (.node (boot_o_10 P) .nil .nil) (.node o14 .nil .nil))))
def S_1 (w : World) (os : OsState) : SharedT := ⟨tree_1 w.params, 15, life0, ⟨[]⟩, ⟨0, 0, 0, 0⟩, 189, os⟩
def o3_2 (P : Params) : Obj := ⟨(.type "dict"), none, (.dict ⟨[⟨PyData.keyHash P (Str.ofString "__name__"), .str (Str.ofString "__name__") 165, (.str (Str.ofString "cpy313.stringprep") 187)⟩, ⟨PyData.keyHash P (Str.ofString "__doc__"), .str (Str.ofString "__doc__") 166, .none⟩, ⟨PyData.keyHash P (Str.ofString "__package__"), .str (Str.ofString "__package__") 167, .none⟩, ⟨PyData.keyHash P (Str.ofString "__loader__"), .str (Str.ofString "__loader__") 168, (.builtin "__main__.__loader__#opaque")⟩, ⟨PyData.keyHash P (Str.ofString "__spec__"), .str (Str.ofString "__spec__") 169, .none⟩, ⟨PyData.keyHash P (Str.ofString "__annotations__"), .str (Str.ofString "__annotations__") 170, (.ref 6)⟩, ⟨PyData.keyHash P (Str.ofString "__builtins__"), .str (Str.ofString "__builtins__") 171, (.ref 4)⟩, ⟨PyData.keyHash P (Str.ofString "__file__"), .str (Str.ofString "__file__") 173, (.str (Str.ofString "/claim/cut.py") 172)⟩, ⟨PyData.keyHash P (Str.ofString "__cached__"), .str (Str.ofString "__cached__") 174, .none⟩, ⟨PyData.keyHash P (Str.ofString "in_table_c11"), .str (Str.ofString "in_table_c11") 195, (.ref 21)⟩]⟩ 10), ⟨[]⟩⟩
def o12_1 : Obj := ⟨.none, none, (.fields ⟨[(.int 2 0), (.int 0 0), (.ref 20)]⟩), ⟨[]⟩⟩
def o15 : Obj := ⟨(.type "tuple"), none, (.seq ⟨[]⟩ 0), ⟨[]⟩⟩
def o16 : Obj := ⟨.none, none, (.fields ⟨[]⟩), ⟨[]⟩⟩
def o17 : Obj := ⟨(.type "tuple"), none, (.seq ⟨[(.str (Str.ofString "code") 192)]⟩ 0), ⟨[]⟩⟩
def o18 : Obj := ⟨(.type "tuple"), none, (.seq ⟨[]⟩ 0), ⟨[]⟩⟩
def o19 : Obj := fnObj 1 fun a b s => ⟨.none, none, .func ⟨(Str.ofString "in_table_c11"), (Str.ofString "in_table_c11"), a, (.stmts b), s, 0, [], .none, .none, .none, .none, none, .none, .none, 0⟩, ⟨[]⟩⟩
def o20 : Obj := ⟨(.type "code"), none, (.fields ⟨[(.str (Str.ofString "in_table_c11") 189), (.str (Str.ofString "in_table_c11") 190), (.str (Str.ofString "/claim/cut.py") 191), (.int 2 0), (.int 1 0), (.int 0 0), (.int 0 0), (.int 3 0), (.ref 15), (.bool true), (.int 181 0), (.ref 16), .none, (.ref 17), (.ref 18), (.ref 19), (.int 193 0), (.int 2 0), (.str (Str.ofString "/claim/cut.py") 194)]⟩), ⟨[]⟩⟩
def o21 : Obj := fnObj 1 fun a b s => ⟨(.type "function"), none, .func ⟨(Str.ofString "in_table_c11"), (Str.ofString "in_table_c11"), a, (.stmts b), s, 3, [], .none, .none, .none, (.str (Str.ofString "cpy313.stringprep") 187), none, (.ref 20), .none, 0⟩, ⟨[]⟩⟩
def tree_2 (P : Params) : BT := (.node (boot_o_0 P) (.node (boot_o_1 P) (.node (o3_2 P) (.node (boot_o_7 P) (.node o15 .nil .nil) .nil) (.node o11 (.node o19 .nil .nil) .nil)) (.node (boot_o_5 P) (.node (boot_o_9 P) (.node o17 .nil .nil) .nil) (.node o13 (.node o21 .nil .nil) .nil))) (.node (boot_o_2 P) (.node (boot_o_4 P) (.node (boot_o_8 P) (.node o16 .nil .nil) .nil) (.node o12_1 (.node o20 .nil .nil) .nil)) (.node (boot_o_6 P) (.node (boot_o_10 P) (.node o18 .nil .nil) .nil) (.node o14 .nil .nil))))
def S_2 (w : World) (os : OsState) : SharedT := ⟨tree_2 w.params, 22, life0, ⟨[]⟩, ⟨0, 0, 0, 0⟩, 196, os⟩
def o3_3 (P : Params) : Obj := ⟨(.type "dict"), none, (.dict ⟨[⟨PyData.keyHash P (Str.ofString "__name__"), .str (Str.ofString "__name__") 165, (.str (Str.ofString "cpy313.stringprep") 187)⟩, ⟨PyData.keyHash P (Str.ofString "__doc__"), .str (Str.ofString "__doc__") 166, .none⟩, ⟨PyData.keyHash P (Str.ofString "__package__"), .str (Str.ofString "__package__") 167, .none⟩, ⟨PyData.keyHash P (Str.ofString "__loader__"), .str (Str.ofString "__loader__") 168, (.builtin "__main__.__loader__#opaque")⟩, ⟨PyData.keyHash P (Str.ofString "__spec__"), .str (Str.ofString "__spec__") 169, .none⟩, ⟨PyData.keyHash P (Str.ofString "__annotations__"), .str (Str.ofString "__annotations__") 170, (.ref 6)⟩, ⟨PyData.keyHash P (Str.ofString "__builtins__"), .str (Str.ofString "__builtins__") 171, (.ref 4)⟩, ⟨PyData.keyHash P (Str.ofString "__file__"), .str (Str.ofString "__file__") 173, (.str (Str.ofString "/claim/cut.py") 172)⟩, ⟨PyData.keyHash P (Str.ofString "__cached__"), .str (Str.ofString "__cached__") 174, .none⟩, ⟨PyData.keyHash P (Str.ofString "in_table_c11"), .str (Str.ofString "in_table_c11") 195, (.ref 21)⟩, ⟨PyData.keyHash P (Str.ofString "in_table_c4"), .str (Str.ofString "in_table_c4") 203, (.ref 28)⟩]⟩ 11), ⟨[]⟩⟩
def o12_2 : Obj := ⟨.none, none, (.fields ⟨[(.int 2 0), (.int 0 0), (.ref 20), (.int 4 0), (.int 0 0), (.ref 27)]⟩), ⟨[]⟩⟩
def o22 : Obj := ⟨(.type "tuple"), none, (.seq ⟨[]⟩ 0), ⟨[]⟩⟩
def o23 : Obj := ⟨.none, none, (.fields ⟨[]⟩), ⟨[]⟩⟩
def o24 : Obj := ⟨(.type "tuple"), none, (.seq ⟨[(.str (Str.ofString "code") 199), (.str (Str.ofString "c") 200)]⟩ 0), ⟨[]⟩⟩
def o25 : Obj := ⟨(.type "tuple"), none, (.seq ⟨[]⟩ 0), ⟨[]⟩⟩
def o26 : Obj := fnObj 2 fun a b s => ⟨.none, none, .func ⟨(Str.ofString "in_table_c4"), (Str.ofString "in_table_c4"), a, (.stmts b), s, 0, [], .none, .none, .none, .none, none, .none, .none, 0⟩, ⟨[]⟩⟩
def o27 : Obj := ⟨(.type "code"), none, (.fields ⟨[(.str (Str.ofString "in_table_c4") 196), (.str (Str.ofString "in_table_c4") 197), (.str (Str.ofString "/claim/cut.py") 198), (.int 4 0), (.int 1 0), (.int 0 0), (.int 0 0), (.int 3 0), (.ref 22), (.bool true), (.int 181 0), (.ref 23), .none, (.ref 24), (.ref 25), (.ref 26), (.int 201 0), (.int 4 0), (.str (Str.ofString "/claim/cut.py") 202)]⟩), ⟨[]⟩⟩
def o28 : Obj := fnObj 2 fun a b s => ⟨(.type "function"), none, .func ⟨(Str.ofString "in_table_c4"), (Str.ofString "in_table_c4"), a, (.stmts b), s, 3, [], .none, .none, .none, (.str (Str.ofString "cpy313.stringprep") 187), none, (.ref 27), .none, 0⟩, ⟨[]⟩⟩
def tree_3 (P : Params) : BT := (.node (boot_o_0 P) (.node (boot_o_1 P) (.node (o3_3 P) (.node (boot_o_7 P) (.node o15 .nil .nil) (.node o23 .nil .nil)) (.node o11 (.node o19 .nil .nil) (.node o27 .nil .nil))) (.node (boot_o_5 P) (.node (boot_o_9 P) (.node o17 .nil .nil) (.node o25 .nil .nil)) (.node o13 (.node o21 .nil .nil) .nil))) (.node (boot_o_2 P) (.node (boot_o_4 P) (.node (boot_o_8 P) (.node o16 .nil .nil) (.node o24 .nil .nil)) (.node o12_2 (.node o20 .nil .nil) (.node o28 .nil .nil))) (.node (boot_o_6 P) (.node (boot_o_10 P) (.node o18 .nil .nil) (.node o26 .nil .nil)) (.node o14 (.node o22 .nil .nil) .nil))))
def S_3 (w : World) (os : OsState) : SharedT := ⟨tree_3 w.params, 29, life0, ⟨[]⟩, ⟨0, 0, 0, 0⟩, 204, os⟩
def o29 : Obj := ⟨(.type "range"), none, (.fields ⟨[(.int 65529 204), (.int 65534 205), (.int 1 206)]⟩), ⟨[]⟩⟩
def loop_3_0 (P : Params) (x y : Obj) : BT := (.node (boot_o_0 P) (.node (boot_o_1 P) (.node (o3_3 P) (.node (boot_o_7 P) (.node o15 (.node y .nil .nil) .nil) (.node o23 .nil .nil)) (.node o11 (.node o19 .nil .nil) (.node o27 .nil .nil))) (.node (boot_o_5 P) (.node (boot_o_9 P) (.node o17 .nil .nil) (.node o25 .nil .nil)) (.node o13 (.node o21 .nil .nil) (.node o29 .nil .nil)))) (.node (boot_o_2 P) (.node (boot_o_4 P) (.node (boot_o_8 P) (.node o16 .nil .nil) (.node o24 .nil .nil)) (.node o12_2 (.node o20 .nil .nil) (.node o28 .nil .nil))) (.node (boot_o_6 P) (.node (boot_o_10 P) (.node o18 .nil .nil) (.node o26 .nil .nil)) (.node o14 (.node o22 .nil .nil) (.node x .nil .nil)))))
def stk_3_0 (w : World) (os : OsState) : List Frame := stackOf w 58 (S_3 w os) (wholeAt 3 ⟨4, 0, 10, 46⟩)
def c_3_0_0 (b : Bool) : Obj := ⟨(.type "set"), none, (.set ⟨[]⟩ 0 ⟨7, ⟨[]⟩, ⟨[]⟩, 0, b, 0, true⟩), ⟨[]⟩⟩
def i_3_0_0 : Obj := ⟨(.type "range_iterator"), none, (.fields ⟨[(.int 65529 0), (.int 5 0), (.int 1 0)]⟩), ⟨[]⟩⟩
def S_3_0_0 (b : Bool) (w : World) (os : OsState) : SharedT := ⟨loop_3_0 w.params (c_3_0_0 b) i_3_0_0, 32, life0, ⟨[]⟩, ⟨0, 0, 0, 0⟩, 207, os⟩
def c_3_0_1 (b : Bool) : Obj := ⟨(.type "set"), none, (.set ⟨[(65529, (.int 65529 207))]⟩ 1 ⟨7, ⟨[1]⟩, ⟨[]⟩, 0, b, 0, true⟩), ⟨[]⟩⟩
def i_3_0_1 : Obj := ⟨(.type "range_iterator"), none, (.fields ⟨[(.int 65530 0), (.int 4 0), (.int 1 0)]⟩), ⟨[]⟩⟩
def S_3_0_1 (b : Bool) (w : World) (os : OsState) : SharedT := ⟨loop_3_0 w.params (c_3_0_1 b) i_3_0_1, 32, life0, ⟨[]⟩, ⟨0, 0, 0, 0⟩, 209, os⟩
def c_3_0_2 (b : Bool) : Obj := ⟨(.type "set"), none, (.set ⟨[(65529, (.int 65529 207)), (65530, (.int 65530 209))]⟩ 2 ⟨7, ⟨[1, 2]⟩, ⟨[]⟩, 0, b, 0, true⟩), ⟨[]⟩⟩
def i_3_0_2 : Obj := ⟨(.type "range_iterator"), none, (.fields ⟨[(.int 65531 0), (.int 3 0), (.int 1 0)]⟩), ⟨[]⟩⟩
def S_3_0_2 (b : Bool) (w : World) (os : OsState) : SharedT := ⟨loop_3_0 w.params (c_3_0_2 b) i_3_0_2, 32, life0, ⟨[]⟩, ⟨0, 0, 0, 0⟩, 211, os⟩
def c_3_0_3 (b : Bool) : Obj := ⟨(.type "set"), none, (.set ⟨[(65529, (.int 65529 207)), (65530, (.int 65530 209)), (65531, (.int 65531 211))]⟩ 3 ⟨7, ⟨[1, 2, 3]⟩, ⟨[]⟩, 0, b, 0, true⟩), ⟨[]⟩⟩
def i_3_0_3 : Obj := ⟨(.type "range_iterator"), none, (.fields ⟨[(.int 65532 0), (.int 2 0), (.int 1 0)]⟩), ⟨[]⟩⟩
def S_3_0_3 (b : Bool) (w : World) (os : OsState) : SharedT := ⟨loop_3_0 w.params (c_3_0_3 b) i_3_0_3, 32, life0, ⟨[]⟩, ⟨0, 0, 0, 0⟩, 213, os⟩
def c_3_0_4 (b : Bool) : Obj := ⟨(.type "set"), none, (.set ⟨[(65529, (.int 65529 207)), (65530, (.int 65530 209)), (65531, (.int 65531 211)), (65532, (.int 65532 213))]⟩ 4 ⟨7, ⟨[1, 2, 3, 4]⟩, ⟨[]⟩, 0, b, 0, true⟩), ⟨[]⟩⟩
def i_3_0_4 : Obj := ⟨(.type "range_iterator"), none, (.fields ⟨[(.int 65533 0), (.int 1 0), (.int 1 0)]⟩), ⟨[]⟩⟩
def S_3_0_4 (b : Bool) (w : World) (os : OsState) : SharedT := ⟨loop_3_0 w.params (c_3_0_4 b) i_3_0_4, 32, life0, ⟨[]⟩, ⟨0, 0, 0, 0⟩, 215, os⟩
def c_3_0_5 (b : Bool) : Obj := ⟨(.type "set"), none, (.set ⟨[(65529, (.int 65529 207)), (65530, (.int 65530 209)), (65531, (.int 65531 211)), (65532, (.int 65532 213)), (65533, (.int 65533 215))]⟩ 6 ⟨31, ⟨[25, 26, 27, 28, 29]⟩, ⟨[]⟩, 0, b, 1, true⟩), ⟨[]⟩⟩
def i_3_0_5 : Obj := ⟨(.type "range_iterator"), none, (.fields ⟨[(.int 65534 0), (.int 0 0), (.int 1 0)]⟩), ⟨[]⟩⟩
def S_3_0_5 (b : Bool) (w : World) (os : OsState) : SharedT := ⟨loop_3_0 w.params (c_3_0_5 b) i_3_0_5, 32, life0, ⟨[]⟩, ⟨0, 0, 0, 0⟩, 217, os⟩
def o3_4 (P : Params) : Obj := ⟨(.type "dict"), none, (.dict ⟨[⟨PyData.keyHash P (Str.ofString "__name__"), .str (Str.ofString "__name__") 165, (.str (Str.ofString "cpy313.stringprep") 187)⟩, ⟨PyData.keyHash P (Str.ofString "__doc__"), .str (Str.ofString "__doc__") 166, .none⟩, ⟨PyData.keyHash P (Str.ofString "__package__"), .str (Str.ofString "__package__") 167, .none⟩, ⟨PyData.keyHash P (Str.ofString "__loader__"), .str (Str.ofString "__loader__") 168, (.builtin "__main__.__loader__#opaque")⟩, ⟨PyData.keyHash P (Str.ofString "__spec__"), .str (Str.ofString "__spec__") 169, .none⟩, ⟨PyData.keyHash P (Str.ofString "__annotations__"), .str (Str.ofString "__annotations__") 170, (.ref 6)⟩, ⟨PyData.keyHash P (Str.ofString "__builtins__"), .str (Str.ofString "__builtins__") 171, (.ref 4)⟩, ⟨PyData.keyHash P (Str.ofString "__file__"), .str (Str.ofString "__file__") 173, (.str (Str.ofString "/claim/cut.py") 172)⟩, ⟨PyData.keyHash P (Str.ofString "__cached__"), .str (Str.ofString "__cached__") 174, .none⟩, ⟨PyData.keyHash P (Str.ofString "in_table_c11"), .str (Str.ofString "in_table_c11") 195, (.ref 21)⟩, ⟨PyData.keyHash P (Str.ofString "in_table_c4"), .str (Str.ofString "in_table_c4") 203, (.ref 28)⟩, ⟨PyData.keyHash P (Str.ofString "c6_set"), .str (Str.ofString "c6_set") 217, (.ref 30)⟩]⟩ 12), ⟨[]⟩⟩
def o32 : Obj := ⟨(.type "tuple"), none, (.seq ⟨[]⟩ 0), ⟨[]⟩⟩
def o33 : Obj := ⟨(.type "StopIteration"), none, (.fields ⟨[(.ref 32), .none, .none, .none, (.bool false), .none]⟩), ⟨[]⟩⟩
def tree_4 (P : Params) : BT := (.node (boot_o_0 P) (.node (boot_o_1 P) (.node (o3_4 P) (.node (boot_o_7 P) (.node o15 (.node i_3_0_5 .nil .nil) .nil) (.node o23 .nil .nil)) (.node o11 (.node o19 .nil .nil) (.node o27 .nil .nil))) (.node (boot_o_5 P) (.node (boot_o_9 P) (.node o17 (.node o33 .nil .nil) .nil) (.node o25 .nil .nil)) (.node o13 (.node o21 .nil .nil) (.node o29 .nil .nil)))) (.node (boot_o_2 P) (.node (boot_o_4 P) (.node (boot_o_8 P) (.node o16 (.node o32 .nil .nil) .nil) (.node o24 .nil .nil)) (.node o12_2 (.node o20 .nil .nil) (.node o28 .nil .nil))) (.node (boot_o_6 P) (.node (boot_o_10 P) (.node o18 .nil .nil) (.node o26 .nil .nil)) (.node o14 (.node o22 .nil .nil) (.node (c_3_0_5 (ledOf P)) .nil .nil)))))
def S_4 (w : World) (os : OsState) : SharedT := ⟨tree_4 w.params, 34, life0, ⟨[]⟩, ⟨0, 0, 0, 0⟩, 218, os⟩
def o3_5 (P : Params) : Obj := ⟨(.type "dict"), none, (.dict ⟨[⟨PyData.keyHash P (Str.ofString "__name__"), .str (Str.ofString "__name__") 165, (.str (Str.ofString "cpy313.stringprep") 187)⟩, ⟨PyData.keyHash P (Str.ofString "__doc__"), .str (Str.ofString "__doc__") 166, .none⟩, ⟨PyData.keyHash P (Str.ofString "__package__"), .str (Str.ofString "__package__") 167, .none⟩, ⟨PyData.keyHash P (Str.ofString "__loader__"), .str (Str.ofString "__loader__") 168, (.builtin "__main__.__loader__#opaque")⟩, ⟨PyData.keyHash P (Str.ofString "__spec__"), .str (Str.ofString "__spec__") 169, .none⟩, ⟨PyData.keyHash P (Str.ofString "__annotations__"), .str (Str.ofString "__annotations__") 170, (.ref 6)⟩, ⟨PyData.keyHash P (Str.ofString "__builtins__"), .str (Str.ofString "__builtins__") 171, (.ref 4)⟩, ⟨PyData.keyHash P (Str.ofString "__file__"), .str (Str.ofString "__file__") 173, (.str (Str.ofString "/claim/cut.py") 172)⟩, ⟨PyData.keyHash P (Str.ofString "__cached__"), .str (Str.ofString "__cached__") 174, .none⟩, ⟨PyData.keyHash P (Str.ofString "in_table_c11"), .str (Str.ofString "in_table_c11") 195, (.ref 21)⟩, ⟨PyData.keyHash P (Str.ofString "in_table_c4"), .str (Str.ofString "in_table_c4") 203, (.ref 28)⟩, ⟨PyData.keyHash P (Str.ofString "c6_set"), .str (Str.ofString "c6_set") 217, (.ref 30)⟩, ⟨PyData.keyHash P (Str.ofString "in_table_c6"), .str (Str.ofString "in_table_c6") 224, (.ref 40)⟩]⟩ 13), ⟨[]⟩⟩
def o12_3 : Obj := ⟨.none, none, (.fields ⟨[(.int 2 0), (.int 0 0), (.ref 20), (.int 4 0), (.int 0 0), (.ref 27), (.int 12 0), (.int 0 0), (.ref 39)]⟩), ⟨[]⟩⟩
def o34 : Obj := ⟨(.type "tuple"), none, (.seq ⟨[]⟩ 0), ⟨[]⟩⟩
def o35 : Obj := ⟨.none, none, (.fields ⟨[]⟩), ⟨[]⟩⟩
def o36 : Obj := ⟨(.type "tuple"), none, (.seq ⟨[(.str (Str.ofString "code") 221)]⟩ 0), ⟨[]⟩⟩
def o37 : Obj := ⟨(.type "tuple"), none, (.seq ⟨[]⟩ 0), ⟨[]⟩⟩
def o38 : Obj := fnObj 4 fun a b s => ⟨.none, none, .func ⟨(Str.ofString "in_table_c6"), (Str.ofString "in_table_c6"), a, (.stmts b), s, 0, [], .none, .none, .none, .none, none, .none, .none, 0⟩, ⟨[]⟩⟩
def o39 : Obj := ⟨(.type "code"), none, (.fields ⟨[(.str (Str.ofString "in_table_c6") 218), (.str (Str.ofString "in_table_c6") 219), (.str (Str.ofString "/claim/cut.py") 220), (.int 12 0), (.int 1 0), (.int 0 0), (.int 0 0), (.int 3 0), (.ref 34), (.bool true), (.int 181 0), (.ref 35), .none, (.ref 36), (.ref 37), (.ref 38), (.int 222 0), (.int 12 0), (.str (Str.ofString "/claim/cut.py") 223)]⟩), ⟨[]⟩⟩
def o40 : Obj := fnObj 4 fun a b s => ⟨(.type "function"), none, .func ⟨(Str.ofString "in_table_c6"), (Str.ofString "in_table_c6"), a, (.stmts b), s, 3, [], .none, .none, .none, (.str (Str.ofString "cpy313.stringprep") 187), none, (.ref 39), .none, 0⟩, ⟨[]⟩⟩
def tree_5 (P : Params) : BT := (.node (boot_o_0 P) (.node (boot_o_1 P) (.node (o3_5 P) (.node (boot_o_7 P) (.node o15 (.node i_3_0_5 .nil .nil) .nil) (.node o23 (.node o39 .nil .nil) .nil)) (.node o11 (.node o19 (.node o35 .nil .nil) .nil) (.node o27 .nil .nil))) (.node (boot_o_5 P) (.node (boot_o_9 P) (.node o17 (.node o33 .nil .nil) .nil) (.node o25 .nil .nil)) (.node o13 (.node o21 (.node o37 .nil .nil) .nil) (.node o29 .nil .nil)))) (.node (boot_o_2 P) (.node (boot_o_4 P) (.node (boot_o_8 P) (.node o16 (.node o32 .nil .nil) .nil) (.node o24 (.node o40 .nil .nil) .nil)) (.node o12_3 (.node o20 (.node o36 .nil .nil) .nil) (.node o28 .nil .nil))) (.node (boot_o_6 P) (.node (boot_o_10 P) (.node o18 (.node o34 .nil .nil) .nil) (.node o26 .nil .nil)) (.node o14 (.node o22 (.node o38 .nil .nil) .nil) (.node (c_3_0_5 (ledOf P)) .nil .nil)))))
def S_5 (w : World) (os : OsState) : SharedT := ⟨tree_5 w.params, 41, life0, ⟨[]⟩, ⟨0, 0, 0, 0⟩, 225, os⟩
def o41 : Obj := ⟨(.type "range"), none, (.fields ⟨[(.int 12272 225), (.int 12284 226), (.int 1 227)]⟩), ⟨[]⟩⟩
def loop_5_0 (P : Params) (x y : Obj) : BT := (.node (boot_o_0 P) (.node (boot_o_1 P) (.node (o3_5 P) (.node (boot_o_7 P) (.node o15 (.node i_3_0_5 .nil .nil) .nil) (.node o23 (.node o39 .nil .nil) .nil)) (.node o11 (.node o19 (.node o35 .nil .nil) .nil) (.node o27 (.node y .nil .nil) .nil))) (.node (boot_o_5 P) (.node (boot_o_9 P) (.node o17 (.node o33 .nil .nil) .nil) (.node o25 (.node o41 .nil .nil) .nil)) (.node o13 (.node o21 (.node o37 .nil .nil) .nil) (.node o29 .nil .nil)))) (.node (boot_o_2 P) (.node (boot_o_4 P) (.node (boot_o_8 P) (.node o16 (.node o32 .nil .nil) .nil) (.node o24 (.node o40 .nil .nil) .nil)) (.node o12_3 (.node o20 (.node o36 .nil .nil) .nil) (.node o28 .nil .nil))) (.node (boot_o_6 P) (.node (boot_o_10 P) (.node o18 (.node o34 .nil .nil) .nil) (.node o26 (.node x .nil .nil) .nil)) (.node o14 (.node o22 (.node o38 .nil .nil) .nil) (.node (c_3_0_5 (ledOf P)) .nil .nil)))))
def stk_5_0 (w : World) (os : OsState) : List Frame := stackOf w 58 (S_5 w os) (wholeAt 5 ⟨12, 0, 13, 30⟩)
def c_5_0_0 (b : Bool) : Obj := ⟨(.type "set"), none, (.set ⟨[]⟩ 0 ⟨7, ⟨[]⟩, ⟨[]⟩, 0, b, 0, true⟩), ⟨[]⟩⟩
def i_5_0_0 : Obj := ⟨(.type "range_iterator"), none, (.fields ⟨[(.int 12272 0), (.int 12 0), (.int 1 0)]⟩), ⟨[]⟩⟩
def S_5_0_0 (b : Bool) (w : World) (os : OsState) : SharedT := ⟨loop_5_0 w.params (c_5_0_0 b) i_5_0_0, 44, life0, ⟨[]⟩, ⟨0, 0, 0, 0⟩, 228, os⟩
def c_5_0_1 (b : Bool) : Obj := ⟨(.type "set"), none, (.set ⟨[(12272, (.int 12272 228))]⟩ 1 ⟨7, ⟨[0]⟩, ⟨[]⟩, 0, b, 0, true⟩), ⟨[]⟩⟩
def i_5_0_1 : Obj := ⟨(.type "range_iterator"), none, (.fields ⟨[(.int 12273 0), (.int 11 0), (.int 1 0)]⟩), ⟨[]⟩⟩
def S_5_0_1 (b : Bool) (w : World) (os : OsState) : SharedT := ⟨loop_5_0 w.params (c_5_0_1 b) i_5_0_1, 44, life0, ⟨[]⟩, ⟨0, 0, 0, 0⟩, 230, os⟩
def c_5_0_2 (b : Bool) : Obj := ⟨(.type "set"), none, (.set ⟨[(12272, (.int 12272 228)), (12273, (.int 12273 230))]⟩ 2 ⟨7, ⟨[0, 1]⟩, ⟨[]⟩, 0, b, 0, true⟩), ⟨[]⟩⟩
def i_5_0_2 : Obj := ⟨(.type "range_iterator"), none, (.fields ⟨[(.int 12274 0), (.int 10 0), (.int 1 0)]⟩), ⟨[]⟩⟩
def S_5_0_2 (b : Bool) (w : World) (os : OsState) : SharedT := ⟨loop_5_0 w.params (c_5_0_2 b) i_5_0_2, 44, life0, ⟨[]⟩, ⟨0, 0, 0, 0⟩, 232, os⟩
def c_5_0_3 (b : Bool) : Obj := ⟨(.type "set"), none, (.set ⟨[(12272, (.int 12272 228)), (12273, (.int 12273 230)), (12274, (.int 12274 232))]⟩ 3 ⟨7, ⟨[0, 1, 2]⟩, ⟨[]⟩, 0, b, 0, true⟩), ⟨[]⟩⟩
def i_5_0_3 : Obj := ⟨(.type "range_iterator"), none, (.fields ⟨[(.int 12275 0), (.int 9 0), (.int 1 0)]⟩), ⟨[]⟩⟩
def S_5_0_3 (b : Bool) (w : World) (os : OsState) : SharedT := ⟨loop_5_0 w.params (c_5_0_3 b) i_5_0_3, 44, life0, ⟨[]⟩, ⟨0, 0, 0, 0⟩, 234, os⟩
def c_5_0_4 (b : Bool) : Obj := ⟨(.type "set"), none, (.set ⟨[(12272, (.int 12272 228)), (12273, (.int 12273 230)), (12274, (.int 12274 232)), (12275, (.int 12275 234))]⟩ 4 ⟨7, ⟨[0, 1, 2, 3]⟩, ⟨[]⟩, 0, b, 0, true⟩), ⟨[]⟩⟩
def i_5_0_4 : Obj := ⟨(.type "range_iterator"), none, (.fields ⟨[(.int 12276 0), (.int 8 0), (.int 1 0)]⟩), ⟨[]⟩⟩
def S_5_0_4 (b : Bool) (w : World) (os : OsState) : SharedT := ⟨loop_5_0 w.params (c_5_0_4 b) i_5_0_4, 44, life0, ⟨[]⟩, ⟨0, 0, 0, 0⟩, 236, os⟩
def c_5_0_5 (b : Bool) : Obj := ⟨(.type "set"), none, (.set ⟨[(12272, (.int 12272 228)), (12273, (.int 12273 230)), (12274, (.int 12274 232)), (12275, (.int 12275 234)), (12276, (.int 12276 236))]⟩ 6 ⟨31, ⟨[16, 17, 18, 19, 20]⟩, ⟨[]⟩, 0, b, 1, true⟩), ⟨[]⟩⟩
def i_5_0_5 : Obj := ⟨(.type "range_iterator"), none, (.fields ⟨[(.int 12277 0), (.int 7 0), (.int 1 0)]⟩), ⟨[]⟩⟩
def S_5_0_5 (b : Bool) (w : World) (os : OsState) : SharedT := ⟨loop_5_0 w.params (c_5_0_5 b) i_5_0_5, 44, life0, ⟨[]⟩, ⟨0, 0, 0, 0⟩, 238, os⟩
def c_5_0_6 (b : Bool) : Obj := ⟨(.type "set"), none, (.set ⟨[(12272, (.int 12272 228)), (12273, (.int 12273 230)), (12274, (.int 12274 232)), (12275, (.int 12275 234)), (12276, (.int 12276 236)), (12277, (.int 12277 238))]⟩ 7 ⟨31, ⟨[16, 17, 18, 19, 20, 21]⟩, ⟨[]⟩, 0, b, 1, true⟩), ⟨[]⟩⟩
def i_5_0_6 : Obj := ⟨(.type "range_iterator"), none, (.fields ⟨[(.int 12278 0), (.int 6 0), (.int 1 0)]⟩), ⟨[]⟩⟩
def S_5_0_6 (b : Bool) (w : World) (os : OsState) : SharedT := ⟨loop_5_0 w.params (c_5_0_6 b) i_5_0_6, 44, life0, ⟨[]⟩, ⟨0, 0, 0, 0⟩, 240, os⟩
def c_5_0_7 (b : Bool) : Obj := ⟨(.type "set"), none, (.set ⟨[(12272, (.int 12272 228)), (12273, (.int 12273 230)), (12274, (.int 12274 232)), (12275, (.int 12275 234)), (12276, (.int 12276 236)), (12277, (.int 12277 238)), (12278, (.int 12278 240))]⟩ 8 ⟨31, ⟨[16, 17, 18, 19, 20, 21, 22]⟩, ⟨[]⟩, 0, b, 1, true⟩), ⟨[]⟩⟩
def i_5_0_7 : Obj := ⟨(.type "range_iterator"), none, (.fields ⟨[(.int 12279 0), (.int 5 0), (.int 1 0)]⟩), ⟨[]⟩⟩
def S_5_0_7 (b : Bool) (w : World) (os : OsState) : SharedT := ⟨loop_5_0 w.params (c_5_0_7 b) i_5_0_7, 44, life0, ⟨[]⟩, ⟨0, 0, 0, 0⟩, 242, os⟩
def c_5_0_8 (b : Bool) : Obj := ⟨(.type "set"), none, (.set ⟨[(12272, (.int 12272 228)), (12273, (.int 12273 230)), (12274, (.int 12274 232)), (12275, (.int 12275 234)), (12276, (.int 12276 236)), (12277, (.int 12277 238)), (12278, (.int 12278 240)), (12279, (.int 12279 242))]⟩ 9 ⟨31, ⟨[16, 17, 18, 19, 20, 21, 22, 23]⟩, ⟨[]⟩, 0, b, 1, true⟩), ⟨[]⟩⟩
def i_5_0_8 : Obj := ⟨(.type "range_iterator"), none, (.fields ⟨[(.int 12280 0), (.int 4 0), (.int 1 0)]⟩), ⟨[]⟩⟩
def S_5_0_8 (b : Bool) (w : World) (os : OsState) : SharedT := ⟨loop_5_0 w.params (c_5_0_8 b) i_5_0_8, 44, life0, ⟨[]⟩, ⟨0, 0, 0, 0⟩, 244, os⟩
def c_5_0_9 (b : Bool) : Obj := ⟨(.type "set"), none, (.set ⟨[(12272, (.int 12272 228)), (12273, (.int 12273 230)), (12274, (.int 12274 232)), (12275, (.int 12275 234)), (12276, (.int 12276 236)), (12277, (.int 12277 238)), (12278, (.int 12278 240)), (12279, (.int 12279 242)), (12280, (.int 12280 244))]⟩ 10 ⟨31, ⟨[16, 17, 18, 19, 20, 21, 22, 23, 24]⟩, ⟨[]⟩, 0, b, 1, true⟩), ⟨[]⟩⟩
def i_5_0_9 : Obj := ⟨(.type "range_iterator"), none, (.fields ⟨[(.int 12281 0), (.int 3 0), (.int 1 0)]⟩), ⟨[]⟩⟩
def S_5_0_9 (b : Bool) (w : World) (os : OsState) : SharedT := ⟨loop_5_0 w.params (c_5_0_9 b) i_5_0_9, 44, life0, ⟨[]⟩, ⟨0, 0, 0, 0⟩, 246, os⟩
def c_5_0_10 (b : Bool) : Obj := ⟨(.type "set"), none, (.set ⟨[(12272, (.int 12272 228)), (12273, (.int 12273 230)), (12274, (.int 12274 232)), (12275, (.int 12275 234)), (12276, (.int 12276 236)), (12277, (.int 12277 238)), (12278, (.int 12278 240)), (12279, (.int 12279 242)), (12280, (.int 12280 244)), (12281, (.int 12281 246))]⟩ 11 ⟨31, ⟨[16, 17, 18, 19, 20, 21, 22, 23, 24, 25]⟩, ⟨[]⟩, 0, b, 1, true⟩), ⟨[]⟩⟩
def i_5_0_10 : Obj := ⟨(.type "range_iterator"), none, (.fields ⟨[(.int 12282 0), (.int 2 0), (.int 1 0)]⟩), ⟨[]⟩⟩
def S_5_0_10 (b : Bool) (w : World) (os : OsState) : SharedT := ⟨loop_5_0 w.params (c_5_0_10 b) i_5_0_10, 44, life0, ⟨[]⟩, ⟨0, 0, 0, 0⟩, 248, os⟩
def c_5_0_11 (b : Bool) : Obj := ⟨(.type "set"), none, (.set ⟨[(12272, (.int 12272 228)), (12273, (.int 12273 230)), (12274, (.int 12274 232)), (12275, (.int 12275 234)), (12276, (.int 12276 236)), (12277, (.int 12277 238)), (12278, (.int 12278 240)), (12279, (.int 12279 242)), (12280, (.int 12280 244)), (12281, (.int 12281 246)), (12282, (.int 12282 248))]⟩ 12 ⟨31, ⟨[16, 17, 18, 19, 20, 21, 22, 23, 24, 25, 26]⟩, ⟨[]⟩, 0, b, 1, true⟩), ⟨[]⟩⟩
def i_5_0_11 : Obj := ⟨(.type "range_iterator"), none, (.fields ⟨[(.int 12283 0), (.int 1 0), (.int 1 0)]⟩), ⟨[]⟩⟩
def S_5_0_11 (b : Bool) (w : World) (os : OsState) : SharedT := ⟨loop_5_0 w.params (c_5_0_11 b) i_5_0_11, 44, life0, ⟨[]⟩, ⟨0, 0, 0, 0⟩, 250, os⟩
def c_5_0_12 (b : Bool) : Obj := ⟨(.type "set"), none, (.set ⟨[(12272, (.int 12272 228)), (12273, (.int 12273 230)), (12274, (.int 12274 232)), (12275, (.int 12275 234)), (12276, (.int 12276 236)), (12277, (.int 12277 238)), (12278, (.int 12278 240)), (12279, (.int 12279 242)), (12280, (.int 12280 244)), (12281, (.int 12281 246)), (12282, (.int 12282 248)), (12283, (.int 12283 250))]⟩ 13 ⟨31, ⟨[16, 17, 18, 19, 20, 21, 22, 23, 24, 25, 26, 27]⟩, ⟨[]⟩, 0, b, 1, true⟩), ⟨[]⟩⟩
def i_5_0_12 : Obj := ⟨(.type "range_iterator"), none, (.fields ⟨[(.int 12284 0), (.int 0 0), (.int 1 0)]⟩), ⟨[]⟩⟩
def S_5_0_12 (b : Bool) (w : World) (os : OsState) : SharedT := ⟨loop_5_0 w.params (c_5_0_12 b) i_5_0_12, 44, life0, ⟨[]⟩, ⟨0, 0, 0, 0⟩, 252, os⟩
def o3_6 (P : Params) : Obj := ⟨(.type "dict"), none, (.dict ⟨[⟨PyData.keyHash P (Str.ofString "__name__"), .str (Str.ofString "__name__") 165, (.str (Str.ofString "cpy313.stringprep") 187)⟩, ⟨PyData.keyHash P (Str.ofString "__doc__"), .str (Str.ofString "__doc__") 166, .none⟩, ⟨PyData.keyHash P (Str.ofString "__package__"), .str (Str.ofString "__package__") 167, .none⟩, ⟨PyData.keyHash P (Str.ofString "__loader__"), .str (Str.ofString "__loader__") 168, (.builtin "__main__.__loader__#opaque")⟩, ⟨PyData.keyHash P (Str.ofString "__spec__"), .str (Str.ofString "__spec__") 169, .none⟩, ⟨PyData.keyHash P (Str.ofString "__annotations__"), .str (Str.ofString "__annotations__") 170, (.ref 6)⟩, ⟨PyData.keyHash P (Str.ofString "__builtins__"), .str (Str.ofString "__builtins__") 171, (.ref 4)⟩, ⟨PyData.keyHash P (Str.ofString "__file__"), .str (Str.ofString "__file__") 173, (.str (Str.ofString "/claim/cut.py") 172)⟩, ⟨PyData.keyHash P (Str.ofString "__cached__"), .str (Str.ofString "__cached__") 174, .none⟩, ⟨PyData.keyHash P (Str.ofString "in_table_c11"), .str (Str.ofString "in_table_c11") 195, (.ref 21)⟩, ⟨PyData.keyHash P (Str.ofString "in_table_c4"), .str (Str.ofString "in_table_c4") 203, (.ref 28)⟩, ⟨PyData.keyHash P (Str.ofString "c6_set"), .str (Str.ofString "c6_set") 217, (.ref 30)⟩, ⟨PyData.keyHash P (Str.ofString "in_table_c6"), .str (Str.ofString "in_table_c6") 224, (.ref 40)⟩, ⟨PyData.keyHash P (Str.ofString "c7_set"), .str (Str.ofString "c7_set") 252, (.ref 42)⟩]⟩ 14), ⟨[]⟩⟩
def o44 : Obj := ⟨(.type "tuple"), none, (.seq ⟨[]⟩ 0), ⟨[]⟩⟩
def o45 : Obj := ⟨(.type "StopIteration"), none, (.fields ⟨[(.ref 44), .none, .none, .none, (.bool false), .none]⟩), ⟨[]⟩⟩
def tree_6 (P : Params) : BT := (.node (boot_o_0 P) (.node (boot_o_1 P) (.node (o3_6 P) (.node (boot_o_7 P) (.node o15 (.node i_3_0_5 .nil .nil) .nil) (.node o23 (.node o39 .nil .nil) .nil)) (.node o11 (.node o19 (.node o35 .nil .nil) .nil) (.node o27 (.node i_5_0_12 .nil .nil) .nil))) (.node (boot_o_5 P) (.node (boot_o_9 P) (.node o17 (.node o33 .nil .nil) .nil) (.node o25 (.node o41 .nil .nil) .nil)) (.node o13 (.node o21 (.node o37 .nil .nil) .nil) (.node o29 (.node o45 .nil .nil) .nil)))) (.node (boot_o_2 P) (.node (boot_o_4 P) (.node (boot_o_8 P) (.node o16 (.node o32 .nil .nil) .nil) (.node o24 (.node o40 .nil .nil) .nil)) (.node o12_3 (.node o20 (.node o36 .nil .nil) .nil) (.node o28 (.node o44 .nil .nil) .nil))) (.node (boot_o_6 P) (.node (boot_o_10 P) (.node o18 (.node o34 .nil .nil) .nil) (.node o26 (.node (c_5_0_12 (ledOf P)) .nil .nil) .nil)) (.node o14 (.node o22 (.node o38 .nil .nil) .nil) (.node (c_3_0_5 (ledOf P)) .nil .nil)))))
def S_6 (w : World) (os : OsState) : SharedT := ⟨tree_6 w.params, 46, life0, ⟨[]⟩, ⟨0, 0, 0, 0⟩, 253, os⟩
def o3_7 (P : Params) : Obj := ⟨(.type "dict"), none, (.dict ⟨[⟨PyData.keyHash P (Str.ofString "__name__"), .str (Str.ofString "__name__") 165, (.str (Str.ofString "cpy313.stringprep") 187)⟩, ⟨PyData.keyHash P (Str.ofString "__doc__"), .str (Str.ofString "__doc__") 166, .none⟩, ⟨PyData.keyHash P (Str.ofString "__package__"), .str (Str.ofString "__package__") 167, .none⟩, ⟨PyData.keyHash P (Str.ofString "__loader__"), .str (Str.ofString "__loader__") 168, (.builtin "__main__.__loader__#opaque")⟩, ⟨PyData.keyHash P (Str.ofString "__spec__"), .str (Str.ofString "__spec__") 169, .none⟩, ⟨PyData.keyHash P (Str.ofString "__annotations__"), .str (Str.ofString "__annotations__") 170, (.ref 6)⟩, ⟨PyData.keyHash P (Str.ofString "__builtins__"), .str (Str.ofString "__builtins__") 171, (.ref 4)⟩, ⟨PyData.keyHash P (Str.ofString "__file__"), .str (Str.ofString "__file__") 173, (.str (Str.ofString "/claim/cut.py") 172)⟩, ⟨PyData.keyHash P (Str.ofString "__cached__"), .str (Str.ofString "__cached__") 174, .none⟩, ⟨PyData.keyHash P (Str.ofString "in_table_c11"), .str (Str.ofString "in_table_c11") 195, (.ref 21)⟩, ⟨PyData.keyHash P (Str.ofString "in_table_c4"), .str (Str.ofString "in_table_c4") 203, (.ref 28)⟩, ⟨PyData.keyHash P (Str.ofString "c6_set"), .str (Str.ofString "c6_set") 217, (.ref 30)⟩, ⟨PyData.keyHash P (Str.ofString "in_table_c6"), .str (Str.ofString "in_table_c6") 224, (.ref 40)⟩, ⟨PyData.keyHash P (Str.ofString "c7_set"), .str (Str.ofString "c7_set") 252, (.ref 42)⟩, ⟨PyData.keyHash P (Str.ofString "in_table_c7"), .str (Str.ofString "in_table_c7") 259, (.ref 52)⟩]⟩ 15), ⟨[]⟩⟩
def o12_4 : Obj := ⟨.none, none, (.fields ⟨[(.int 2 0), (.int 0 0), (.ref 20), (.int 4 0), (.int 0 0), (.ref 27), (.int 12 0), (.int 0 0), (.ref 39), (.int 15 0), (.int 0 0), (.ref 51)]⟩), ⟨[]⟩⟩
def o46 : Obj := ⟨(.type "tuple"), none, (.seq ⟨[]⟩ 0), ⟨[]⟩⟩
def o47 : Obj := ⟨.none, none, (.fields ⟨[]⟩), ⟨[]⟩⟩
def o48 : Obj := ⟨(.type "tuple"), none, (.seq ⟨[(.str (Str.ofString "code") 256)]⟩ 0), ⟨[]⟩⟩
def o49 : Obj := ⟨(.type "tuple"), none, (.seq ⟨[]⟩ 0), ⟨[]⟩⟩
def o50 : Obj := fnObj 6 fun a b s => ⟨.none, none, .func ⟨(Str.ofString "in_table_c7"), (Str.ofString "in_table_c7"), a, (.stmts b), s, 0, [], .none, .none, .none, .none, none, .none, .none, 0⟩, ⟨[]⟩⟩
def o51 : Obj := ⟨(.type "code"), none, (.fields ⟨[(.str (Str.ofString "in_table_c7") 253), (.str (Str.ofString "in_table_c7") 254), (.str (Str.ofString "/claim/cut.py") 255), (.int 15 0), (.int 1 0), (.int 0 0), (.int 0 0), (.int 3 0), (.ref 46), (.bool true), (.int 181 0), (.ref 47), .none, (.ref 48), (.ref 49), (.ref 50), (.int 257 0), (.int 15 0), (.str (Str.ofString "/claim/cut.py") 258)]⟩), ⟨[]⟩⟩
def o52 : Obj := fnObj 6 fun a b s => ⟨(.type "function"), none, .func ⟨(Str.ofString "in_table_c7"), (Str.ofString "in_table_c7"), a, (.stmts b), s, 3, [], .none, .none, .none, (.str (Str.ofString "cpy313.stringprep") 187), none, (.ref 51), .none, 0⟩, ⟨[]⟩⟩
def tree_7 (P : Params) : BT := (.node (boot_o_0 P) (.node (boot_o_1 P) (.node (o3_7 P) (.node (boot_o_7 P) (.node o15 (.node i_3_0_5 .nil .nil) (.node o47 .nil .nil)) (.node o23 (.node o39 .nil .nil) .nil)) (.node o11 (.node o19 (.node o35 .nil .nil) (.node o51 .nil .nil)) (.node o27 (.node i_5_0_12 .nil .nil) .nil))) (.node (boot_o_5 P) (.node (boot_o_9 P) (.node o17 (.node o33 .nil .nil) (.node o49 .nil .nil)) (.node o25 (.node o41 .nil .nil) .nil)) (.node o13 (.node o21 (.node o37 .nil .nil) .nil) (.node o29 (.node o45 .nil .nil) .nil)))) (.node (boot_o_2 P) (.node (boot_o_4 P) (.node (boot_o_8 P) (.node o16 (.node o32 .nil .nil) (.node o48 .nil .nil)) (.node o24 (.node o40 .nil .nil) .nil)) (.node o12_4 (.node o20 (.node o36 .nil .nil) (.node o52 .nil .nil)) (.node o28 (.node o44 .nil .nil) .nil))) (.node (boot_o_6 P) (.node (boot_o_10 P) (.node o18 (.node o34 .nil .nil) (.node o50 .nil .nil)) (.node o26 (.node (c_5_0_12 (ledOf P)) .nil .nil) .nil)) (.node o14 (.node o22 (.node o38 .nil .nil) .nil) (.node (c_3_0_5 (ledOf P)) (.node o46 .nil .nil) .nil)))))
def S_7 (w : World) (os : OsState) : SharedT := ⟨tree_7 w.params, 53, life0, ⟨[]⟩, ⟨0, 0, 0, 0⟩, 260, os⟩
def o53 : Obj := ⟨(.type "list"), none, (.seq ⟨[(.int 832 260), (.int 833 261), (.int 8206 262), (.int 8207 263)]⟩ 0), ⟨[]⟩⟩
def o54 : Obj := ⟨(.type "range"), none, (.fields ⟨[(.int 8234 264), (.int 8239 265), (.int 1 266)]⟩), ⟨[]⟩⟩
def loop_7_0 (P : Params) (x y : Obj) : BT := (.node (boot_o_0 P) (.node (boot_o_1 P) (.node (o3_7 P) (.node (boot_o_7 P) (.node o15 (.node i_3_0_5 .nil .nil) (.node o47 .nil .nil)) (.node o23 (.node o39 .nil .nil) (.node x .nil .nil))) (.node o11 (.node o19 (.node o35 .nil .nil) (.node o51 .nil .nil)) (.node o27 (.node i_5_0_12 .nil .nil) .nil))) (.node (boot_o_5 P) (.node (boot_o_9 P) (.node o17 (.node o33 .nil .nil) (.node o49 .nil .nil)) (.node o25 (.node o41 .nil .nil) .nil)) (.node o13 (.node o21 (.node o37 .nil .nil) (.node o53 .nil .nil)) (.node o29 (.node o45 .nil .nil) .nil)))) (.node (boot_o_2 P) (.node (boot_o_4 P) (.node (boot_o_8 P) (.node o16 (.node o32 .nil .nil) (.node o48 .nil .nil)) (.node o24 (.node o40 .nil .nil) (.node y .nil .nil))) (.node o12_4 (.node o20 (.node o36 .nil .nil) (.node o52 .nil .nil)) (.node o28 (.node o44 .nil .nil) .nil))) (.node (boot_o_6 P) (.node (boot_o_10 P) (.node o18 (.node o34 .nil .nil) (.node o50 .nil .nil)) (.node o26 (.node (c_5_0_12 (ledOf P)) .nil .nil) .nil)) (.node o14 (.node o22 (.node o38 .nil .nil) (.node o54 .nil .nil)) (.node (c_3_0_5 (ledOf P)) (.node o46 .nil .nil) .nil)))))
def stk_7_0 (w : World) (os : OsState) : List Frame := stackOf w 90 (S_7 w os) (wholeAt 7 ⟨15, 0, 16, 30⟩)
def c_7_0_0 (b : Bool) : Obj := ⟨(.type "list"), none, (.seq ⟨[]⟩ 2), ⟨[]⟩⟩
def i_7_0_0 : Obj := ⟨(.type "range_iterator"), none, (.fields ⟨[(.int 8234 0), (.int 5 0), (.int 1 0)]⟩), ⟨[]⟩⟩
def S_7_0_0 (b : Bool) (w : World) (os : OsState) : SharedT := ⟨loop_7_0 w.params (c_7_0_0 b) i_7_0_0, 57, life0, ⟨[]⟩, ⟨0, 0, 0, 0⟩, 269, os⟩
def c_7_0_1 (b : Bool) : Obj := ⟨(.type "list"), none, (.seq ⟨[(.int 8234 269)]⟩ 3), ⟨[]⟩⟩
def i_7_0_1 : Obj := ⟨(.type "range_iterator"), none, (.fields ⟨[(.int 8235 0), (.int 4 0), (.int 1 0)]⟩), ⟨[]⟩⟩
def S_7_0_1 (b : Bool) (w : World) (os : OsState) : SharedT := ⟨loop_7_0 w.params (c_7_0_1 b) i_7_0_1, 57, life0, ⟨[]⟩, ⟨0, 0, 0, 0⟩, 270, os⟩
def c_7_0_2 (b : Bool) : Obj := ⟨(.type "list"), none, (.seq ⟨[(.int 8234 269), (.int 8235 270)]⟩ 4), ⟨[]⟩⟩
def i_7_0_2 : Obj := ⟨(.type "range_iterator"), none, (.fields ⟨[(.int 8236 0), (.int 3 0), (.int 1 0)]⟩), ⟨[]⟩⟩
def S_7_0_2 (b : Bool) (w : World) (os : OsState) : SharedT := ⟨loop_7_0 w.params (c_7_0_2 b) i_7_0_2, 57, life0, ⟨[]⟩, ⟨0, 0, 0, 0⟩, 271, os⟩
def c_7_0_3 (b : Bool) : Obj := ⟨(.type "list"), none, (.seq ⟨[(.int 8234 269), (.int 8235 270), (.int 8236 271)]⟩ 5), ⟨[]⟩⟩
def i_7_0_3 : Obj := ⟨(.type "range_iterator"), none, (.fields ⟨[(.int 8237 0), (.int 2 0), (.int 1 0)]⟩), ⟨[]⟩⟩
def S_7_0_3 (b : Bool) (w : World) (os : OsState) : SharedT := ⟨loop_7_0 w.params (c_7_0_3 b) i_7_0_3, 57, life0, ⟨[]⟩, ⟨0, 0, 0, 0⟩, 272, os⟩
def c_7_0_4 (b : Bool) : Obj := ⟨(.type "list"), none, (.seq ⟨[(.int 8234 269), (.int 8235 270), (.int 8236 271), (.int 8237 272)]⟩ 6), ⟨[]⟩⟩
def i_7_0_4 : Obj := ⟨(.type "range_iterator"), none, (.fields ⟨[(.int 8238 0), (.int 1 0), (.int 1 0)]⟩), ⟨[]⟩⟩
def S_7_0_4 (b : Bool) (w : World) (os : OsState) : SharedT := ⟨loop_7_0 w.params (c_7_0_4 b) i_7_0_4, 57, life0, ⟨[]⟩, ⟨0, 0, 0, 0⟩, 273, os⟩
def c_7_0_5 (b : Bool) : Obj := ⟨(.type "list"), none, (.seq ⟨[(.int 8234 269), (.int 8235 270), (.int 8236 271), (.int 8237 272), (.int 8238 273)]⟩ 7), ⟨[]⟩⟩
def i_7_0_5 : Obj := ⟨(.type "range_iterator"), none, (.fields ⟨[(.int 8239 0), (.int 0 0), (.int 1 0)]⟩), ⟨[]⟩⟩
def S_7_0_5 (b : Bool) (w : World) (os : OsState) : SharedT := ⟨loop_7_0 w.params (c_7_0_5 b) i_7_0_5, 57, life0, ⟨[]⟩, ⟨0, 0, 0, 0⟩, 274, os⟩
def o57 : Obj := ⟨(.type "tuple"), none, (.seq ⟨[]⟩ 0), ⟨[]⟩⟩
def o58 : Obj := ⟨(.type "StopIteration"), none, (.fields ⟨[(.ref 57), .none, .none, .none, (.bool false), .none]⟩), ⟨[]⟩⟩
def o59 : Obj := ⟨(.type "list"), none, (.seq ⟨[(.int 832 260), (.int 833 261), (.int 8206 262), (.int 8207 263), (.int 8234 269), (.int 8235 270), (.int 8236 271), (.int 8237 272), (.int 8238 273)]⟩ 0), ⟨[]⟩⟩
def o60 : Obj := ⟨(.type "range"), none, (.fields ⟨[(.int 8298 274), (.int 8304 275), (.int 1 276)]⟩), ⟨[]⟩⟩
def loop_7_1 (P : Params) (x y : Obj) : BT := (.node (boot_o_0 P) (.node (boot_o_1 P) (.node (o3_7 P) (.node (boot_o_7 P) (.node o15 (.node i_3_0_5 .nil .nil) (.node o47 .nil .nil)) (.node o23 (.node o39 .nil .nil) (.node (c_7_0_5 (ledOf P)) .nil .nil))) (.node o11 (.node o19 (.node o35 .nil .nil) (.node o51 .nil .nil)) (.node o27 (.node i_5_0_12 .nil .nil) (.node o59 .nil .nil)))) (.node (boot_o_5 P) (.node (boot_o_9 P) (.node o17 (.node o33 .nil .nil) (.node o49 .nil .nil)) (.node o25 (.node o41 .nil .nil) (.node o57 .nil .nil))) (.node o13 (.node o21 (.node o37 .nil .nil) (.node o53 .nil .nil)) (.node o29 (.node o45 .nil .nil) (.node x .nil .nil))))) (.node (boot_o_2 P) (.node (boot_o_4 P) (.node (boot_o_8 P) (.node o16 (.node o32 .nil .nil) (.node o48 .nil .nil)) (.node o24 (.node o40 .nil .nil) (.node i_7_0_5 .nil .nil))) (.node o12_4 (.node o20 (.node o36 .nil .nil) (.node o52 .nil .nil)) (.node o28 (.node o44 .nil .nil) (.node o60 .nil .nil)))) (.node (boot_o_6 P) (.node (boot_o_10 P) (.node o18 (.node o34 .nil .nil) (.node o50 .nil .nil)) (.node o26 (.node (c_5_0_12 (ledOf P)) .nil .nil) (.node o58 .nil .nil))) (.node o14 (.node o22 (.node o38 .nil .nil) (.node o54 .nil .nil)) (.node (c_3_0_5 (ledOf P)) (.node o46 .nil .nil) (.node y .nil .nil))))))
def stk_7_1 (w : World) (os : OsState) : List Frame := stackOf w 110 ((S_7_0_5 (ledOf w.params)) w os) (loopAt PySem.W.SL.s9316426964554523096x16 ⟨[(.ref 55), (.ref 56), .none], []⟩ ⟨17, 38, 17, 61⟩ (stk_7_0 w os))
def c_7_1_0 (b : Bool) : Obj := ⟨(.type "list"), none, (.seq ⟨[]⟩ 2), ⟨[]⟩⟩
def i_7_1_0 : Obj := ⟨(.type "range_iterator"), none, (.fields ⟨[(.int 8298 0), (.int 6 0), (.int 1 0)]⟩), ⟨[]⟩⟩
def S_7_1_0 (b : Bool) (w : World) (os : OsState) : SharedT := ⟨loop_7_1 w.params (c_7_1_0 b) i_7_1_0, 63, life0, ⟨[]⟩, ⟨0, 0, 0, 0⟩, 279, os⟩
def c_7_1_1 (b : Bool) : Obj := ⟨(.type "list"), none, (.seq ⟨[(.int 8298 279)]⟩ 3), ⟨[]⟩⟩
def i_7_1_1 : Obj := ⟨(.type "range_iterator"), none, (.fields ⟨[(.int 8299 0), (.int 5 0), (.int 1 0)]⟩), ⟨[]⟩⟩
def S_7_1_1 (b : Bool) (w : World) (os : OsState) : SharedT := ⟨loop_7_1 w.params (c_7_1_1 b) i_7_1_1, 63, life0, ⟨[]⟩, ⟨0, 0, 0, 0⟩, 280, os⟩
def c_7_1_2 (b : Bool) : Obj := ⟨(.type "list"), none, (.seq ⟨[(.int 8298 279), (.int 8299 280)]⟩ 4), ⟨[]⟩⟩
def i_7_1_2 : Obj := ⟨(.type "range_iterator"), none, (.fields ⟨[(.int 8300 0), (.int 4 0), (.int 1 0)]⟩), ⟨[]⟩⟩
def S_7_1_2 (b : Bool) (w : World) (os : OsState) : SharedT := ⟨loop_7_1 w.params (c_7_1_2 b) i_7_1_2, 63, life0, ⟨[]⟩, ⟨0, 0, 0, 0⟩, 281, os⟩
def c_7_1_3 (b : Bool) : Obj := ⟨(.type "list"), none, (.seq ⟨[(.int 8298 279), (.int 8299 280), (.int 8300 281)]⟩ 5), ⟨[]⟩⟩
def i_7_1_3 : Obj := ⟨(.type "range_iterator"), none, (.fields ⟨[(.int 8301 0), (.int 3 0), (.int 1 0)]⟩), ⟨[]⟩⟩
def S_7_1_3 (b : Bool) (w : World) (os : OsState) : SharedT := ⟨loop_7_1 w.params (c_7_1_3 b) i_7_1_3, 63, life0, ⟨[]⟩, ⟨0, 0, 0, 0⟩, 282, os⟩
def c_7_1_4 (b : Bool) : Obj := ⟨(.type "list"), none, (.seq ⟨[(.int 8298 279), (.int 8299 280), (.int 8300 281), (.int 8301 282)]⟩ 6), ⟨[]⟩⟩
def i_7_1_4 : Obj := ⟨(.type "range_iterator"), none, (.fields ⟨[(.int 8302 0), (.int 2 0), (.int 1 0)]⟩), ⟨[]⟩⟩
def S_7_1_4 (b : Bool) (w : World) (os : OsState) : SharedT := ⟨loop_7_1 w.params (c_7_1_4 b) i_7_1_4, 63, life0, ⟨[]⟩, ⟨0, 0, 0, 0⟩, 283, os⟩
def c_7_1_5 (b : Bool) : Obj := ⟨(.type "list"), none, (.seq ⟨[(.int 8298 279), (.int 8299 280), (.int 8300 281), (.int 8301 282), (.int 8302 283)]⟩ 7), ⟨[]⟩⟩
def i_7_1_5 : Obj := ⟨(.type "range_iterator"), none, (.fields ⟨[(.int 8303 0), (.int 1 0), (.int 1 0)]⟩), ⟨[]⟩⟩
def S_7_1_5 (b : Bool) (w : World) (os : OsState) : SharedT := ⟨loop_7_1 w.params (c_7_1_5 b) i_7_1_5, 63, life0, ⟨[]⟩, ⟨0, 0, 0, 0⟩, 284, os⟩
def c_7_1_6 (b : Bool) : Obj := ⟨(.type "list"), none, (.seq ⟨[(.int 8298 279), (.int 8299 280), (.int 8300 281), (.int 8301 282), (.int 8302 283), (.int 8303 284)]⟩ 8), ⟨[]⟩⟩
def i_7_1_6 : Obj := ⟨(.type "range_iterator"), none, (.fields ⟨[(.int 8304 0), (.int 0 0), (.int 1 0)]⟩), ⟨[]⟩⟩
def S_7_1_6 (b : Bool) (w : World) (os : OsState) : SharedT := ⟨loop_7_1 w.params (c_7_1_6 b) i_7_1_6, 63, life0, ⟨[]⟩, ⟨0, 0, 0, 0⟩, 285, os⟩
def o63 : Obj := ⟨(.type "tuple"), none, (.seq ⟨[]⟩ 0), ⟨[]⟩⟩
def o64 : Obj := ⟨(.type "StopIteration"), none, (.fields ⟨[(.ref 63), .none, .none, .none, (.bool false), .none]⟩), ⟨[]⟩⟩
def o65 : Obj := ⟨(.type "list"), none, (.seq ⟨[(.int 832 260), (.int 833 261), (.int 8206 262), (.int 8207 263), (.int 8234 269), (.int 8235 270), (.int 8236 271), (.int 8237 272), (.int 8238 273), (.int 8298 279), (.int 8299 280), (.int 8300 281), (.int 8301 282), (.int 8302 283), (.int 8303 284)]⟩ 0), ⟨[]⟩⟩
def loop_7_2 (P : Params) (x y : Obj) : BT := (.node (boot_o_0 P) (.node (boot_o_1 P) (.node (o3_7 P) (.node (boot_o_7 P) (.node o15 (.node i_3_0_5 (.node o63 .nil .nil) .nil) (.node o47 .nil .nil)) (.node o23 (.node o39 .nil .nil) (.node (c_7_0_5 (ledOf P)) .nil .nil))) (.node o11 (.node o19 (.node o35 (.node y .nil .nil) .nil) (.node o51 .nil .nil)) (.node o27 (.node i_5_0_12 .nil .nil) (.node o59 .nil .nil)))) (.node (boot_o_5 P) (.node (boot_o_9 P) (.node o17 (.node o33 (.node o65 .nil .nil) .nil) (.node o49 .nil .nil)) (.node o25 (.node o41 .nil .nil) (.node o57 .nil .nil))) (.node o13 (.node o21 (.node o37 .nil .nil) (.node o53 .nil .nil)) (.node o29 (.node o45 .nil .nil) (.node (c_7_1_6 (ledOf P)) .nil .nil))))) (.node (boot_o_2 P) (.node (boot_o_4 P) (.node (boot_o_8 P) (.node o16 (.node o32 (.node o64 .nil .nil) .nil) (.node o48 .nil .nil)) (.node o24 (.node o40 .nil .nil) (.node i_7_0_5 .nil .nil))) (.node o12_4 (.node o20 (.node o36 .nil .nil) (.node o52 .nil .nil)) (.node o28 (.node o44 .nil .nil) (.node o60 .nil .nil)))) (.node (boot_o_6 P) (.node (boot_o_10 P) (.node o18 (.node o34 (.node x .nil .nil) .nil) (.node o50 .nil .nil)) (.node o26 (.node (c_5_0_12 (ledOf P)) .nil .nil) (.node o58 .nil .nil))) (.node o14 (.node o22 (.node o38 .nil .nil) (.node o54 .nil .nil)) (.node (c_3_0_5 (ledOf P)) (.node o46 .nil .nil) (.node i_7_1_6 .nil .nil))))))
def stk_7_2 (w : World) (os : OsState) : List Frame := stackOf w 59 ((S_7_1_6 (ledOf w.params)) w os) (loopAt PySem.W.SL.s9316426964554523096x16 ⟨[(.ref 61), (.ref 62), .none], []⟩ ⟨17, 64, 17, 87⟩ (stk_7_1 w os))
def c_7_2_0 (b : Bool) : Obj := ⟨(.type "set"), none, (.set ⟨[]⟩ 0 ⟨7, ⟨[]⟩, ⟨[]⟩, 0, b, 0, true⟩), ⟨[]⟩⟩
def i_7_2_0 : Obj := ⟨(.type "list_iterator"), none, (.fields ⟨[(.ref 65), (.int 0 0)]⟩), ⟨[]⟩⟩
def S_7_2_0 (b : Bool) (w : World) (os : OsState) : SharedT := ⟨loop_7_2 w.params (c_7_2_0 b) i_7_2_0, 68, life0, ⟨[]⟩, ⟨0, 0, 0, 0⟩, 285, os⟩
def c_7_2_1 (b : Bool) : Obj := ⟨(.type "set"), none, (.set ⟨[(832, (.int 832 260))]⟩ 1 ⟨7, ⟨[0]⟩, ⟨[]⟩, 0, b, 0, true⟩), ⟨[]⟩⟩
def i_7_2_1 : Obj := ⟨(.type "list_iterator"), none, (.fields ⟨[(.ref 65), (.int 1 0)]⟩), ⟨[]⟩⟩
def S_7_2_1 (b : Bool) (w : World) (os : OsState) : SharedT := ⟨loop_7_2 w.params (c_7_2_1 b) i_7_2_1, 68, life0, ⟨[]⟩, ⟨0, 0, 0, 0⟩, 286, os⟩
def c_7_2_2 (b : Bool) : Obj := ⟨(.type "set"), none, (.set ⟨[(832, (.int 832 260)), (833, (.int 833 261))]⟩ 2 ⟨7, ⟨[0, 1]⟩, ⟨[]⟩, 0, b, 0, true⟩), ⟨[]⟩⟩
def i_7_2_2 : Obj := ⟨(.type "list_iterator"), none, (.fields ⟨[(.ref 65), (.int 2 0)]⟩), ⟨[]⟩⟩
def S_7_2_2 (b : Bool) (w : World) (os : OsState) : SharedT := ⟨loop_7_2 w.params (c_7_2_2 b) i_7_2_2, 68, life0, ⟨[]⟩, ⟨0, 0, 0, 0⟩, 287, os⟩
def c_7_2_3 (b : Bool) : Obj := ⟨(.type "set"), none, (.set ⟨[(832, (.int 832 260)), (833, (.int 833 261)), (8206, (.int 8206 262))]⟩ 3 ⟨7, ⟨[0, 1, 6]⟩, ⟨[]⟩, 0, b, 0, true⟩), ⟨[]⟩⟩
def i_7_2_3 : Obj := ⟨(.type "list_iterator"), none, (.fields ⟨[(.ref 65), (.int 3 0)]⟩), ⟨[]⟩⟩
def S_7_2_3 (b : Bool) (w : World) (os : OsState) : SharedT := ⟨loop_7_2 w.params (c_7_2_3 b) i_7_2_3, 68, life0, ⟨[]⟩, ⟨0, 0, 0, 0⟩, 288, os⟩
def c_7_2_4 (b : Bool) : Obj := ⟨(.type "set"), none, (.set ⟨[(832, (.int 832 260)), (833, (.int 833 261)), (8206, (.int 8206 262)), (8207, (.int 8207 263))]⟩ 4 ⟨7, ⟨[0, 1, 6, 7]⟩, ⟨[]⟩, 0, b, 0, true⟩), ⟨[]⟩⟩
def i_7_2_4 : Obj := ⟨(.type "list_iterator"), none, (.fields ⟨[(.ref 65), (.int 4 0)]⟩), ⟨[]⟩⟩
def S_7_2_4 (b : Bool) (w : World) (os : OsState) : SharedT := ⟨loop_7_2 w.params (c_7_2_4 b) i_7_2_4, 68, life0, ⟨[]⟩, ⟨0, 0, 0, 0⟩, 289, os⟩
def c_7_2_5 (b : Bool) : Obj := ⟨(.type "set"), none, (.set ⟨[(832, (.int 832 260)), (833, (.int 833 261)), (8234, (.int 8234 269)), (8206, (.int 8206 262)), (8207, (.int 8207 263))]⟩ 6 ⟨31, ⟨[0, 1, 10, 14, 15]⟩, ⟨[]⟩, 0, b, 1, true⟩), ⟨[]⟩⟩
def i_7_2_5 : Obj := ⟨(.type "list_iterator"), none, (.fields ⟨[(.ref 65), (.int 5 0)]⟩), ⟨[]⟩⟩
def S_7_2_5 (b : Bool) (w : World) (os : OsState) : SharedT := ⟨loop_7_2 w.params (c_7_2_5 b) i_7_2_5, 68, life0, ⟨[]⟩, ⟨0, 0, 0, 0⟩, 290, os⟩
def c_7_2_6 (b : Bool) : Obj := ⟨(.type "set"), none, (.set ⟨[(832, (.int 832 260)), (833, (.int 833 261)), (8234, (.int 8234 269)), (8235, (.int 8235 270)), (8206, (.int 8206 262)), (8207, (.int 8207 263))]⟩ 7 ⟨31, ⟨[0, 1, 10, 11, 14, 15]⟩, ⟨[]⟩, 0, b, 1, true⟩), ⟨[]⟩⟩
def i_7_2_6 : Obj := ⟨(.type "list_iterator"), none, (.fields ⟨[(.ref 65), (.int 6 0)]⟩), ⟨[]⟩⟩
def S_7_2_6 (b : Bool) (w : World) (os : OsState) : SharedT := ⟨loop_7_2 w.params (c_7_2_6 b) i_7_2_6, 68, life0, ⟨[]⟩, ⟨0, 0, 0, 0⟩, 291, os⟩
def c_7_2_7 (b : Bool) : Obj := ⟨(.type "set"), none, (.set ⟨[(832, (.int 832 260)), (833, (.int 833 261)), (8234, (.int 8234 269)), (8235, (.int 8235 270)), (8236, (.int 8236 271)), (8206, (.int 8206 262)), (8207, (.int 8207 263))]⟩ 8 ⟨31, ⟨[0, 1, 10, 11, 12, 14, 15]⟩, ⟨[]⟩, 0, b, 1, true⟩), ⟨[]⟩⟩
def i_7_2_7 : Obj := ⟨(.type "list_iterator"), none, (.fields ⟨[(.ref 65), (.int 7 0)]⟩), ⟨[]⟩⟩
def S_7_2_7 (b : Bool) (w : World) (os : OsState) : SharedT := ⟨loop_7_2 w.params (c_7_2_7 b) i_7_2_7, 68, life0, ⟨[]⟩, ⟨0, 0, 0, 0⟩, 292, os⟩
def c_7_2_8 (b : Bool) : Obj := ⟨(.type "set"), none, (.set ⟨[(832, (.int 832 260)), (833, (.int 833 261)), (8234, (.int 8234 269)), (8235, (.int 8235 270)), (8236, (.int 8236 271)), (8237, (.int 8237 272)), (8206, (.int 8206 262)), (8207, (.int 8207 263))]⟩ 9 ⟨31, ⟨[0, 1, 10, 11, 12, 13, 14, 15]⟩, ⟨[]⟩, 0, b, 1, true⟩), ⟨[]⟩⟩
def i_7_2_8 : Obj := ⟨(.type "list_iterator"), none, (.fields ⟨[(.ref 65), (.int 8 0)]⟩), ⟨[]⟩⟩
def S_7_2_8 (b : Bool) (w : World) (os : OsState) : SharedT := ⟨loop_7_2 w.params (c_7_2_8 b) i_7_2_8, 68, life0, ⟨[]⟩, ⟨0, 0, 0, 0⟩, 293, os⟩
def c_7_2_9 (b : Bool) : Obj := ⟨(.type "set"), none, (.set ⟨[(832, (.int 832 260)), (833, (.int 833 261)), (8234, (.int 8234 269)), (8235, (.int 8235 270)), (8236, (.int 8236 271)), (8237, (.int 8237 272)), (8206, (.int 8206 262)), (8207, (.int 8207 263)), (8238, (.int 8238 273))]⟩ 10 ⟨31, ⟨[0, 1, 10, 11, 12, 13, 14, 15, 16]⟩, ⟨[]⟩, 0, b, 1, true⟩), ⟨[]⟩⟩
def i_7_2_9 : Obj := ⟨(.type "list_iterator"), none, (.fields ⟨[(.ref 65), (.int 9 0)]⟩), ⟨[]⟩⟩
def S_7_2_9 (b : Bool) (w : World) (os : OsState) : SharedT := ⟨loop_7_2 w.params (c_7_2_9 b) i_7_2_9, 68, life0, ⟨[]⟩, ⟨0, 0, 0, 0⟩, 294, os⟩
def c_7_2_10 (b : Bool) : Obj := ⟨(.type "set"), none, (.set ⟨[(832, (.int 832 260)), (833, (.int 833 261)), (8234, (.int 8234 269)), (8235, (.int 8235 270)), (8236, (.int 8236 271)), (8237, (.int 8237 272)), (8206, (.int 8206 262)), (8207, (.int 8207 263)), (8238, (.int 8238 273)), (8298, (.int 8298 279))]⟩ 11 ⟨31, ⟨[0, 1, 10, 11, 12, 13, 14, 15, 16, 17]⟩, ⟨[]⟩, 0, b, 1, true⟩), ⟨[]⟩⟩
def i_7_2_10 : Obj := ⟨(.type "list_iterator"), none, (.fields ⟨[(.ref 65), (.int 10 0)]⟩), ⟨[]⟩⟩
def S_7_2_10 (b : Bool) (w : World) (os : OsState) : SharedT := ⟨loop_7_2 w.params (c_7_2_10 b) i_7_2_10, 68, life0, ⟨[]⟩, ⟨0, 0, 0, 0⟩, 295, os⟩
def c_7_2_11 (b : Bool) : Obj := ⟨(.type "set"), none, (.set ⟨[(832, (.int 832 260)), (833, (.int 833 261)), (8234, (.int 8234 269)), (8235, (.int 8235 270)), (8236, (.int 8236 271)), (8237, (.int 8237 272)), (8206, (.int 8206 262)), (8207, (.int 8207 263)), (8238, (.int 8238 273)), (8298, (.int 8298 279)), (8299, (.int 8299 280))]⟩ 12 ⟨31, ⟨[0, 1, 10, 11, 12, 13, 14, 15, 16, 17, 18]⟩, ⟨[]⟩, 0, b, 1, true⟩), ⟨[]⟩⟩
def i_7_2_11 : Obj := ⟨(.type "list_iterator"), none, (.fields ⟨[(.ref 65), (.int 11 0)]⟩), ⟨[]⟩⟩
def S_7_2_11 (b : Bool) (w : World) (os : OsState) : SharedT := ⟨loop_7_2 w.params (c_7_2_11 b) i_7_2_11, 68, life0, ⟨[]⟩, ⟨0, 0, 0, 0⟩, 296, os⟩
def c_7_2_12 (b : Bool) : Obj := ⟨(.type "set"), none, (.set ⟨[(832, (.int 832 260)), (833, (.int 833 261)), (8234, (.int 8234 269)), (8235, (.int 8235 270)), (8236, (.int 8236 271)), (8237, (.int 8237 272)), (8206, (.int 8206 262)), (8207, (.int 8207 263)), (8238, (.int 8238 273)), (8298, (.int 8298 279)), (8299, (.int 8299 280)), (8300, (.int 8300 281))]⟩ 13 ⟨31, ⟨[0, 1, 10, 11, 12, 13, 14, 15, 16, 17, 18, 19]⟩, ⟨[]⟩, 0, b, 1, true⟩), ⟨[]⟩⟩
def i_7_2_12 : Obj := ⟨(.type "list_iterator"), none, (.fields ⟨[(.ref 65), (.int 12 0)]⟩), ⟨[]⟩⟩
def S_7_2_12 (b : Bool) (w : World) (os : OsState) : SharedT := ⟨loop_7_2 w.params (c_7_2_12 b) i_7_2_12, 68, life0, ⟨[]⟩, ⟨0, 0, 0, 0⟩, 297, os⟩
def c_7_2_13 (b : Bool) : Obj := ⟨(.type "set"), none, (.set ⟨[(832, (.int 832 260)), (833, (.int 833 261)), (8234, (.int 8234 269)), (8235, (.int 8235 270)), (8236, (.int 8236 271)), (8237, (.int 8237 272)), (8206, (.int 8206 262)), (8207, (.int 8207 263)), (8238, (.int 8238 273)), (8298, (.int 8298 279)), (8299, (.int 8299 280)), (8300, (.int 8300 281)), (8301, (.int 8301 282))]⟩ 14 ⟨31, ⟨[0, 1, 10, 11, 12, 13, 14, 15, 16, 17, 18, 19, 20]⟩, ⟨[]⟩, 0, b, 1, true⟩), ⟨[]⟩⟩
def i_7_2_13 : Obj := ⟨(.type "list_iterator"), none, (.fields ⟨[(.ref 65), (.int 13 0)]⟩), ⟨[]⟩⟩
def S_7_2_13 (b : Bool) (w : World) (os : OsState) : SharedT := ⟨loop_7_2 w.params (c_7_2_13 b) i_7_2_13, 68, life0, ⟨[]⟩, ⟨0, 0, 0, 0⟩, 298, os⟩
def c_7_2_14 (b : Bool) : Obj := ⟨(.type "set"), none, (.set ⟨[(832, (.int 832 260)), (833, (.int 833 261)), (8234, (.int 8234 269)), (8235, (.int 8235 270)), (8236, (.int 8236 271)), (8237, (.int 8237 272)), (8206, (.int 8206 262)), (8207, (.int 8207 263)), (8238, (.int 8238 273)), (8298, (.int 8298 279)), (8299, (.int 8299 280)), (8300, (.int 8300 281)), (8301, (.int 8301 282)), (8302, (.int 8302 283))]⟩ 15 ⟨31, ⟨[0, 1, 10, 11, 12, 13, 14, 15, 16, 17, 18, 19, 20, 21]⟩, ⟨[]⟩, 0, b, 1, true⟩), ⟨[]⟩⟩
def i_7_2_14 : Obj := ⟨(.type "list_iterator"), none, (.fields ⟨[(.ref 65), (.int 14 0)]⟩), ⟨[]⟩⟩
def S_7_2_14 (b : Bool) (w : World) (os : OsState) : SharedT := ⟨loop_7_2 w.params (c_7_2_14 b) i_7_2_14, 68, life0, ⟨[]⟩, ⟨0, 0, 0, 0⟩, 299, os⟩
def c_7_2_15 (b : Bool) : Obj := ⟨(.type "set"), none, (.set ⟨[(832, (.int 832 260)), (833, (.int 833 261)), (8234, (.int 8234 269)), (8235, (.int 8235 270)), (8236, (.int 8236 271)), (8237, (.int 8237 272)), (8206, (.int 8206 262)), (8207, (.int 8207 263)), (8238, (.int 8238 273)), (8298, (.int 8298 279)), (8299, (.int 8299 280)), (8300, (.int 8300 281)), (8301, (.int 8301 282)), (8302, (.int 8302 283)), (8303, (.int 8303 284))]⟩ 16 ⟨31, ⟨[0, 1, 10, 11, 12, 13, 14, 15, 16, 17, 18, 19, 20, 21, 22]⟩, ⟨[]⟩, 0, b, 1, true⟩), ⟨[]⟩⟩
def i_7_2_15 : Obj := ⟨(.type "list_iterator"), none, (.fields ⟨[(.ref 65), (.int 15 0)]⟩), ⟨[]⟩⟩
def S_7_2_15 (b : Bool) (w : World) (os : OsState) : SharedT := ⟨loop_7_2 w.params (c_7_2_15 b) i_7_2_15, 68, life0, ⟨[]⟩, ⟨0, 0, 0, 0⟩, 300, os⟩
def o3_8 (P : Params) : Obj := ⟨(.type "dict"), none, (.dict ⟨[⟨PyData.keyHash P (Str.ofString "__name__"), .str (Str.ofString "__name__") 165, (.str (Str.ofString "cpy313.stringprep") 187)⟩, ⟨PyData.keyHash P (Str.ofString "__doc__"), .str (Str.ofString "__doc__") 166, .none⟩, ⟨PyData.keyHash P (Str.ofString "__package__"), .str (Str.ofString "__package__") 167, .none⟩, ⟨PyData.keyHash P (Str.ofString "__loader__"), .str (Str.ofString "__loader__") 168, (.builtin "__main__.__loader__#opaque")⟩, ⟨PyData.keyHash P (Str.ofString "__spec__"), .str (Str.ofString "__spec__") 169, .none⟩, ⟨PyData.keyHash P (Str.ofString "__annotations__"), .str (Str.ofString "__annotations__") 170, (.ref 6)⟩, ⟨PyData.keyHash P (Str.ofString "__builtins__"), .str (Str.ofString "__builtins__") 171, (.ref 4)⟩, ⟨PyData.keyHash P (Str.ofString "__file__"), .str (Str.ofString "__file__") 173, (.str (Str.ofString "/claim/cut.py") 172)⟩, ⟨PyData.keyHash P (Str.ofString "__cached__"), .str (Str.ofString "__cached__") 174, .none⟩, ⟨PyData.keyHash P (Str.ofString "in_table_c11"), .str (Str.ofString "in_table_c11") 195, (.ref 21)⟩, ⟨PyData.keyHash P (Str.ofString "in_table_c4"), .str (Str.ofString "in_table_c4") 203, (.ref 28)⟩, ⟨PyData.keyHash P (Str.ofString "c6_set"), .str (Str.ofString "c6_set") 217, (.ref 30)⟩, ⟨PyData.keyHash P (Str.ofString "in_table_c6"), .str (Str.ofString "in_table_c6") 224, (.ref 40)⟩, ⟨PyData.keyHash P (Str.ofString "c7_set"), .str (Str.ofString "c7_set") 252, (.ref 42)⟩, ⟨PyData.keyHash P (Str.ofString "in_table_c7"), .str (Str.ofString "in_table_c7") 259, (.ref 52)⟩, ⟨PyData.keyHash P (Str.ofString "c8_set"), .str (Str.ofString "c8_set") 300, (.ref 66)⟩]⟩ 16), ⟨[]⟩⟩
def o67_1 : Obj := ⟨(.type "list_iterator"), none, (.fields ⟨[.none, (.int 15 0)]⟩), ⟨[]⟩⟩
def o68 : Obj := ⟨(.type "tuple"), none, (.seq ⟨[]⟩ 0), ⟨[]⟩⟩
def o69 : Obj := ⟨(.type "StopIteration"), none, (.fields ⟨[(.ref 68), .none, .none, .none, (.bool false), .none]⟩), ⟨[]⟩⟩
def tree_8 (P : Params) : BT := (.node (boot_o_0 P) (.node (boot_o_1 P) (.node (o3_8 P) (.node (boot_o_7 P) (.node o15 (.node i_3_0_5 (.node o63 .nil .nil) .nil) (.node o47 .nil .nil)) (.node o23 (.node o39 .nil .nil) (.node (c_7_0_5 (ledOf P)) .nil .nil))) (.node o11 (.node o19 (.node o35 (.node o67_1 .nil .nil) .nil) (.node o51 .nil .nil)) (.node o27 (.node i_5_0_12 .nil .nil) (.node o59 .nil .nil)))) (.node (boot_o_5 P) (.node (boot_o_9 P) (.node o17 (.node o33 (.node o65 .nil .nil) .nil) (.node o49 .nil .nil)) (.node o25 (.node o41 .nil .nil) (.node o57 .nil .nil))) (.node o13 (.node o21 (.node o37 (.node o69 .nil .nil) .nil) (.node o53 .nil .nil)) (.node o29 (.node o45 .nil .nil) (.node (c_7_1_6 (ledOf P)) .nil .nil))))) (.node (boot_o_2 P) (.node (boot_o_4 P) (.node (boot_o_8 P) (.node o16 (.node o32 (.node o64 .nil .nil) .nil) (.node o48 .nil .nil)) (.node o24 (.node o40 .nil .nil) (.node i_7_0_5 .nil .nil))) (.node o12_4 (.node o20 (.node o36 (.node o68 .nil .nil) .nil) (.node o52 .nil .nil)) (.node o28 (.node o44 .nil .nil) (.node o60 .nil .nil)))) (.node (boot_o_6 P) (.node (boot_o_10 P) (.node o18 (.node o34 (.node (c_7_2_15 (ledOf P)) .nil .nil) .nil) (.node o50 .nil .nil)) (.node o26 (.node (c_5_0_12 (ledOf P)) .nil .nil) (.node o58 .nil .nil))) (.node o14 (.node o22 (.node o38 .nil .nil) (.node o54 .nil .nil)) (.node (c_3_0_5 (ledOf P)) (.node o46 .nil .nil) (.node i_7_1_6 .nil .nil))))))
def S_8 (w : World) (os : OsState) : SharedT := ⟨tree_8 w.params, 70, life0, ⟨[]⟩, ⟨0, 0, 0, 0⟩, 301, os⟩
def o3_9 (P : Params) : Obj := ⟨(.type "dict"), none, (.dict ⟨[⟨PyData.keyHash P (Str.ofString "__name__"), .str (Str.ofString "__name__") 165, (.str (Str.ofString "cpy313.stringprep") 187)⟩, ⟨PyData.keyHash P (Str.ofString "__doc__"), .str (Str.ofString "__doc__") 166, .none⟩, ⟨PyData.keyHash P (Str.ofString "__package__"), .str (Str.ofString "__package__") 167, .none⟩, ⟨PyData.keyHash P (Str.ofString "__loader__"), .str (Str.ofString "__loader__") 168, (.builtin "__main__.__loader__#opaque")⟩, ⟨PyData.keyHash P (Str.ofString "__spec__"), .str (Str.ofString "__spec__") 169, .none⟩, ⟨PyData.keyHash P (Str.ofString "__annotations__"), .str (Str.ofString "__annotations__") 170, (.ref 6)⟩, ⟨PyData.keyHash P (Str.ofString "__builtins__"), .str (Str.ofString "__builtins__") 171, (.ref 4)⟩, ⟨PyData.keyHash P (Str.ofString "__file__"), .str (Str.ofString "__file__") 173, (.str (Str.ofString "/claim/cut.py") 172)⟩, ⟨PyData.keyHash P (Str.ofString "__cached__"), .str (Str.ofString "__cached__") 174, .none⟩, ⟨PyData.keyHash P (Str.ofString "in_table_c11"), .str (Str.ofString "in_table_c11") 195, (.ref 21)⟩, ⟨PyData.keyHash P (Str.ofString "in_table_c4"), .str (Str.ofString "in_table_c4") 203, (.ref 28)⟩, ⟨PyData.keyHash P (Str.ofString "c6_set"), .str (Str.ofString "c6_set") 217, (.ref 30)⟩, ⟨PyData.keyHash P (Str.ofString "in_table_c6"), .str (Str.ofString "in_table_c6") 224, (.ref 40)⟩, ⟨PyData.keyHash P (Str.ofString "c7_set"), .str (Str.ofString "c7_set") 252, (.ref 42)⟩, ⟨PyData.keyHash P (Str.ofString "in_table_c7"), .str (Str.ofString "in_table_c7") 259, (.ref 52)⟩, ⟨PyData.keyHash P (Str.ofString "c8_set"), .str (Str.ofString "c8_set") 300, (.ref 66)⟩, ⟨PyData.keyHash P (Str.ofString "in_table_c8"), .str (Str.ofString "in_table_c8") 307, (.ref 76)⟩]⟩ 17), ⟨[]⟩⟩
def o12_5 : Obj := ⟨.none, none, (.fields ⟨[(.int 2 0), (.int 0 0), (.ref 20), (.int 4 0), (.int 0 0), (.ref 27), (.int 12 0), (.int 0 0), (.ref 39), (.int 15 0), (.int 0 0), (.ref 51), (.int 18 0), (.int 0 0), (.ref 75)]⟩), ⟨[]⟩⟩
def o70 : Obj := ⟨(.type "tuple"), none, (.seq ⟨[]⟩ 0), ⟨[]⟩⟩
def o71 : Obj := ⟨.none, none, (.fields ⟨[]⟩), ⟨[]⟩⟩
def o72 : Obj := ⟨(.type "tuple"), none, (.seq ⟨[(.str (Str.ofString "code") 304)]⟩ 0), ⟨[]⟩⟩
def o73 : Obj := ⟨(.type "tuple"), none, (.seq ⟨[]⟩ 0), ⟨[]⟩⟩
def o74 : Obj := fnObj 8 fun a b s => ⟨.none, none, .func ⟨(Str.ofString "in_table_c8"), (Str.ofString "in_table_c8"), a, (.stmts b), s, 0, [], .none, .none, .none, .none, none, .none, .none, 0⟩, ⟨[]⟩⟩
def o75 : Obj := ⟨(.type "code"), none, (.fields ⟨[(.str (Str.ofString "in_table_c8") 301), (.str (Str.ofString "in_table_c8") 302), (.str (Str.ofString "/claim/cut.py") 303), (.int 18 0), (.int 1 0), (.int 0 0), (.int 0 0), (.int 3 0), (.ref 70), (.bool true), (.int 181 0), (.ref 71), .none, (.ref 72), (.ref 73), (.ref 74), (.int 305 0), (.int 18 0), (.str (Str.ofString "/claim/cut.py") 306)]⟩), ⟨[]⟩⟩
def o76 : Obj := fnObj 8 fun a b s => ⟨(.type "function"), none, .func ⟨(Str.ofString "in_table_c8"), (Str.ofString "in_table_c8"), a, (.stmts b), s, 3, [], .none, .none, .none, (.str (Str.ofString "cpy313.stringprep") 187), none, (.ref 75), .none, 0⟩, ⟨[]⟩⟩
def tree_9 (P : Params) : BT := (.node (boot_o_0 P) (.node (boot_o_1 P) (.node (o3_9 P) (.node (boot_o_7 P) (.node o15 (.node i_3_0_5 (.node o63 .nil .nil) .nil) (.node o47 .nil .nil)) (.node o23 (.node o39 (.node o71 .nil .nil) .nil) (.node (c_7_0_5 (ledOf P)) .nil .nil))) (.node o11 (.node o19 (.node o35 (.node o67_1 .nil .nil) .nil) (.node o51 .nil .nil)) (.node o27 (.node i_5_0_12 (.node o75 .nil .nil) .nil) (.node o59 .nil .nil)))) (.node (boot_o_5 P) (.node (boot_o_9 P) (.node o17 (.node o33 (.node o65 .nil .nil) .nil) (.node o49 .nil .nil)) (.node o25 (.node o41 (.node o73 .nil .nil) .nil) (.node o57 .nil .nil))) (.node o13 (.node o21 (.node o37 (.node o69 .nil .nil) .nil) (.node o53 .nil .nil)) (.node o29 (.node o45 .nil .nil) (.node (c_7_1_6 (ledOf P)) .nil .nil))))) (.node (boot_o_2 P) (.node (boot_o_4 P) (.node (boot_o_8 P) (.node o16 (.node o32 (.node o64 .nil .nil) .nil) (.node o48 .nil .nil)) (.node o24 (.node o40 (.node o72 .nil .nil) .nil) (.node i_7_0_5 .nil .nil))) (.node o12_5 (.node o20 (.node o36 (.node o68 .nil .nil) .nil) (.node o52 .nil .nil)) (.node o28 (.node o44 (.node o76 .nil .nil) .nil) (.node o60 .nil .nil)))) (.node (boot_o_6 P) (.node (boot_o_10 P) (.node o18 (.node o34 (.node (c_7_2_15 (ledOf P)) .nil .nil) .nil) (.node o50 .nil .nil)) (.node o26 (.node (c_5_0_12 (ledOf P)) (.node o74 .nil .nil) .nil) (.node o58 .nil .nil))) (.node o14 (.node o22 (.node o38 (.node o70 .nil .nil) .nil) (.node o54 .nil .nil)) (.node (c_3_0_5 (ledOf P)) (.node o46 .nil .nil) (.node i_7_1_6 .nil .nil))))))
def S_9 (w : World) (os : OsState) : SharedT := ⟨tree_9 w.params, 77, life0, ⟨[]⟩, ⟨0, 0, 0, 0⟩, 308, os⟩
def o77 : Obj := ⟨(.type "list"), none, (.seq ⟨[(.int 917505 308)]⟩ 0), ⟨[]⟩⟩
def o78 : Obj := ⟨(.type "range"), none, (.fields ⟨[(.int 917536 309), (.int 917632 310), (.int 1 311)]⟩), ⟨[]⟩⟩
def loop_9_0 (P : Params) (x y : Obj) : BT := (.node (boot_o_0 P) (.node (boot_o_1 P) (.node (o3_9 P) (.node (boot_o_7 P) (.node o15 (.node i_3_0_5 (.node o63 .nil .nil) .nil) (.node o47 (.node x .nil .nil) .nil)) (.node o23 (.node o39 (.node o71 .nil .nil) .nil) (.node (c_7_0_5 (ledOf P)) .nil .nil))) (.node o11 (.node o19 (.node o35 (.node o67_1 .nil .nil) .nil) (.node o51 .nil .nil)) (.node o27 (.node i_5_0_12 (.node o75 .nil .nil) .nil) (.node o59 .nil .nil)))) (.node (boot_o_5 P) (.node (boot_o_9 P) (.node o17 (.node o33 (.node o65 .nil .nil) .nil) (.node o49 .nil .nil)) (.node o25 (.node o41 (.node o73 .nil .nil) .nil) (.node o57 .nil .nil))) (.node o13 (.node o21 (.node o37 (.node o69 .nil .nil) .nil) (.node o53 .nil .nil)) (.node o29 (.node o45 (.node o77 .nil .nil) .nil) (.node (c_7_1_6 (ledOf P)) .nil .nil))))) (.node (boot_o_2 P) (.node (boot_o_4 P) (.node (boot_o_8 P) (.node o16 (.node o32 (.node o64 .nil .nil) .nil) (.node o48 (.node y .nil .nil) .nil)) (.node o24 (.node o40 (.node o72 .nil .nil) .nil) (.node i_7_0_5 .nil .nil))) (.node o12_5 (.node o20 (.node o36 (.node o68 .nil .nil) .nil) (.node o52 .nil .nil)) (.node o28 (.node o44 (.node o76 .nil .nil) .nil) (.node o60 .nil .nil)))) (.node (boot_o_6 P) (.node (boot_o_10 P) (.node o18 (.node o34 (.node (c_7_2_15 (ledOf P)) .nil .nil) .nil) (.node o50 .nil .nil)) (.node o26 (.node (c_5_0_12 (ledOf P)) (.node o74 .nil .nil) .nil) (.node o58 .nil .nil))) (.node o14 (.node o22 (.node o38 (.node o70 .nil .nil) .nil) (.node o54 .nil .nil)) (.node (c_3_0_5 (ledOf P)) (.node o46 (.node o78 .nil .nil) .nil) (.node i_7_1_6 .nil .nil))))))
def stk_9_0 (w : World) (os : OsState) : List Frame := stackOf w 87 (S_9 w os) (wholeAt 9 ⟨18, 0, 19, 30⟩)
def xs_9_0 : List Value := [(.int 917536 314), (.int 917537 315), (.int 917538 316), (.int 917539 317), (.int 917540 318), (.int 917541 319), (.int 917542 320), (.int 917543 321), (.int 917544 322), (.int 917545 323), (.int 917546 324), (.int 917547 325), (.int 917548 326), (.int 917549 327), (.int 917550 328), (.int 917551 329), (.int 917552 330), (.int 917553 331), (.int 917554 332), (.int 917555 333), (.int 917556 334), (.int 917557 335), (.int 917558 336), (.int 917559 337), (.int 917560 338), (.int 917561 339), (.int 917562 340), (.int 917563 341), (.int 917564 342), (.int 917565 343), (.int 917566 344), (.int 917567 345), (.int 917568 346), (.int 917569 347), (.int 917570 348), (.int 917571 349), (.int 917572 350), (.int 917573 351), (.int 917574 352), (.int 917575 353), (.int 917576 354), (.int 917577 355), (.int 917578 356), (.int 917579 357), (.int 917580 358), (.int 917581 359), (.int 917582 360), (.int 917583 361), (.int 917584 362), (.int 917585 363), (.int 917586 364), (.int 917587 365), (.int 917588 366), (.int 917589 367), (.int 917590 368), (.int 917591 369), (.int 917592 370), (.int 917593 371), (.int 917594 372), (.int 917595 373), (.int 917596 374), (.int 917597 375), (.int 917598 376), (.int 917599 377), (.int 917600 378), (.int 917601 379), (.int 917602 380), (.int 917603 381), (.int 917604 382), (.int 917605 383), (.int 917606 384), (.int 917607 385), (.int 917608 386), (.int 917609 387), (.int 917610 388), (.int 917611 389), (.int 917612 390), (.int 917613 391), (.int 917614 392), (.int 917615 393), (.int 917616 394), (.int 917617 395), (.int 917618 396), (.int 917619 397), (.int 917620 398), (.int 917621 399), (.int 917622 400), (.int 917623 401), (.int 917624 402), (.int 917625 403), (.int 917626 404), (.int 917627 405), (.int 917628 406), (.int 917629 407), (.int 917630 408), (.int 917631 409)]
def c_9_0_0 (b : Bool) : Obj := ⟨(.type "list"), none, (.seq ⟨[]⟩ 2), ⟨[]⟩⟩
def i_9_0_0 : Obj := ⟨(.type "range_iterator"), none, (.fields ⟨[(.int 917536 0), (.int 96 0), (.int 1 0)]⟩), ⟨[]⟩⟩
def S_9_0_0 (b : Bool) (w : World) (os : OsState) : SharedT := ⟨loop_9_0 w.params (c_9_0_0 b) i_9_0_0, 81, life0, ⟨[]⟩, ⟨0, 0, 0, 0⟩, 314, os⟩
def c_9_0_1 (b : Bool) : Obj := ⟨(.type "list"), none, (.seq ⟨[(.int 917536 314)]⟩ 3), ⟨[]⟩⟩
def i_9_0_1 : Obj := ⟨(.type "range_iterator"), none, (.fields ⟨[(.int 917537 0), (.int 95 0), (.int 1 0)]⟩), ⟨[]⟩⟩
def S_9_0_1 (b : Bool) (w : World) (os : OsState) : SharedT := ⟨loop_9_0 w.params (c_9_0_1 b) i_9_0_1, 81, life0, ⟨[]⟩, ⟨0, 0, 0, 0⟩, 315, os⟩
def c_9_0_2 (b : Bool) : Obj := ⟨(.type "list"), none, (.seq ⟨[(.int 917536 314), (.int 917537 315)]⟩ 4), ⟨[]⟩⟩
def i_9_0_2 : Obj := ⟨(.type "range_iterator"), none, (.fields ⟨[(.int 917538 0), (.int 94 0), (.int 1 0)]⟩), ⟨[]⟩⟩
def S_9_0_2 (b : Bool) (w : World) (os : OsState) : SharedT := ⟨loop_9_0 w.params (c_9_0_2 b) i_9_0_2, 81, life0, ⟨[]⟩, ⟨0, 0, 0, 0⟩, 316, os⟩
def c_9_0_3 (b : Bool) : Obj := ⟨(.type "list"), none, (.seq ⟨[(.int 917536 314), (.int 917537 315), (.int 917538 316)]⟩ 5), ⟨[]⟩⟩
def i_9_0_3 : Obj := ⟨(.type "range_iterator"), none, (.fields ⟨[(.int 917539 0), (.int 93 0), (.int 1 0)]⟩), ⟨[]⟩⟩
def S_9_0_3 (b : Bool) (w : World) (os : OsState) : SharedT := ⟨loop_9_0 w.params (c_9_0_3 b) i_9_0_3, 81, life0, ⟨[]⟩, ⟨0, 0, 0, 0⟩, 317, os⟩
def c_9_0_4 (b : Bool) : Obj := ⟨(.type "list"), none, (.seq ⟨xs_9_0.take 4⟩ 6), ⟨[]⟩⟩
def i_9_0_4 : Obj := ⟨(.type "range_iterator"), none, (.fields ⟨[(.int 917540 0), (.int 92 0), (.int 1 0)]⟩), ⟨[]⟩⟩
def S_9_0_4 (b : Bool) (w : World) (os : OsState) : SharedT := ⟨loop_9_0 w.params (c_9_0_4 b) i_9_0_4, 81, life0, ⟨[]⟩, ⟨0, 0, 0, 0⟩, 318, os⟩
def c_9_0_5 (b : Bool) : Obj := ⟨(.type "list"), none, (.seq ⟨xs_9_0.take 5⟩ 7), ⟨[]⟩⟩
def i_9_0_5 : Obj := ⟨(.type "range_iterator"), none, (.fields ⟨[(.int 917541 0), (.int 91 0), (.int 1 0)]⟩), ⟨[]⟩⟩
def S_9_0_5 (b : Bool) (w : World) (os : OsState) : SharedT := ⟨loop_9_0 w.params (c_9_0_5 b) i_9_0_5, 81, life0, ⟨[]⟩, ⟨0, 0, 0, 0⟩, 319, os⟩
def c_9_0_6 (b : Bool) : Obj := ⟨(.type "list"), none, (.seq ⟨xs_9_0.take 6⟩ 8), ⟨[]⟩⟩
def i_9_0_6 : Obj := ⟨(.type "range_iterator"), none, (.fields ⟨[(.int 917542 0), (.int 90 0), (.int 1 0)]⟩), ⟨[]⟩⟩
def S_9_0_6 (b : Bool) (w : World) (os : OsState) : SharedT := ⟨loop_9_0 w.params (c_9_0_6 b) i_9_0_6, 81, life0, ⟨[]⟩, ⟨0, 0, 0, 0⟩, 320, os⟩
def c_9_0_7 (b : Bool) : Obj := ⟨(.type "list"), none, (.seq ⟨xs_9_0.take 7⟩ 9), ⟨[]⟩⟩
def i_9_0_7 : Obj := ⟨(.type "range_iterator"), none, (.fields ⟨[(.int 917543 0), (.int 89 0), (.int 1 0)]⟩), ⟨[]⟩⟩
def S_9_0_7 (b : Bool) (w : World) (os : OsState) : SharedT := ⟨loop_9_0 w.params (c_9_0_7 b) i_9_0_7, 81, life0, ⟨[]⟩, ⟨0, 0, 0, 0⟩, 321, os⟩
def c_9_0_8 (b : Bool) : Obj := ⟨(.type "list"), none, (.seq ⟨xs_9_0.take 8⟩ 10), ⟨[]⟩⟩
def i_9_0_8 : Obj := ⟨(.type "range_iterator"), none, (.fields ⟨[(.int 917544 0), (.int 88 0), (.int 1 0)]⟩), ⟨[]⟩⟩
def S_9_0_8 (b : Bool) (w : World) (os : OsState) : SharedT := ⟨loop_9_0 w.params (c_9_0_8 b) i_9_0_8, 81, life0, ⟨[]⟩, ⟨0, 0, 0, 0⟩, 322, os⟩
def c_9_0_9 (b : Bool) : Obj := ⟨(.type "list"), none, (.seq ⟨xs_9_0.take 9⟩ 11), ⟨[]⟩⟩
def i_9_0_9 : Obj := ⟨(.type "range_iterator"), none, (.fields ⟨[(.int 917545 0), (.int 87 0), (.int 1 0)]⟩), ⟨[]⟩⟩
def S_9_0_9 (b : Bool) (w : World) (os : OsState) : SharedT := ⟨loop_9_0 w.params (c_9_0_9 b) i_9_0_9, 81, life0, ⟨[]⟩, ⟨0, 0, 0, 0⟩, 323, os⟩
def c_9_0_10 (b : Bool) : Obj := ⟨(.type "list"), none, (.seq ⟨xs_9_0.take 10⟩ 12), ⟨[]⟩⟩
def i_9_0_10 : Obj := ⟨(.type "range_iterator"), none, (.fields ⟨[(.int 917546 0), (.int 86 0), (.int 1 0)]⟩), ⟨[]⟩⟩
def S_9_0_10 (b : Bool) (w : World) (os : OsState) : SharedT := ⟨loop_9_0 w.params (c_9_0_10 b) i_9_0_10, 81, life0, ⟨[]⟩, ⟨0, 0, 0, 0⟩, 324, os⟩
def c_9_0_11 (b : Bool) : Obj := ⟨(.type "list"), none, (.seq ⟨xs_9_0.take 11⟩ 13), ⟨[]⟩⟩
def i_9_0_11 : Obj := ⟨(.type "range_iterator"), none, (.fields ⟨[(.int 917547 0), (.int 85 0), (.int 1 0)]⟩), ⟨[]⟩⟩
def S_9_0_11 (b : Bool) (w : World) (os : OsState) : SharedT := ⟨loop_9_0 w.params (c_9_0_11 b) i_9_0_11, 81, life0, ⟨[]⟩, ⟨0, 0, 0, 0⟩, 325, os⟩
def c_9_0_12 (b : Bool) : Obj := ⟨(.type "list"), none, (.seq ⟨xs_9_0.take 12⟩ 14), ⟨[]⟩⟩
def i_9_0_12 : Obj := ⟨(.type "range_iterator"), none, (.fields ⟨[(.int 917548 0), (.int 84 0), (.int 1 0)]⟩), ⟨[]⟩⟩
def S_9_0_12 (b : Bool) (w : World) (os : OsState) : SharedT := ⟨loop_9_0 w.params (c_9_0_12 b) i_9_0_12, 81, life0, ⟨[]⟩, ⟨0, 0, 0, 0⟩, 326, os⟩
def c_9_0_13 (b : Bool) : Obj := ⟨(.type "list"), none, (.seq ⟨xs_9_0.take 13⟩ 15), ⟨[]⟩⟩
def i_9_0_13 : Obj := ⟨(.type "range_iterator"), none, (.fields ⟨[(.int 917549 0), (.int 83 0), (.int 1 0)]⟩), ⟨[]⟩⟩
def S_9_0_13 (b : Bool) (w : World) (os : OsState) : SharedT := ⟨loop_9_0 w.params (c_9_0_13 b) i_9_0_13, 81, life0, ⟨[]⟩, ⟨0, 0, 0, 0⟩, 327, os⟩
def c_9_0_14 (b : Bool) : Obj := ⟨(.type "list"), none, (.seq ⟨xs_9_0.take 14⟩ 16), ⟨[]⟩⟩
def i_9_0_14 : Obj := ⟨(.type "range_iterator"), none, (.fields ⟨[(.int 917550 0), (.int 82 0), (.int 1 0)]⟩), ⟨[]⟩⟩
def S_9_0_14 (b : Bool) (w : World) (os : OsState) : SharedT := ⟨loop_9_0 w.params (c_9_0_14 b) i_9_0_14, 81, life0, ⟨[]⟩, ⟨0, 0, 0, 0⟩, 328, os⟩
def c_9_0_15 (b : Bool) : Obj := ⟨(.type "list"), none, (.seq ⟨xs_9_0.take 15⟩ 17), ⟨[]⟩⟩
def i_9_0_15 : Obj := ⟨(.type "range_iterator"), none, (.fields ⟨[(.int 917551 0), (.int 81 0), (.int 1 0)]⟩), ⟨[]⟩⟩
def S_9_0_15 (b : Bool) (w : World) (os : OsState) : SharedT := ⟨loop_9_0 w.params (c_9_0_15 b) i_9_0_15, 81, life0, ⟨[]⟩, ⟨0, 0, 0, 0⟩, 329, os⟩
def c_9_0_16 (b : Bool) : Obj := ⟨(.type "list"), none, (.seq ⟨xs_9_0.take 16⟩ 18), ⟨[]⟩⟩
def i_9_0_16 : Obj := ⟨(.type "range_iterator"), none, (.fields ⟨[(.int 917552 0), (.int 80 0), (.int 1 0)]⟩), ⟨[]⟩⟩
def S_9_0_16 (b : Bool) (w : World) (os : OsState) : SharedT := ⟨loop_9_0 w.params (c_9_0_16 b) i_9_0_16, 81, life0, ⟨[]⟩, ⟨0, 0, 0, 0⟩, 330, os⟩
def c_9_0_17 (b : Bool) : Obj := ⟨(.type "list"), none, (.seq ⟨xs_9_0.take 17⟩ 19), ⟨[]⟩⟩
def i_9_0_17 : Obj := ⟨(.type "range_iterator"), none, (.fields ⟨[(.int 917553 0), (.int 79 0), (.int 1 0)]⟩), ⟨[]⟩⟩
def S_9_0_17 (b : Bool) (w : World) (os : OsState) : SharedT := ⟨loop_9_0 w.params (c_9_0_17 b) i_9_0_17, 81, life0, ⟨[]⟩, ⟨0, 0, 0, 0⟩, 331, os⟩
def c_9_0_18 (b : Bool) : Obj := ⟨(.type "list"), none, (.seq ⟨xs_9_0.take 18⟩ 20), ⟨[]⟩⟩
def i_9_0_18 : Obj := ⟨(.type "range_iterator"), none, (.fields ⟨[(.int 917554 0), (.int 78 0), (.int 1 0)]⟩), ⟨[]⟩⟩
def S_9_0_18 (b : Bool) (w : World) (os : OsState) : SharedT := ⟨loop_9_0 w.params (c_9_0_18 b) i_9_0_18, 81, life0, ⟨[]⟩, ⟨0, 0, 0, 0⟩, 332, os⟩
def c_9_0_19 (b : Bool) : Obj := ⟨(.type "list"), none, (.seq ⟨xs_9_0.take 19⟩ 21), ⟨[]⟩⟩
def i_9_0_19 : Obj := ⟨(.type "range_iterator"), none, (.fields ⟨[(.int 917555 0), (.int 77 0), (.int 1 0)]⟩), ⟨[]⟩⟩
def S_9_0_19 (b : Bool) (w : World) (os : OsState) : SharedT := ⟨loop_9_0 w.params (c_9_0_19 b) i_9_0_19, 81, life0, ⟨[]⟩, ⟨0, 0, 0, 0⟩, 333, os⟩
def c_9_0_20 (b : Bool) : Obj := ⟨(.type "list"), none, (.seq ⟨xs_9_0.take 20⟩ 22), ⟨[]⟩⟩
def i_9_0_20 : Obj := ⟨(.type "range_iterator"), none, (.fields ⟨[(.int 917556 0), (.int 76 0), (.int 1 0)]⟩), ⟨[]⟩⟩
def S_9_0_20 (b : Bool) (w : World) (os : OsState) : SharedT := ⟨loop_9_0 w.params (c_9_0_20 b) i_9_0_20, 81, life0, ⟨[]⟩, ⟨0, 0, 0, 0⟩, 334, os⟩
def c_9_0_21 (b : Bool) : Obj := ⟨(.type "list"), none, (.seq ⟨xs_9_0.take 21⟩ 23), ⟨[]⟩⟩
def i_9_0_21 : Obj := ⟨(.type "range_iterator"), none, (.fields ⟨[(.int 917557 0), (.int 75 0), (.int 1 0)]⟩), ⟨[]⟩⟩
def S_9_0_21 (b : Bool) (w : World) (os : OsState) : SharedT := ⟨loop_9_0 w.params (c_9_0_21 b) i_9_0_21, 81, life0, ⟨[]⟩, ⟨0, 0, 0, 0⟩, 335, os⟩
def c_9_0_22 (b : Bool) : Obj := ⟨(.type "list"), none, (.seq ⟨xs_9_0.take 22⟩ 24), ⟨[]⟩⟩
def i_9_0_22 : Obj := ⟨(.type "range_iterator"), none, (.fields ⟨[(.int 917558 0), (.int 74 0), (.int 1 0)]⟩), ⟨[]⟩⟩
def S_9_0_22 (b : Bool) (w : World) (os : OsState) : SharedT := ⟨loop_9_0 w.params (c_9_0_22 b) i_9_0_22, 81, life0, ⟨[]⟩, ⟨0, 0, 0, 0⟩, 336, os⟩
def c_9_0_23 (b : Bool) : Obj := ⟨(.type "list"), none, (.seq ⟨xs_9_0.take 23⟩ 25), ⟨[]⟩⟩
def i_9_0_23 : Obj := ⟨(.type "range_iterator"), none, (.fields ⟨[(.int 917559 0), (.int 73 0), (.int 1 0)]⟩), ⟨[]⟩⟩
def S_9_0_23 (b : Bool) (w : World) (os : OsState) : SharedT := ⟨loop_9_0 w.params (c_9_0_23 b) i_9_0_23, 81, life0, ⟨[]⟩, ⟨0, 0, 0, 0⟩, 337, os⟩
def c_9_0_24 (b : Bool) : Obj := ⟨(.type "list"), none, (.seq ⟨xs_9_0.take 24⟩ 26), ⟨[]⟩⟩
def i_9_0_24 : Obj := ⟨(.type "range_iterator"), none, (.fields ⟨[(.int 917560 0), (.int 72 0), (.int 1 0)]⟩), ⟨[]⟩⟩
def S_9_0_24 (b : Bool) (w : World) (os : OsState) : SharedT := ⟨loop_9_0 w.params (c_9_0_24 b) i_9_0_24, 81, life0, ⟨[]⟩, ⟨0, 0, 0, 0⟩, 338, os⟩
def c_9_0_25 (b : Bool) : Obj := ⟨(.type "list"), none, (.seq ⟨xs_9_0.take 25⟩ 27), ⟨[]⟩⟩
def i_9_0_25 : Obj := ⟨(.type "range_iterator"), none, (.fields ⟨[(.int 917561 0), (.int 71 0), (.int 1 0)]⟩), ⟨[]⟩⟩
def S_9_0_25 (b : Bool) (w : World) (os : OsState) : SharedT := ⟨loop_9_0 w.params (c_9_0_25 b) i_9_0_25, 81, life0, ⟨[]⟩, ⟨0, 0, 0, 0⟩, 339, os⟩
def c_9_0_26 (b : Bool) : Obj := ⟨(.type "list"), none, (.seq ⟨xs_9_0.take 26⟩ 28), ⟨[]⟩⟩
def i_9_0_26 : Obj := ⟨(.type "range_iterator"), none, (.fields ⟨[(.int 917562 0), (.int 70 0), (.int 1 0)]⟩), ⟨[]⟩⟩
def S_9_0_26 (b : Bool) (w : World) (os : OsState) : SharedT := ⟨loop_9_0 w.params (c_9_0_26 b) i_9_0_26, 81, life0, ⟨[]⟩, ⟨0, 0, 0, 0⟩, 340, os⟩
def c_9_0_27 (b : Bool) : Obj := ⟨(.type "list"), none, (.seq ⟨xs_9_0.take 27⟩ 29), ⟨[]⟩⟩
def i_9_0_27 : Obj := ⟨(.type "range_iterator"), none, (.fields ⟨[(.int 917563 0), (.int 69 0), (.int 1 0)]⟩), ⟨[]⟩⟩
def S_9_0_27 (b : Bool) (w : World) (os : OsState) : SharedT := ⟨loop_9_0 w.params (c_9_0_27 b) i_9_0_27, 81, life0, ⟨[]⟩, ⟨0, 0, 0, 0⟩, 341, os⟩
def c_9_0_28 (b : Bool) : Obj := ⟨(.type "list"), none, (.seq ⟨xs_9_0.take 28⟩ 30), ⟨[]⟩⟩
def i_9_0_28 : Obj := ⟨(.type "range_iterator"), none, (.fields ⟨[(.int 917564 0), (.int 68 0), (.int 1 0)]⟩), ⟨[]⟩⟩
def S_9_0_28 (b : Bool) (w : World) (os : OsState) : SharedT := ⟨loop_9_0 w.params (c_9_0_28 b) i_9_0_28, 81, life0, ⟨[]⟩, ⟨0, 0, 0, 0⟩, 342, os⟩
def c_9_0_29 (b : Bool) : Obj := ⟨(.type "list"), none, (.seq ⟨xs_9_0.take 29⟩ 31), ⟨[]⟩⟩
def i_9_0_29 : Obj := ⟨(.type "range_iterator"), none, (.fields ⟨[(.int 917565 0), (.int 67 0), (.int 1 0)]⟩), ⟨[]⟩⟩
def S_9_0_29 (b : Bool) (w : World) (os : OsState) : SharedT := ⟨loop_9_0 w.params (c_9_0_29 b) i_9_0_29, 81, life0, ⟨[]⟩, ⟨0, 0, 0, 0⟩, 343, os⟩
def c_9_0_30 (b : Bool) : Obj := ⟨(.type "list"), none, (.seq ⟨xs_9_0.take 30⟩ 32), ⟨[]⟩⟩
def i_9_0_30 : Obj := ⟨(.type "range_iterator"), none, (.fields ⟨[(.int 917566 0), (.int 66 0), (.int 1 0)]⟩), ⟨[]⟩⟩
def S_9_0_30 (b : Bool) (w : World) (os : OsState) : SharedT := ⟨loop_9_0 w.params (c_9_0_30 b) i_9_0_30, 81, life0, ⟨[]⟩, ⟨0, 0, 0, 0⟩, 344, os⟩
def c_9_0_31 (b : Bool) : Obj := ⟨(.type "list"), none, (.seq ⟨xs_9_0.take 31⟩ 33), ⟨[]⟩⟩
def i_9_0_31 : Obj := ⟨(.type "range_iterator"), none, (.fields ⟨[(.int 917567 0), (.int 65 0), (.int 1 0)]⟩), ⟨[]⟩⟩
def S_9_0_31 (b : Bool) (w : World) (os : OsState) : SharedT := ⟨loop_9_0 w.params (c_9_0_31 b) i_9_0_31, 81, life0, ⟨[]⟩, ⟨0, 0, 0, 0⟩, 345, os⟩
def c_9_0_32 (b : Bool) : Obj := ⟨(.type "list"), none, (.seq ⟨xs_9_0.take 32⟩ 34), ⟨[]⟩⟩
def i_9_0_32 : Obj := ⟨(.type "range_iterator"), none, (.fields ⟨[(.int 917568 0), (.int 64 0), (.int 1 0)]⟩), ⟨[]⟩⟩
def S_9_0_32 (b : Bool) (w : World) (os : OsState) : SharedT := ⟨loop_9_0 w.params (c_9_0_32 b) i_9_0_32, 81, life0, ⟨[]⟩, ⟨0, 0, 0, 0⟩, 346, os⟩
def c_9_0_33 (b : Bool) : Obj := ⟨(.type "list"), none, (.seq ⟨xs_9_0.take 33⟩ 35), ⟨[]⟩⟩
def i_9_0_33 : Obj := ⟨(.type "range_iterator"), none, (.fields ⟨[(.int 917569 0), (.int 63 0), (.int 1 0)]⟩), ⟨[]⟩⟩
def S_9_0_33 (b : Bool) (w : World) (os : OsState) : SharedT := ⟨loop_9_0 w.params (c_9_0_33 b) i_9_0_33, 81, life0, ⟨[]⟩, ⟨0, 0, 0, 0⟩, 347, os⟩
def c_9_0_34 (b : Bool) : Obj := ⟨(.type "list"), none, (.seq ⟨xs_9_0.take 34⟩ 36), ⟨[]⟩⟩
def i_9_0_34 : Obj := ⟨(.type "range_iterator"), none, (.fields ⟨[(.int 917570 0), (.int 62 0), (.int 1 0)]⟩), ⟨[]⟩⟩
def S_9_0_34 (b : Bool) (w : World) (os : OsState) : SharedT := ⟨loop_9_0 w.params (c_9_0_34 b) i_9_0_34, 81, life0, ⟨[]⟩, ⟨0, 0, 0, 0⟩, 348, os⟩
def c_9_0_35 (b : Bool) : Obj := ⟨(.type "list"), none, (.seq ⟨xs_9_0.take 35⟩ 37), ⟨[]⟩⟩
def i_9_0_35 : Obj := ⟨(.type "range_iterator"), none, (.fields ⟨[(.int 917571 0), (.int 61 0), (.int 1 0)]⟩), ⟨[]⟩⟩
def S_9_0_35 (b : Bool) (w : World) (os : OsState) : SharedT := ⟨loop_9_0 w.params (c_9_0_35 b) i_9_0_35, 81, life0, ⟨[]⟩, ⟨0, 0, 0, 0⟩, 349, os⟩
def c_9_0_36 (b : Bool) : Obj := ⟨(.type "list"), none, (.seq ⟨xs_9_0.take 36⟩ 38), ⟨[]⟩⟩
def i_9_0_36 : Obj := ⟨(.type "range_iterator"), none, (.fields ⟨[(.int 917572 0), (.int 60 0), (.int 1 0)]⟩), ⟨[]⟩⟩
def S_9_0_36 (b : Bool) (w : World) (os : OsState) : SharedT := ⟨loop_9_0 w.params (c_9_0_36 b) i_9_0_36, 81, life0, ⟨[]⟩, ⟨0, 0, 0, 0⟩, 350, os⟩
def c_9_0_37 (b : Bool) : Obj := ⟨(.type "list"), none, (.seq ⟨xs_9_0.take 37⟩ 39), ⟨[]⟩⟩
def i_9_0_37 : Obj := ⟨(.type "range_iterator"), none, (.fields ⟨[(.int 917573 0), (.int 59 0), (.int 1 0)]⟩), ⟨[]⟩⟩
def S_9_0_37 (b : Bool) (w : World) (os : OsState) : SharedT := ⟨loop_9_0 w.params (c_9_0_37 b) i_9_0_37, 81, life0, ⟨[]⟩, ⟨0, 0, 0, 0⟩, 351, os⟩
def c_9_0_38 (b : Bool) : Obj := ⟨(.type "list"), none, (.seq ⟨xs_9_0.take 38⟩ 40), ⟨[]⟩⟩
def i_9_0_38 : Obj := ⟨(.type "range_iterator"), none, (.fields ⟨[(.int 917574 0), (.int 58 0), (.int 1 0)]⟩), ⟨[]⟩⟩
def S_9_0_38 (b : Bool) (w : World) (os : OsState) : SharedT := ⟨loop_9_0 w.params (c_9_0_38 b) i_9_0_38, 81, life0, ⟨[]⟩, ⟨0, 0, 0, 0⟩, 352, os⟩
def c_9_0_39 (b : Bool) : Obj := ⟨(.type "list"), none, (.seq ⟨xs_9_0.take 39⟩ 41), ⟨[]⟩⟩
def i_9_0_39 : Obj := ⟨(.type "range_iterator"), none, (.fields ⟨[(.int 917575 0), (.int 57 0), (.int 1 0)]⟩), ⟨[]⟩⟩
def S_9_0_39 (b : Bool) (w : World) (os : OsState) : SharedT := ⟨loop_9_0 w.params (c_9_0_39 b) i_9_0_39, 81, life0, ⟨[]⟩, ⟨0, 0, 0, 0⟩, 353, os⟩
def c_9_0_40 (b : Bool) : Obj := ⟨(.type "list"), none, (.seq ⟨xs_9_0.take 40⟩ 42), ⟨[]⟩⟩
def i_9_0_40 : Obj := ⟨(.type "range_iterator"), none, (.fields ⟨[(.int 917576 0), (.int 56 0), (.int 1 0)]⟩), ⟨[]⟩⟩
def S_9_0_40 (b : Bool) (w : World) (os : OsState) : SharedT := ⟨loop_9_0 w.params (c_9_0_40 b) i_9_0_40, 81, life0, ⟨[]⟩, ⟨0, 0, 0, 0⟩, 354, os⟩
def c_9_0_41 (b : Bool) : Obj := ⟨(.type "list"), none, (.seq ⟨xs_9_0.take 41⟩ 43), ⟨[]⟩⟩
def i_9_0_41 : Obj := ⟨(.type "range_iterator"), none, (.fields ⟨[(.int 917577 0), (.int 55 0), (.int 1 0)]⟩), ⟨[]⟩⟩
def S_9_0_41 (b : Bool) (w : World) (os : OsState) : SharedT := ⟨loop_9_0 w.params (c_9_0_41 b) i_9_0_41, 81, life0, ⟨[]⟩, ⟨0, 0, 0, 0⟩, 355, os⟩
def c_9_0_42 (b : Bool) : Obj := ⟨(.type "list"), none, (.seq ⟨xs_9_0.take 42⟩ 44), ⟨[]⟩⟩
def i_9_0_42 : Obj := ⟨(.type "range_iterator"), none, (.fields ⟨[(.int 917578 0), (.int 54 0), (.int 1 0)]⟩), ⟨[]⟩⟩
def S_9_0_42 (b : Bool) (w : World) (os : OsState) : SharedT := ⟨loop_9_0 w.params (c_9_0_42 b) i_9_0_42, 81, life0, ⟨[]⟩, ⟨0, 0, 0, 0⟩, 356, os⟩
def c_9_0_43 (b : Bool) : Obj := ⟨(.type "list"), none, (.seq ⟨xs_9_0.take 43⟩ 45), ⟨[]⟩⟩
def i_9_0_43 : Obj := ⟨(.type "range_iterator"), none, (.fields ⟨[(.int 917579 0), (.int 53 0), (.int 1 0)]⟩), ⟨[]⟩⟩
def S_9_0_43 (b : Bool) (w : World) (os : OsState) : SharedT := ⟨loop_9_0 w.params (c_9_0_43 b) i_9_0_43, 81, life0, ⟨[]⟩, ⟨0, 0, 0, 0⟩, 357, os⟩
def c_9_0_44 (b : Bool) : Obj := ⟨(.type "list"), none, (.seq ⟨xs_9_0.take 44⟩ 46), ⟨[]⟩⟩
def i_9_0_44 : Obj := ⟨(.type "range_iterator"), none, (.fields ⟨[(.int 917580 0), (.int 52 0), (.int 1 0)]⟩), ⟨[]⟩⟩
def S_9_0_44 (b : Bool) (w : World) (os : OsState) : SharedT := ⟨loop_9_0 w.params (c_9_0_44 b) i_9_0_44, 81, life0, ⟨[]⟩, ⟨0, 0, 0, 0⟩, 358, os⟩
def c_9_0_45 (b : Bool) : Obj := ⟨(.type "list"), none, (.seq ⟨xs_9_0.take 45⟩ 47), ⟨[]⟩⟩
def i_9_0_45 : Obj := ⟨(.type "range_iterator"), none, (.fields ⟨[(.int 917581 0), (.int 51 0), (.int 1 0)]⟩), ⟨[]⟩⟩
def S_9_0_45 (b : Bool) (w : World) (os : OsState) : SharedT := ⟨loop_9_0 w.params (c_9_0_45 b) i_9_0_45, 81, life0, ⟨[]⟩, ⟨0, 0, 0, 0⟩, 359, os⟩
def c_9_0_46 (b : Bool) : Obj := ⟨(.type "list"), none, (.seq ⟨xs_9_0.take 46⟩ 48), ⟨[]⟩⟩
def i_9_0_46 : Obj := ⟨(.type "range_iterator"), none, (.fields ⟨[(.int 917582 0), (.int 50 0), (.int 1 0)]⟩), ⟨[]⟩⟩
def S_9_0_46 (b : Bool) (w : World) (os : OsState) : SharedT := ⟨loop_9_0 w.params (c_9_0_46 b) i_9_0_46, 81, life0, ⟨[]⟩, ⟨0, 0, 0, 0⟩, 360, os⟩
def c_9_0_47 (b : Bool) : Obj := ⟨(.type "list"), none, (.seq ⟨xs_9_0.take 47⟩ 49), ⟨[]⟩⟩
def i_9_0_47 : Obj := ⟨(.type "range_iterator"), none, (.fields ⟨[(.int 917583 0), (.int 49 0), (.int 1 0)]⟩), ⟨[]⟩⟩
def S_9_0_47 (b : Bool) (w : World) (os : OsState) : SharedT := ⟨loop_9_0 w.params (c_9_0_47 b) i_9_0_47, 81, life0, ⟨[]⟩, ⟨0, 0, 0, 0⟩, 361, os⟩
def c_9_0_48 (b : Bool) : Obj := ⟨(.type "list"), none, (.seq ⟨xs_9_0.take 48⟩ 50), ⟨[]⟩⟩
def i_9_0_48 : Obj := ⟨(.type "range_iterator"), none, (.fields ⟨[(.int 917584 0), (.int 48 0), (.int 1 0)]⟩), ⟨[]⟩⟩
def S_9_0_48 (b : Bool) (w : World) (os : OsState) : SharedT := ⟨loop_9_0 w.params (c_9_0_48 b) i_9_0_48, 81, life0, ⟨[]⟩, ⟨0, 0, 0, 0⟩, 362, os⟩
def c_9_0_49 (b : Bool) : Obj := ⟨(.type "list"), none, (.seq ⟨xs_9_0.take 49⟩ 51), ⟨[]⟩⟩
def i_9_0_49 : Obj := ⟨(.type "range_iterator"), none, (.fields ⟨[(.int 917585 0), (.int 47 0), (.int 1 0)]⟩), ⟨[]⟩⟩
def S_9_0_49 (b : Bool) (w : World) (os : OsState) : SharedT := ⟨loop_9_0 w.params (c_9_0_49 b) i_9_0_49, 81, life0, ⟨[]⟩, ⟨0, 0, 0, 0⟩, 363, os⟩
def c_9_0_50 (b : Bool) : Obj := ⟨(.type "list"), none, (.seq ⟨xs_9_0.take 50⟩ 52), ⟨[]⟩⟩
def i_9_0_50 : Obj := ⟨(.type "range_iterator"), none, (.fields ⟨[(.int 917586 0), (.int 46 0), (.int 1 0)]⟩), ⟨[]⟩⟩
def S_9_0_50 (b : Bool) (w : World) (os : OsState) : SharedT := ⟨loop_9_0 w.params (c_9_0_50 b) i_9_0_50, 81, life0, ⟨[]⟩, ⟨0, 0, 0, 0⟩, 364, os⟩
def c_9_0_51 (b : Bool) : Obj := ⟨(.type "list"), none, (.seq ⟨xs_9_0.take 51⟩ 53), ⟨[]⟩⟩
def i_9_0_51 : Obj := ⟨(.type "range_iterator"), none, (.fields ⟨[(.int 917587 0), (.int 45 0), (.int 1 0)]⟩), ⟨[]⟩⟩
def S_9_0_51 (b : Bool) (w : World) (os : OsState) : SharedT := ⟨loop_9_0 w.params (c_9_0_51 b) i_9_0_51, 81, life0, ⟨[]⟩, ⟨0, 0, 0, 0⟩, 365, os⟩
def c_9_0_52 (b : Bool) : Obj := ⟨(.type "list"), none, (.seq ⟨xs_9_0.take 52⟩ 54), ⟨[]⟩⟩
def i_9_0_52 : Obj := ⟨(.type "range_iterator"), none, (.fields ⟨[(.int 917588 0), (.int 44 0), (.int 1 0)]⟩), ⟨[]⟩⟩
def S_9_0_52 (b : Bool) (w : World) (os : OsState) : SharedT := ⟨loop_9_0 w.params (c_9_0_52 b) i_9_0_52, 81, life0, ⟨[]⟩, ⟨0, 0, 0, 0⟩, 366, os⟩
def c_9_0_53 (b : Bool) : Obj := ⟨(.type "list"), none, (.seq ⟨xs_9_0.take 53⟩ 55), ⟨[]⟩⟩
def i_9_0_53 : Obj := ⟨(.type "range_iterator"), none, (.fields ⟨[(.int 917589 0), (.int 43 0), (.int 1 0)]⟩), ⟨[]⟩⟩
def S_9_0_53 (b : Bool) (w : World) (os : OsState) : SharedT := ⟨loop_9_0 w.params (c_9_0_53 b) i_9_0_53, 81, life0, ⟨[]⟩, ⟨0, 0, 0, 0⟩, 367, os⟩
def c_9_0_54 (b : Bool) : Obj := ⟨(.type "list"), none, (.seq ⟨xs_9_0.take 54⟩ 56), ⟨[]⟩⟩
def i_9_0_54 : Obj := ⟨(.type "range_iterator"), none, (.fields ⟨[(.int 917590 0), (.int 42 0), (.int 1 0)]⟩), ⟨[]⟩⟩
def S_9_0_54 (b : Bool) (w : World) (os : OsState) : SharedT := ⟨loop_9_0 w.params (c_9_0_54 b) i_9_0_54, 81, life0, ⟨[]⟩, ⟨0, 0, 0, 0⟩, 368, os⟩
def c_9_0_55 (b : Bool) : Obj := ⟨(.type "list"), none, (.seq ⟨xs_9_0.take 55⟩ 57), ⟨[]⟩⟩
def i_9_0_55 : Obj := ⟨(.type "range_iterator"), none, (.fields ⟨[(.int 917591 0), (.int 41 0), (.int 1 0)]⟩), ⟨[]⟩⟩
def S_9_0_55 (b : Bool) (w : World) (os : OsState) : SharedT := ⟨loop_9_0 w.params (c_9_0_55 b) i_9_0_55, 81, life0, ⟨[]⟩, ⟨0, 0, 0, 0⟩, 369, os⟩
def c_9_0_56 (b : Bool) : Obj := ⟨(.type "list"), none, (.seq ⟨xs_9_0.take 56⟩ 58), ⟨[]⟩⟩
def i_9_0_56 : Obj := ⟨(.type "range_iterator"), none, (.fields ⟨[(.int 917592 0), (.int 40 0), (.int 1 0)]⟩), ⟨[]⟩⟩
def S_9_0_56 (b : Bool) (w : World) (os : OsState) : SharedT := ⟨loop_9_0 w.params (c_9_0_56 b) i_9_0_56, 81, life0, ⟨[]⟩, ⟨0, 0, 0, 0⟩, 370, os⟩
def c_9_0_57 (b : Bool) : Obj := ⟨(.type "list"), none, (.seq ⟨xs_9_0.take 57⟩ 59), ⟨[]⟩⟩
def i_9_0_57 : Obj := ⟨(.type "range_iterator"), none, (.fields ⟨[(.int 917593 0), (.int 39 0), (.int 1 0)]⟩), ⟨[]⟩⟩
def S_9_0_57 (b : Bool) (w : World) (os : OsState) : SharedT := ⟨loop_9_0 w.params (c_9_0_57 b) i_9_0_57, 81, life0, ⟨[]⟩, ⟨0, 0, 0, 0⟩, 371, os⟩
def c_9_0_58 (b : Bool) : Obj := ⟨(.type "list"), none, (.seq ⟨xs_9_0.take 58⟩ 60), ⟨[]⟩⟩
def i_9_0_58 : Obj := ⟨(.type "range_iterator"), none, (.fields ⟨[(.int 917594 0), (.int 38 0), (.int 1 0)]⟩), ⟨[]⟩⟩
def S_9_0_58 (b : Bool) (w : World) (os : OsState) : SharedT := ⟨loop_9_0 w.params (c_9_0_58 b) i_9_0_58, 81, life0, ⟨[]⟩, ⟨0, 0, 0, 0⟩, 372, os⟩
def c_9_0_59 (b : Bool) : Obj := ⟨(.type "list"), none, (.seq ⟨xs_9_0.take 59⟩ 61), ⟨[]⟩⟩
def i_9_0_59 : Obj := ⟨(.type "range_iterator"), none, (.fields ⟨[(.int 917595 0), (.int 37 0), (.int 1 0)]⟩), ⟨[]⟩⟩
def S_9_0_59 (b : Bool) (w : World) (os : OsState) : SharedT := ⟨loop_9_0 w.params (c_9_0_59 b) i_9_0_59, 81, life0, ⟨[]⟩, ⟨0, 0, 0, 0⟩, 373, os⟩
def c_9_0_60 (b : Bool) : Obj := ⟨(.type "list"), none, (.seq ⟨xs_9_0.take 60⟩ 62), ⟨[]⟩⟩
def i_9_0_60 : Obj := ⟨(.type "range_iterator"), none, (.fields ⟨[(.int 917596 0), (.int 36 0), (.int 1 0)]⟩), ⟨[]⟩⟩
def S_9_0_60 (b : Bool) (w : World) (os : OsState) : SharedT := ⟨loop_9_0 w.params (c_9_0_60 b) i_9_0_60, 81, life0, ⟨[]⟩, ⟨0, 0, 0, 0⟩, 374, os⟩
def c_9_0_61 (b : Bool) : Obj := ⟨(.type "list"), none, (.seq ⟨xs_9_0.take 61⟩ 63), ⟨[]⟩⟩
def i_9_0_61 : Obj := ⟨(.type "range_iterator"), none, (.fields ⟨[(.int 917597 0), (.int 35 0), (.int 1 0)]⟩), ⟨[]⟩⟩
def S_9_0_61 (b : Bool) (w : World) (os : OsState) : SharedT := ⟨loop_9_0 w.params (c_9_0_61 b) i_9_0_61, 81, life0, ⟨[]⟩, ⟨0, 0, 0, 0⟩, 375, os⟩
def c_9_0_62 (b : Bool) : Obj := ⟨(.type "list"), none, (.seq ⟨xs_9_0.take 62⟩ 64), ⟨[]⟩⟩
def i_9_0_62 : Obj := ⟨(.type "range_iterator"), none, (.fields ⟨[(.int 917598 0), (.int 34 0), (.int 1 0)]⟩), ⟨[]⟩⟩
def S_9_0_62 (b : Bool) (w : World) (os : OsState) : SharedT := ⟨loop_9_0 w.params (c_9_0_62 b) i_9_0_62, 81, life0, ⟨[]⟩, ⟨0, 0, 0, 0⟩, 376, os⟩
def c_9_0_63 (b : Bool) : Obj := ⟨(.type "list"), none, (.seq ⟨xs_9_0.take 63⟩ 65), ⟨[]⟩⟩
def i_9_0_63 : Obj := ⟨(.type "range_iterator"), none, (.fields ⟨[(.int 917599 0), (.int 33 0), (.int 1 0)]⟩), ⟨[]⟩⟩
def S_9_0_63 (b : Bool) (w : World) (os : OsState) : SharedT := ⟨loop_9_0 w.params (c_9_0_63 b) i_9_0_63, 81, life0, ⟨[]⟩, ⟨0, 0, 0, 0⟩, 377, os⟩
def c_9_0_64 (b : Bool) : Obj := ⟨(.type "list"), none, (.seq ⟨xs_9_0.take 64⟩ 66), ⟨[]⟩⟩
def i_9_0_64 : Obj := ⟨(.type "range_iterator"), none, (.fields ⟨[(.int 917600 0), (.int 32 0), (.int 1 0)]⟩), ⟨[]⟩⟩
def S_9_0_64 (b : Bool) (w : World) (os : OsState) : SharedT := ⟨loop_9_0 w.params (c_9_0_64 b) i_9_0_64, 81, life0, ⟨[]⟩, ⟨0, 0, 0, 0⟩, 378, os⟩
def c_9_0_65 (b : Bool) : Obj := ⟨(.type "list"), none, (.seq ⟨xs_9_0.take 65⟩ 67), ⟨[]⟩⟩
def i_9_0_65 : Obj := ⟨(.type "range_iterator"), none, (.fields ⟨[(.int 917601 0), (.int 31 0), (.int 1 0)]⟩), ⟨[]⟩⟩
def S_9_0_65 (b : Bool) (w : World) (os : OsState) : SharedT := ⟨loop_9_0 w.params (c_9_0_65 b) i_9_0_65, 81, life0, ⟨[]⟩, ⟨0, 0, 0, 0⟩, 379, os⟩
def c_9_0_66 (b : Bool) : Obj := ⟨(.type "list"), none, (.seq ⟨xs_9_0.take 66⟩ 68), ⟨[]⟩⟩
def i_9_0_66 : Obj := ⟨(.type "range_iterator"), none, (.fields ⟨[(.int 917602 0), (.int 30 0), (.int 1 0)]⟩), ⟨[]⟩⟩
def S_9_0_66 (b : Bool) (w : World) (os : OsState) : SharedT := ⟨loop_9_0 w.params (c_9_0_66 b) i_9_0_66, 81, life0, ⟨[]⟩, ⟨0, 0, 0, 0⟩, 380, os⟩
def c_9_0_67 (b : Bool) : Obj := ⟨(.type "list"), none, (.seq ⟨xs_9_0.take 67⟩ 69), ⟨[]⟩⟩
def i_9_0_67 : Obj := ⟨(.type "range_iterator"), none, (.fields ⟨[(.int 917603 0), (.int 29 0), (.int 1 0)]⟩), ⟨[]⟩⟩
def S_9_0_67 (b : Bool) (w : World) (os : OsState) : SharedT := ⟨loop_9_0 w.params (c_9_0_67 b) i_9_0_67, 81, life0, ⟨[]⟩, ⟨0, 0, 0, 0⟩, 381, os⟩
def c_9_0_68 (b : Bool) : Obj := ⟨(.type "list"), none, (.seq ⟨xs_9_0.take 68⟩ 70), ⟨[]⟩⟩
def i_9_0_68 : Obj := ⟨(.type "range_iterator"), none, (.fields ⟨[(.int 917604 0), (.int 28 0), (.int 1 0)]⟩), ⟨[]⟩⟩
def S_9_0_68 (b : Bool) (w : World) (os : OsState) : SharedT := ⟨loop_9_0 w.params (c_9_0_68 b) i_9_0_68, 81, life0, ⟨[]⟩, ⟨0, 0, 0, 0⟩, 382, os⟩
def c_9_0_69 (b : Bool) : Obj := ⟨(.type "list"), none, (.seq ⟨xs_9_0.take 69⟩ 71), ⟨[]⟩⟩
def i_9_0_69 : Obj := ⟨(.type "range_iterator"), none, (.fields ⟨[(.int 917605 0), (.int 27 0), (.int 1 0)]⟩), ⟨[]⟩⟩
def S_9_0_69 (b : Bool) (w : World) (os : OsState) : SharedT := ⟨loop_9_0 w.params (c_9_0_69 b) i_9_0_69, 81, life0, ⟨[]⟩, ⟨0, 0, 0, 0⟩, 383, os⟩
def c_9_0_70 (b : Bool) : Obj := ⟨(.type "list"), none, (.seq ⟨xs_9_0.take 70⟩ 72), ⟨[]⟩⟩
def i_9_0_70 : Obj := ⟨(.type "range_iterator"), none, (.fields ⟨[(.int 917606 0), (.int 26 0), (.int 1 0)]⟩), ⟨[]⟩⟩
def S_9_0_70 (b : Bool) (w : World) (os : OsState) : SharedT := ⟨loop_9_0 w.params (c_9_0_70 b) i_9_0_70, 81, life0, ⟨[]⟩, ⟨0, 0, 0, 0⟩, 384, os⟩
def c_9_0_71 (b : Bool) : Obj := ⟨(.type "list"), none, (.seq ⟨xs_9_0.take 71⟩ 73), ⟨[]⟩⟩
def i_9_0_71 : Obj := ⟨(.type "range_iterator"), none, (.fields ⟨[(.int 917607 0), (.int 25 0), (.int 1 0)]⟩), ⟨[]⟩⟩
def S_9_0_71 (b : Bool) (w : World) (os : OsState) : SharedT := ⟨loop_9_0 w.params (c_9_0_71 b) i_9_0_71, 81, life0, ⟨[]⟩, ⟨0, 0, 0, 0⟩, 385, os⟩
def c_9_0_72 (b : Bool) : Obj := ⟨(.type "list"), none, (.seq ⟨xs_9_0.take 72⟩ 74), ⟨[]⟩⟩
def i_9_0_72 : Obj := ⟨(.type "range_iterator"), none, (.fields ⟨[(.int 917608 0), (.int 24 0), (.int 1 0)]⟩), ⟨[]⟩⟩
def S_9_0_72 (b : Bool) (w : World) (os : OsState) : SharedT := ⟨loop_9_0 w.params (c_9_0_72 b) i_9_0_72, 81, life0, ⟨[]⟩, ⟨0, 0, 0, 0⟩, 386, os⟩
def c_9_0_73 (b : Bool) : Obj := ⟨(.type "list"), none, (.seq ⟨xs_9_0.take 73⟩ 75), ⟨[]⟩⟩
def i_9_0_73 : Obj := ⟨(.type "range_iterator"), none, (.fields ⟨[(.int 917609 0), (.int 23 0), (.int 1 0)]⟩), ⟨[]⟩⟩
def S_9_0_73 (b : Bool) (w : World) (os : OsState) : SharedT := ⟨loop_9_0 w.params (c_9_0_73 b) i_9_0_73, 81, life0, ⟨[]⟩, ⟨0, 0, 0, 0⟩, 387, os⟩
def c_9_0_74 (b : Bool) : Obj := ⟨(.type "list"), none, (.seq ⟨xs_9_0.take 74⟩ 76), ⟨[]⟩⟩
def i_9_0_74 : Obj := ⟨(.type "range_iterator"), none, (.fields ⟨[(.int 917610 0), (.int 22 0), (.int 1 0)]⟩), ⟨[]⟩⟩
def S_9_0_74 (b : Bool) (w : World) (os : OsState) : SharedT := ⟨loop_9_0 w.params (c_9_0_74 b) i_9_0_74, 81, life0, ⟨[]⟩, ⟨0, 0, 0, 0⟩, 388, os⟩
def c_9_0_75 (b : Bool) : Obj := ⟨(.type "list"), none, (.seq ⟨xs_9_0.take 75⟩ 77), ⟨[]⟩⟩
def i_9_0_75 : Obj := ⟨(.type "range_iterator"), none, (.fields ⟨[(.int 917611 0), (.int 21 0), (.int 1 0)]⟩), ⟨[]⟩⟩
def S_9_0_75 (b : Bool) (w : World) (os : OsState) : SharedT := ⟨loop_9_0 w.params (c_9_0_75 b) i_9_0_75, 81, life0, ⟨[]⟩, ⟨0, 0, 0, 0⟩, 389, os⟩
def c_9_0_76 (b : Bool) : Obj := ⟨(.type "list"), none, (.seq ⟨xs_9_0.take 76⟩ 78), ⟨[]⟩⟩
def i_9_0_76 : Obj := ⟨(.type "range_iterator"), none, (.fields ⟨[(.int 917612 0), (.int 20 0), (.int 1 0)]⟩), ⟨[]⟩⟩
def S_9_0_76 (b : Bool) (w : World) (os : OsState) : SharedT := ⟨loop_9_0 w.params (c_9_0_76 b) i_9_0_76, 81, life0, ⟨[]⟩, ⟨0, 0, 0, 0⟩, 390, os⟩
def c_9_0_77 (b : Bool) : Obj := ⟨(.type "list"), none, (.seq ⟨xs_9_0.take 77⟩ 79), ⟨[]⟩⟩
def i_9_0_77 : Obj := ⟨(.type "range_iterator"), none, (.fields ⟨[(.int 917613 0), (.int 19 0), (.int 1 0)]⟩), ⟨[]⟩⟩
def S_9_0_77 (b : Bool) (w : World) (os : OsState) : SharedT := ⟨loop_9_0 w.params (c_9_0_77 b) i_9_0_77, 81, life0, ⟨[]⟩, ⟨0, 0, 0, 0⟩, 391, os⟩
def c_9_0_78 (b : Bool) : Obj := ⟨(.type "list"), none, (.seq ⟨xs_9_0.take 78⟩ 80), ⟨[]⟩⟩
def i_9_0_78 : Obj := ⟨(.type "range_iterator"), none, (.fields ⟨[(.int 917614 0), (.int 18 0), (.int 1 0)]⟩), ⟨[]⟩⟩
def S_9_0_78 (b : Bool) (w : World) (os : OsState) : SharedT := ⟨loop_9_0 w.params (c_9_0_78 b) i_9_0_78, 81, life0, ⟨[]⟩, ⟨0, 0, 0, 0⟩, 392, os⟩
def c_9_0_79 (b : Bool) : Obj := ⟨(.type "list"), none, (.seq ⟨xs_9_0.take 79⟩ 81), ⟨[]⟩⟩
def i_9_0_79 : Obj := ⟨(.type "range_iterator"), none, (.fields ⟨[(.int 917615 0), (.int 17 0), (.int 1 0)]⟩), ⟨[]⟩⟩
def S_9_0_79 (b : Bool) (w : World) (os : OsState) : SharedT := ⟨loop_9_0 w.params (c_9_0_79 b) i_9_0_79, 81, life0, ⟨[]⟩, ⟨0, 0, 0, 0⟩, 393, os⟩
def c_9_0_80 (b : Bool) : Obj := ⟨(.type "list"), none, (.seq ⟨xs_9_0.take 80⟩ 82), ⟨[]⟩⟩
def i_9_0_80 : Obj := ⟨(.type "range_iterator"), none, (.fields ⟨[(.int 917616 0), (.int 16 0), (.int 1 0)]⟩), ⟨[]⟩⟩
def S_9_0_80 (b : Bool) (w : World) (os : OsState) : SharedT := ⟨loop_9_0 w.params (c_9_0_80 b) i_9_0_80, 81, life0, ⟨[]⟩, ⟨0, 0, 0, 0⟩, 394, os⟩
def c_9_0_81 (b : Bool) : Obj := ⟨(.type "list"), none, (.seq ⟨xs_9_0.take 81⟩ 83), ⟨[]⟩⟩
def i_9_0_81 : Obj := ⟨(.type "range_iterator"), none, (.fields ⟨[(.int 917617 0), (.int 15 0), (.int 1 0)]⟩), ⟨[]⟩⟩
def S_9_0_81 (b : Bool) (w : World) (os : OsState) : SharedT := ⟨loop_9_0 w.params (c_9_0_81 b) i_9_0_81, 81, life0, ⟨[]⟩, ⟨0, 0, 0, 0⟩, 395, os⟩
def c_9_0_82 (b : Bool) : Obj := ⟨(.type "list"), none, (.seq ⟨xs_9_0.take 82⟩ 84), ⟨[]⟩⟩
def i_9_0_82 : Obj := ⟨(.type "range_iterator"), none, (.fields ⟨[(.int 917618 0), (.int 14 0), (.int 1 0)]⟩), ⟨[]⟩⟩
def S_9_0_82 (b : Bool) (w : World) (os : OsState) : SharedT := ⟨loop_9_0 w.params (c_9_0_82 b) i_9_0_82, 81, life0, ⟨[]⟩, ⟨0, 0, 0, 0⟩, 396, os⟩
def c_9_0_83 (b : Bool) : Obj := ⟨(.type "list"), none, (.seq ⟨xs_9_0.take 83⟩ 85), ⟨[]⟩⟩
def i_9_0_83 : Obj := ⟨(.type "range_iterator"), none, (.fields ⟨[(.int 917619 0), (.int 13 0), (.int 1 0)]⟩), ⟨[]⟩⟩
def S_9_0_83 (b : Bool) (w : World) (os : OsState) : SharedT := ⟨loop_9_0 w.params (c_9_0_83 b) i_9_0_83, 81, life0, ⟨[]⟩, ⟨0, 0, 0, 0⟩, 397, os⟩
def c_9_0_84 (b : Bool) : Obj := ⟨(.type "list"), none, (.seq ⟨xs_9_0.take 84⟩ 86), ⟨[]⟩⟩
def i_9_0_84 : Obj := ⟨(.type "range_iterator"), none, (.fields ⟨[(.int 917620 0), (.int 12 0), (.int 1 0)]⟩), ⟨[]⟩⟩
def S_9_0_84 (b : Bool) (w : World) (os : OsState) : SharedT := ⟨loop_9_0 w.params (c_9_0_84 b) i_9_0_84, 81, life0, ⟨[]⟩, ⟨0, 0, 0, 0⟩, 398, os⟩
def c_9_0_85 (b : Bool) : Obj := ⟨(.type "list"), none, (.seq ⟨xs_9_0.take 85⟩ 87), ⟨[]⟩⟩
def i_9_0_85 : Obj := ⟨(.type "range_iterator"), none, (.fields ⟨[(.int 917621 0), (.int 11 0), (.int 1 0)]⟩), ⟨[]⟩⟩
def S_9_0_85 (b : Bool) (w : World) (os : OsState) : SharedT := ⟨loop_9_0 w.params (c_9_0_85 b) i_9_0_85, 81, life0, ⟨[]⟩, ⟨0, 0, 0, 0⟩, 399, os⟩
def c_9_0_86 (b : Bool) : Obj := ⟨(.type "list"), none, (.seq ⟨xs_9_0.take 86⟩ 88), ⟨[]⟩⟩
def i_9_0_86 : Obj := ⟨(.type "range_iterator"), none, (.fields ⟨[(.int 917622 0), (.int 10 0), (.int 1 0)]⟩), ⟨[]⟩⟩
def S_9_0_86 (b : Bool) (w : World) (os : OsState) : SharedT := ⟨loop_9_0 w.params (c_9_0_86 b) i_9_0_86, 81, life0, ⟨[]⟩, ⟨0, 0, 0, 0⟩, 400, os⟩
def c_9_0_87 (b : Bool) : Obj := ⟨(.type "list"), none, (.seq ⟨xs_9_0.take 87⟩ 89), ⟨[]⟩⟩
def i_9_0_87 : Obj := ⟨(.type "range_iterator"), none, (.fields ⟨[(.int 917623 0), (.int 9 0), (.int 1 0)]⟩), ⟨[]⟩⟩
def S_9_0_87 (b : Bool) (w : World) (os : OsState) : SharedT := ⟨loop_9_0 w.params (c_9_0_87 b) i_9_0_87, 81, life0, ⟨[]⟩, ⟨0, 0, 0, 0⟩, 401, os⟩
def c_9_0_88 (b : Bool) : Obj := ⟨(.type "list"), none, (.seq ⟨xs_9_0.take 88⟩ 90), ⟨[]⟩⟩
def i_9_0_88 : Obj := ⟨(.type "range_iterator"), none, (.fields ⟨[(.int 917624 0), (.int 8 0), (.int 1 0)]⟩), ⟨[]⟩⟩
def S_9_0_88 (b : Bool) (w : World) (os : OsState) : SharedT := ⟨loop_9_0 w.params (c_9_0_88 b) i_9_0_88, 81, life0, ⟨[]⟩, ⟨0, 0, 0, 0⟩, 402, os⟩
def c_9_0_89 (b : Bool) : Obj := ⟨(.type "list"), none, (.seq ⟨xs_9_0.take 89⟩ 91), ⟨[]⟩⟩
def i_9_0_89 : Obj := ⟨(.type "range_iterator"), none, (.fields ⟨[(.int 917625 0), (.int 7 0), (.int 1 0)]⟩), ⟨[]⟩⟩
def S_9_0_89 (b : Bool) (w : World) (os : OsState) : SharedT := ⟨loop_9_0 w.params (c_9_0_89 b) i_9_0_89, 81, life0, ⟨[]⟩, ⟨0, 0, 0, 0⟩, 403, os⟩
def c_9_0_90 (b : Bool) : Obj := ⟨(.type "list"), none, (.seq ⟨xs_9_0.take 90⟩ 92), ⟨[]⟩⟩
def i_9_0_90 : Obj := ⟨(.type "range_iterator"), none, (.fields ⟨[(.int 917626 0), (.int 6 0), (.int 1 0)]⟩), ⟨[]⟩⟩
def S_9_0_90 (b : Bool) (w : World) (os : OsState) : SharedT := ⟨loop_9_0 w.params (c_9_0_90 b) i_9_0_90, 81, life0, ⟨[]⟩, ⟨0, 0, 0, 0⟩, 404, os⟩
def c_9_0_91 (b : Bool) : Obj := ⟨(.type "list"), none, (.seq ⟨xs_9_0.take 91⟩ 93), ⟨[]⟩⟩
def i_9_0_91 : Obj := ⟨(.type "range_iterator"), none, (.fields ⟨[(.int 917627 0), (.int 5 0), (.int 1 0)]⟩), ⟨[]⟩⟩
def S_9_0_91 (b : Bool) (w : World) (os : OsState) : SharedT := ⟨loop_9_0 w.params (c_9_0_91 b) i_9_0_91, 81, life0, ⟨[]⟩, ⟨0, 0, 0, 0⟩, 405, os⟩
def c_9_0_92 (b : Bool) : Obj := ⟨(.type "list"), none, (.seq ⟨xs_9_0.take 92⟩ 94), ⟨[]⟩⟩
def i_9_0_92 : Obj := ⟨(.type "range_iterator"), none, (.fields ⟨[(.int 917628 0), (.int 4 0), (.int 1 0)]⟩), ⟨[]⟩⟩
def S_9_0_92 (b : Bool) (w : World) (os : OsState) : SharedT := ⟨loop_9_0 w.params (c_9_0_92 b) i_9_0_92, 81, life0, ⟨[]⟩, ⟨0, 0, 0, 0⟩, 406, os⟩
def c_9_0_93 (b : Bool) : Obj := ⟨(.type "list"), none, (.seq ⟨xs_9_0.take 93⟩ 95), ⟨[]⟩⟩
def i_9_0_93 : Obj := ⟨(.type "range_iterator"), none, (.fields ⟨[(.int 917629 0), (.int 3 0), (.int 1 0)]⟩), ⟨[]⟩⟩
def S_9_0_93 (b : Bool) (w : World) (os : OsState) : SharedT := ⟨loop_9_0 w.params (c_9_0_93 b) i_9_0_93, 81, life0, ⟨[]⟩, ⟨0, 0, 0, 0⟩, 407, os⟩
def c_9_0_94 (b : Bool) : Obj := ⟨(.type "list"), none, (.seq ⟨xs_9_0.take 94⟩ 96), ⟨[]⟩⟩
def i_9_0_94 : Obj := ⟨(.type "range_iterator"), none, (.fields ⟨[(.int 917630 0), (.int 2 0), (.int 1 0)]⟩), ⟨[]⟩⟩
def S_9_0_94 (b : Bool) (w : World) (os : OsState) : SharedT := ⟨loop_9_0 w.params (c_9_0_94 b) i_9_0_94, 81, life0, ⟨[]⟩, ⟨0, 0, 0, 0⟩, 408, os⟩
def c_9_0_95 (b : Bool) : Obj := ⟨(.type "list"), none, (.seq ⟨xs_9_0.take 95⟩ 97), ⟨[]⟩⟩
def i_9_0_95 : Obj := ⟨(.type "range_iterator"), none, (.fields ⟨[(.int 917631 0), (.int 1 0), (.int 1 0)]⟩), ⟨[]⟩⟩
def S_9_0_95 (b : Bool) (w : World) (os : OsState) : SharedT := ⟨loop_9_0 w.params (c_9_0_95 b) i_9_0_95, 81, life0, ⟨[]⟩, ⟨0, 0, 0, 0⟩, 409, os⟩
def c_9_0_96 (b : Bool) : Obj := ⟨(.type "list"), none, (.seq ⟨xs_9_0.take 96⟩ 98), ⟨[]⟩⟩
def i_9_0_96 : Obj := ⟨(.type "range_iterator"), none, (.fields ⟨[(.int 917632 0), (.int 0 0), (.int 1 0)]⟩), ⟨[]⟩⟩
def S_9_0_96 (b : Bool) (w : World) (os : OsState) : SharedT := ⟨loop_9_0 w.params (c_9_0_96 b) i_9_0_96, 81, life0, ⟨[]⟩, ⟨0, 0, 0, 0⟩, 410, os⟩
def o81 : Obj := ⟨(.type "tuple"), none, (.seq ⟨[]⟩ 0), ⟨[]⟩⟩
def o82 : Obj := ⟨(.type "StopIteration"), none, (.fields ⟨[(.ref 81), .none, .none, .none, (.bool false), .none]⟩), ⟨[]⟩⟩
def o83 : Obj := ⟨(.type "list"), none, (.seq ⟨[(.int 917505 308), (.int 917536 314), (.int 917537 315), (.int 917538 316), (.int 917539 317), (.int 917540 318), (.int 917541 319), (.int 917542 320), (.int 917543 321), (.int 917544 322), (.int 917545 323), (.int 917546 324), (.int 917547 325), (.int 917548 326), (.int 917549 327), (.int 917550 328), (.int 917551 329), (.int 917552 330), (.int 917553 331), (.int 917554 332), (.int 917555 333), (.int 917556 334), (.int 917557 335), (.int 917558 336), (.int 917559 337), (.int 917560 338), (.int 917561 339), (.int 917562 340), (.int 917563 341), (.int 917564 342), (.int 917565 343), (.int 917566 344), (.int 917567 345), (.int 917568 346), (.int 917569 347), (.int 917570 348), (.int 917571 349), (.int 917572 350), (.int 917573 351), (.int 917574 352), (.int 917575 353), (.int 917576 354), (.int 917577 355), (.int 917578 356), (.int 917579 357), (.int 917580 358), (.int 917581 359), (.int 917582 360), (.int 917583 361), (.int 917584 362), (.int 917585 363), (.int 917586 364), (.int 917587 365), (.int 917588 366), (.int 917589 367), (.int 917590 368), (.int 917591 369), (.int 917592 370), (.int 917593 371), (.int 917594 372), (.int 917595 373), (.int 917596 374), (.int 917597 375), (.int 917598 376), (.int 917599 377), (.int 917600 378), (.int 917601 379), (.int 917602 380), (.int 917603 381), (.int 917604 382), (.int 917605 383), (.int 917606 384), (.int 917607 385), (.int 917608 386), (.int 917609 387), (.int 917610 388), (.int 917611 389), (.int 917612 390), (.int 917613 391), (.int 917614 392), (.int 917615 393), (.int 917616 394), (.int 917617 395), (.int 917618 396), (.int 917619 397), (.int 917620 398), (.int 917621 399), (.int 917622 400), (.int 917623 401), (.int 917624 402), (.int 917625 403), (.int 917626 404), (.int 917627 405), (.int 917628 406), (.int 917629 407), (.int 917630 408), (.int 917631 409)]⟩ 0), ⟨[]⟩⟩
def loop_9_1 (P : Params) (x y : Obj) : BT := (.node (boot_o_0 P) (.node (boot_o_1 P) (.node (o3_9 P) (.node (boot_o_7 P) (.node o15 (.node i_3_0_5 (.node o63 .nil .nil) .nil) (.node o47 (.node (c_9_0_96 (ledOf P)) .nil .nil) .nil)) (.node o23 (.node o39 (.node o71 .nil .nil) .nil) (.node (c_7_0_5 (ledOf P)) .nil .nil))) (.node o11 (.node o19 (.node o35 (.node o67_1 .nil .nil) .nil) (.node o51 (.node o83 .nil .nil) .nil)) (.node o27 (.node i_5_0_12 (.node o75 .nil .nil) .nil) (.node o59 .nil .nil)))) (.node (boot_o_5 P) (.node (boot_o_9 P) (.node o17 (.node o33 (.node o65 .nil .nil) .nil) (.node o49 (.node o81 .nil .nil) .nil)) (.node o25 (.node o41 (.node o73 .nil .nil) .nil) (.node o57 .nil .nil))) (.node o13 (.node o21 (.node o37 (.node o69 .nil .nil) .nil) (.node o53 (.node y .nil .nil) .nil)) (.node o29 (.node o45 (.node o77 .nil .nil) .nil) (.node (c_7_1_6 (ledOf P)) .nil .nil))))) (.node (boot_o_2 P) (.node (boot_o_4 P) (.node (boot_o_8 P) (.node o16 (.node o32 (.node o64 .nil .nil) .nil) (.node o48 (.node i_9_0_96 .nil .nil) .nil)) (.node o24 (.node o40 (.node o72 .nil .nil) .nil) (.node i_7_0_5 .nil .nil))) (.node o12_5 (.node o20 (.node o36 (.node o68 .nil .nil) .nil) (.node o52 (.node x .nil .nil) .nil)) (.node o28 (.node o44 (.node o76 .nil .nil) .nil) (.node o60 .nil .nil)))) (.node (boot_o_6 P) (.node (boot_o_10 P) (.node o18 (.node o34 (.node (c_7_2_15 (ledOf P)) .nil .nil) .nil) (.node o50 (.node o82 .nil .nil) .nil)) (.node o26 (.node (c_5_0_12 (ledOf P)) (.node o74 .nil .nil) .nil) (.node o58 .nil .nil))) (.node o14 (.node o22 (.node o38 (.node o70 .nil .nil) .nil) (.node o54 .nil .nil)) (.node (c_3_0_5 (ledOf P)) (.node o46 (.node o78 .nil .nil) .nil) (.node i_7_1_6 .nil .nil))))))
def stk_9_1 (w : World) (os : OsState) : List Frame := stackOf w 59 ((S_9_0_96 (ledOf w.params)) w os) (loopAt PySem.W.SL.s9316426964554523096x16 ⟨[(.ref 79), (.ref 80), .none], []⟩ ⟨20, 24, 20, 51⟩ (stk_9_0 w os))
def es_9_1 : List (Int × Value) := [(917505, (.int 917505 308)), (917536, (.int 917536 314)), (917537, (.int 917537 315)), (917538, (.int 917538 316)), (917539, (.int 917539 317)), (917540, (.int 917540 318)), (917541, (.int 917541 319)), (917542, (.int 917542 320)), (917543, (.int 917543 321)), (917544, (.int 917544 322)), (917545, (.int 917545 323)), (917546, (.int 917546 324)), (917547, (.int 917547 325)), (917548, (.int 917548 326)), (917549, (.int 917549 327)), (917550, (.int 917550 328)), (917551, (.int 917551 329)), (917552, (.int 917552 330)), (917553, (.int 917553 331)), (917554, (.int 917554 332)), (917555, (.int 917555 333)), (917556, (.int 917556 334)), (917557, (.int 917557 335)), (917558, (.int 917558 336)), (917559, (.int 917559 337)), (917560, (.int 917560 338)), (917561, (.int 917561 339)), (917562, (.int 917562 340)), (917563, (.int 917563 341)), (917564, (.int 917564 342)), (917565, (.int 917565 343)), (917566, (.int 917566 344)), (917567, (.int 917567 345)), (917568, (.int 917568 346)), (917569, (.int 917569 347)), (917570, (.int 917570 348)), (917571, (.int 917571 349)), (917572, (.int 917572 350)), (917573, (.int 917573 351)), (917574, (.int 917574 352)), (917575, (.int 917575 353)), (917576, (.int 917576 354)), (917577, (.int 917577 355)), (917578, (.int 917578 356)), (917579, (.int 917579 357)), (917580, (.int 917580 358)), (917581, (.int 917581 359)), (917582, (.int 917582 360)), (917583, (.int 917583 361)), (917584, (.int 917584 362)), (917585, (.int 917585 363)), (917586, (.int 917586 364)), (917587, (.int 917587 365)), (917588, (.int 917588 366)), (917589, (.int 917589 367)), (917590, (.int 917590 368)), (917591, (.int 917591 369)), (917592, (.int 917592 370)), (917593, (.int 917593 371)), (917594, (.int 917594 372)), (917595, (.int 917595 373)), (917596, (.int 917596 374)), (917597, (.int 917597 375)), (917598, (.int 917598 376)), (917599, (.int 917599 377)), (917600, (.int 917600 378)), (917601, (.int 917601 379)), (917602, (.int 917602 380)), (917603, (.int 917603 381)), (917604, (.int 917604 382)), (917605, (.int 917605 383)), (917606, (.int 917606 384)), (917607, (.int 917607 385)), (917608, (.int 917608 386)), (917609, (.int 917609 387)), (917610, (.int 917610 388)), (917611, (.int 917611 389)), (917612, (.int 917612 390)), (917613, (.int 917613 391)), (917614, (.int 917614 392)), (917615, (.int 917615 393)), (917616, (.int 917616 394)), (917617, (.int 917617 395)), (917618, (.int 917618 396)), (917619, (.int 917619 397)), (917620, (.int 917620 398)), (917621, (.int 917621 399)), (917622, (.int 917622 400)), (917623, (.int 917623 401)), (917624, (.int 917624 402)), (917625, (.int 917625 403)), (917626, (.int 917626 404)), (917627, (.int 917627 405)), (917628, (.int 917628 406)), (917629, (.int 917629 407)), (917630, (.int 917630 408)), (917631, (.int 917631 409))]
def pl_9_1 : List Nat := [1, 32, 33, 34, 35, 36, 37, 38, 39, 40, 41, 42, 43, 44, 45, 46, 47, 48, 49, 50, 51, 52, 53, 54, 55, 56, 57, 58, 59, 60, 61, 62, 63, 64, 65, 66, 67, 68, 69, 70, 71, 72, 73, 74, 75, 76, 77, 78, 79, 80, 81, 82, 83, 84, 85, 86, 87, 88, 89, 90, 91, 92, 93, 94, 95, 96, 97, 98, 99, 100, 101, 102, 103, 104, 105, 106, 107, 108, 109, 110, 111, 112, 113, 114, 115, 116, 117, 118, 119, 120, 121, 122, 123, 124, 125, 126, 127]
def c_9_1_0 (b : Bool) : Obj := ⟨(.type "set"), none, (.set ⟨[]⟩ 0 ⟨7, ⟨[]⟩, ⟨[]⟩, 0, b, 0, true⟩), ⟨[]⟩⟩
def i_9_1_0 : Obj := ⟨(.type "list_iterator"), none, (.fields ⟨[(.ref 83), (.int 0 0)]⟩), ⟨[]⟩⟩
def S_9_1_0 (b : Bool) (w : World) (os : OsState) : SharedT := ⟨loop_9_1 w.params (c_9_1_0 b) i_9_1_0, 86, life0, ⟨[]⟩, ⟨0, 0, 0, 0⟩, 410, os⟩
def c_9_1_1 (b : Bool) : Obj := ⟨(.type "set"), none, (.set ⟨[(917505, (.int 917505 308))]⟩ 1 ⟨7, ⟨[1]⟩, ⟨[]⟩, 0, b, 0, true⟩), ⟨[]⟩⟩
def i_9_1_1 : Obj := ⟨(.type "list_iterator"), none, (.fields ⟨[(.ref 83), (.int 1 0)]⟩), ⟨[]⟩⟩
def S_9_1_1 (b : Bool) (w : World) (os : OsState) : SharedT := ⟨loop_9_1 w.params (c_9_1_1 b) i_9_1_1, 86, life0, ⟨[]⟩, ⟨0, 0, 0, 0⟩, 411, os⟩
def c_9_1_2 (b : Bool) : Obj := ⟨(.type "set"), none, (.set ⟨[(917536, (.int 917536 314)), (917505, (.int 917505 308))]⟩ 2 ⟨7, ⟨[0, 1]⟩, ⟨[]⟩, 0, b, 0, true⟩), ⟨[]⟩⟩
def i_9_1_2 : Obj := ⟨(.type "list_iterator"), none, (.fields ⟨[(.ref 83), (.int 2 0)]⟩), ⟨[]⟩⟩
def S_9_1_2 (b : Bool) (w : World) (os : OsState) : SharedT := ⟨loop_9_1 w.params (c_9_1_2 b) i_9_1_2, 86, life0, ⟨[]⟩, ⟨0, 0, 0, 0⟩, 412, os⟩
def c_9_1_3 (b : Bool) : Obj := ⟨(.type "set"), none, (.set ⟨[(917536, (.int 917536 314)), (917505, (.int 917505 308)), (917537, (.int 917537 315))]⟩ 3 ⟨7, ⟨[0, 1, 7]⟩, ⟨[]⟩, 0, b, 0, true⟩), ⟨[]⟩⟩
def i_9_1_3 : Obj := ⟨(.type "list_iterator"), none, (.fields ⟨[(.ref 83), (.int 3 0)]⟩), ⟨[]⟩⟩
def S_9_1_3 (b : Bool) (w : World) (os : OsState) : SharedT := ⟨loop_9_1 w.params (c_9_1_3 b) i_9_1_3, 86, life0, ⟨[]⟩, ⟨0, 0, 0, 0⟩, 413, os⟩
def c_9_1_4 (b : Bool) : Obj := ⟨(.type "set"), none, (.set ⟨[(917536, (.int 917536 314)), (917505, (.int 917505 308)), (917538, (.int 917538 316)), (917537, (.int 917537 315))]⟩ 4 ⟨7, ⟨[0, 1, 2, 7]⟩, ⟨[]⟩, 0, b, 0, true⟩), ⟨[]⟩⟩
def i_9_1_4 : Obj := ⟨(.type "list_iterator"), none, (.fields ⟨[(.ref 83), (.int 4 0)]⟩), ⟨[]⟩⟩
def S_9_1_4 (b : Bool) (w : World) (os : OsState) : SharedT := ⟨loop_9_1 w.params (c_9_1_4 b) i_9_1_4, 86, life0, ⟨[]⟩, ⟨0, 0, 0, 0⟩, 414, os⟩
def c_9_1_5 (b : Bool) : Obj := ⟨(.type "set"), none, (.set ⟨[(917536, (.int 917536 314)), (917505, (.int 917505 308)), (917538, (.int 917538 316)), (917539, (.int 917539 317)), (917537, (.int 917537 315))]⟩ 6 ⟨31, ⟨[0, 1, 2, 3, 4]⟩, ⟨[]⟩, 0, b, 1, true⟩), ⟨[]⟩⟩
def i_9_1_5 : Obj := ⟨(.type "list_iterator"), none, (.fields ⟨[(.ref 83), (.int 5 0)]⟩), ⟨[]⟩⟩
def S_9_1_5 (b : Bool) (w : World) (os : OsState) : SharedT := ⟨loop_9_1 w.params (c_9_1_5 b) i_9_1_5, 86, life0, ⟨[]⟩, ⟨0, 0, 0, 0⟩, 415, os⟩
def c_9_1_6 (b : Bool) : Obj := ⟨(.type "set"), none, (.set ⟨[(917536, (.int 917536 314)), (917505, (.int 917505 308)), (917538, (.int 917538 316)), (917539, (.int 917539 317)), (917537, (.int 917537 315)), (917540, (.int 917540 318))]⟩ 7 ⟨31, ⟨[0, 1, 2, 3, 4, 5]⟩, ⟨[]⟩, 0, b, 1, true⟩), ⟨[]⟩⟩
def i_9_1_6 : Obj := ⟨(.type "list_iterator"), none, (.fields ⟨[(.ref 83), (.int 6 0)]⟩), ⟨[]⟩⟩
def S_9_1_6 (b : Bool) (w : World) (os : OsState) : SharedT := ⟨loop_9_1 w.params (c_9_1_6 b) i_9_1_6, 86, life0, ⟨[]⟩, ⟨0, 0, 0, 0⟩, 416, os⟩
def c_9_1_7 (b : Bool) : Obj := ⟨(.type "set"), none, (.set ⟨[(917536, (.int 917536 314)), (917505, (.int 917505 308)), (917538, (.int 917538 316)), (917539, (.int 917539 317)), (917537, (.int 917537 315)), (917540, (.int 917540 318)), (917541, (.int 917541 319))]⟩ 8 ⟨31, ⟨[0, 1, 2, 3, 4, 5, 6]⟩, ⟨[]⟩, 0, b, 1, true⟩), ⟨[]⟩⟩
def i_9_1_7 : Obj := ⟨(.type "list_iterator"), none, (.fields ⟨[(.ref 83), (.int 7 0)]⟩), ⟨[]⟩⟩
def S_9_1_7 (b : Bool) (w : World) (os : OsState) : SharedT := ⟨loop_9_1 w.params (c_9_1_7 b) i_9_1_7, 86, life0, ⟨[]⟩, ⟨0, 0, 0, 0⟩, 417, os⟩
def c_9_1_8 (b : Bool) : Obj := ⟨(.type "set"), none, (.set ⟨[(917536, (.int 917536 314)), (917505, (.int 917505 308)), (917538, (.int 917538 316)), (917539, (.int 917539 317)), (917537, (.int 917537 315)), (917540, (.int 917540 318)), (917541, (.int 917541 319)), (917542, (.int 917542 320))]⟩ 9 ⟨31, ⟨[0, 1, 2, 3, 4, 5, 6, 7]⟩, ⟨[]⟩, 0, b, 1, true⟩), ⟨[]⟩⟩
def i_9_1_8 : Obj := ⟨(.type "list_iterator"), none, (.fields ⟨[(.ref 83), (.int 8 0)]⟩), ⟨[]⟩⟩
def S_9_1_8 (b : Bool) (w : World) (os : OsState) : SharedT := ⟨loop_9_1 w.params (c_9_1_8 b) i_9_1_8, 86, life0, ⟨[]⟩, ⟨0, 0, 0, 0⟩, 418, os⟩
def c_9_1_9 (b : Bool) : Obj := ⟨(.type "set"), none, (.set ⟨[(917536, (.int 917536 314)), (917505, (.int 917505 308)), (917538, (.int 917538 316)), (917539, (.int 917539 317)), (917537, (.int 917537 315)), (917540, (.int 917540 318)), (917541, (.int 917541 319)), (917542, (.int 917542 320)), (917543, (.int 917543 321))]⟩ 10 ⟨31, ⟨[0, 1, 2, 3, 4, 5, 6, 7, 8]⟩, ⟨[]⟩, 0, b, 1, true⟩), ⟨[]⟩⟩
def i_9_1_9 : Obj := ⟨(.type "list_iterator"), none, (.fields ⟨[(.ref 83), (.int 9 0)]⟩), ⟨[]⟩⟩
def S_9_1_9 (b : Bool) (w : World) (os : OsState) : SharedT := ⟨loop_9_1 w.params (c_9_1_9 b) i_9_1_9, 86, life0, ⟨[]⟩, ⟨0, 0, 0, 0⟩, 419, os⟩
def c_9_1_10 (b : Bool) : Obj := ⟨(.type "set"), none, (.set ⟨[(917536, (.int 917536 314)), (917505, (.int 917505 308)), (917538, (.int 917538 316)), (917539, (.int 917539 317)), (917537, (.int 917537 315)), (917540, (.int 917540 318)), (917541, (.int 917541 319)), (917542, (.int 917542 320)), (917543, (.int 917543 321)), (917544, (.int 917544 322))]⟩ 11 ⟨31, ⟨[0, 1, 2, 3, 4, 5, 6, 7, 8, 9]⟩, ⟨[]⟩, 0, b, 1, true⟩), ⟨[]⟩⟩
def i_9_1_10 : Obj := ⟨(.type "list_iterator"), none, (.fields ⟨[(.ref 83), (.int 10 0)]⟩), ⟨[]⟩⟩
def S_9_1_10 (b : Bool) (w : World) (os : OsState) : SharedT := ⟨loop_9_1 w.params (c_9_1_10 b) i_9_1_10, 86, life0, ⟨[]⟩, ⟨0, 0, 0, 0⟩, 420, os⟩
def c_9_1_11 (b : Bool) : Obj := ⟨(.type "set"), none, (.set ⟨[(917536, (.int 917536 314)), (917505, (.int 917505 308)), (917538, (.int 917538 316)), (917539, (.int 917539 317)), (917537, (.int 917537 315)), (917540, (.int 917540 318)), (917541, (.int 917541 319)), (917542, (.int 917542 320)), (917543, (.int 917543 321)), (917544, (.int 917544 322)), (917545, (.int 917545 323))]⟩ 12 ⟨31, ⟨[0, 1, 2, 3, 4, 5, 6, 7, 8, 9, 10]⟩, ⟨[]⟩, 0, b, 1, true⟩), ⟨[]⟩⟩
def i_9_1_11 : Obj := ⟨(.type "list_iterator"), none, (.fields ⟨[(.ref 83), (.int 11 0)]⟩), ⟨[]⟩⟩
def S_9_1_11 (b : Bool) (w : World) (os : OsState) : SharedT := ⟨loop_9_1 w.params (c_9_1_11 b) i_9_1_11, 86, life0, ⟨[]⟩, ⟨0, 0, 0, 0⟩, 421, os⟩
def c_9_1_12 (b : Bool) : Obj := ⟨(.type "set"), none, (.set ⟨[(917536, (.int 917536 314)), (917505, (.int 917505 308)), (917538, (.int 917538 316)), (917539, (.int 917539 317)), (917537, (.int 917537 315)), (917540, (.int 917540 318)), (917541, (.int 917541 319)), (917542, (.int 917542 320)), (917543, (.int 917543 321)), (917544, (.int 917544 322)), (917545, (.int 917545 323)), (917546, (.int 917546 324))]⟩ 13 ⟨31, ⟨[0, 1, 2, 3, 4, 5, 6, 7, 8, 9, 10, 11]⟩, ⟨[]⟩, 0, b, 1, true⟩), ⟨[]⟩⟩
def i_9_1_12 : Obj := ⟨(.type "list_iterator"), none, (.fields ⟨[(.ref 83), (.int 12 0)]⟩), ⟨[]⟩⟩
def S_9_1_12 (b : Bool) (w : World) (os : OsState) : SharedT := ⟨loop_9_1 w.params (c_9_1_12 b) i_9_1_12, 86, life0, ⟨[]⟩, ⟨0, 0, 0, 0⟩, 422, os⟩
def c_9_1_13 (b : Bool) : Obj := ⟨(.type "set"), none, (.set ⟨[(917536, (.int 917536 314)), (917505, (.int 917505 308)), (917538, (.int 917538 316)), (917539, (.int 917539 317)), (917537, (.int 917537 315)), (917540, (.int 917540 318)), (917541, (.int 917541 319)), (917542, (.int 917542 320)), (917543, (.int 917543 321)), (917544, (.int 917544 322)), (917545, (.int 917545 323)), (917546, (.int 917546 324)), (917547, (.int 917547 325))]⟩ 14 ⟨31, ⟨[0, 1, 2, 3, 4, 5, 6, 7, 8, 9, 10, 11, 12]⟩, ⟨[]⟩, 0, b, 1, true⟩), ⟨[]⟩⟩
def i_9_1_13 : Obj := ⟨(.type "list_iterator"), none, (.fields ⟨[(.ref 83), (.int 13 0)]⟩), ⟨[]⟩⟩
def S_9_1_13 (b : Bool) (w : World) (os : OsState) : SharedT := ⟨loop_9_1 w.params (c_9_1_13 b) i_9_1_13, 86, life0, ⟨[]⟩, ⟨0, 0, 0, 0⟩, 423, os⟩
def c_9_1_14 (b : Bool) : Obj := ⟨(.type "set"), none, (.set ⟨[(917536, (.int 917536 314)), (917505, (.int 917505 308)), (917538, (.int 917538 316)), (917539, (.int 917539 317)), (917537, (.int 917537 315)), (917540, (.int 917540 318)), (917541, (.int 917541 319)), (917542, (.int 917542 320)), (917543, (.int 917543 321)), (917544, (.int 917544 322)), (917545, (.int 917545 323)), (917546, (.int 917546 324)), (917547, (.int 917547 325)), (917548, (.int 917548 326))]⟩ 15 ⟨31, ⟨[0, 1, 2, 3, 4, 5, 6, 7, 8, 9, 10, 11, 12, 13]⟩, ⟨[]⟩, 0, b, 1, true⟩), ⟨[]⟩⟩
def i_9_1_14 : Obj := ⟨(.type "list_iterator"), none, (.fields ⟨[(.ref 83), (.int 14 0)]⟩), ⟨[]⟩⟩
def S_9_1_14 (b : Bool) (w : World) (os : OsState) : SharedT := ⟨loop_9_1 w.params (c_9_1_14 b) i_9_1_14, 86, life0, ⟨[]⟩, ⟨0, 0, 0, 0⟩, 424, os⟩
def c_9_1_15 (b : Bool) : Obj := ⟨(.type "set"), none, (.set ⟨[(917536, (.int 917536 314)), (917505, (.int 917505 308)), (917538, (.int 917538 316)), (917539, (.int 917539 317)), (917537, (.int 917537 315)), (917540, (.int 917540 318)), (917541, (.int 917541 319)), (917542, (.int 917542 320)), (917543, (.int 917543 321)), (917544, (.int 917544 322)), (917545, (.int 917545 323)), (917546, (.int 917546 324)), (917547, (.int 917547 325)), (917548, (.int 917548 326)), (917549, (.int 917549 327))]⟩ 16 ⟨31, ⟨[0, 1, 2, 3, 4, 5, 6, 7, 8, 9, 10, 11, 12, 13, 14]⟩, ⟨[]⟩, 0, b, 1, true⟩), ⟨[]⟩⟩
def i_9_1_15 : Obj := ⟨(.type "list_iterator"), none, (.fields ⟨[(.ref 83), (.int 15 0)]⟩), ⟨[]⟩⟩
def S_9_1_15 (b : Bool) (w : World) (os : OsState) : SharedT := ⟨loop_9_1 w.params (c_9_1_15 b) i_9_1_15, 86, life0, ⟨[]⟩, ⟨0, 0, 0, 0⟩, 425, os⟩
def c_9_1_16 (b : Bool) : Obj := ⟨(.type "set"), none, (.set ⟨[(917536, (.int 917536 314)), (917505, (.int 917505 308)), (917538, (.int 917538 316)), (917539, (.int 917539 317)), (917537, (.int 917537 315)), (917540, (.int 917540 318)), (917541, (.int 917541 319)), (917542, (.int 917542 320)), (917543, (.int 917543 321)), (917544, (.int 917544 322)), (917545, (.int 917545 323)), (917546, (.int 917546 324)), (917547, (.int 917547 325)), (917548, (.int 917548 326)), (917549, (.int 917549 327)), (917550, (.int 917550 328))]⟩ 17 ⟨31, ⟨[0, 1, 2, 3, 4, 5, 6, 7, 8, 9, 10, 11, 12, 13, 14, 15]⟩, ⟨[]⟩, 0, b, 1, true⟩), ⟨[]⟩⟩
def i_9_1_16 : Obj := ⟨(.type "list_iterator"), none, (.fields ⟨[(.ref 83), (.int 16 0)]⟩), ⟨[]⟩⟩
def S_9_1_16 (b : Bool) (w : World) (os : OsState) : SharedT := ⟨loop_9_1 w.params (c_9_1_16 b) i_9_1_16, 86, life0, ⟨[]⟩, ⟨0, 0, 0, 0⟩, 426, os⟩
def c_9_1_17 (b : Bool) : Obj := ⟨(.type "set"), none, (.set ⟨[(917536, (.int 917536 314)), (917505, (.int 917505 308)), (917538, (.int 917538 316)), (917539, (.int 917539 317)), (917537, (.int 917537 315)), (917540, (.int 917540 318)), (917541, (.int 917541 319)), (917542, (.int 917542 320)), (917543, (.int 917543 321)), (917544, (.int 917544 322)), (917545, (.int 917545 323)), (917546, (.int 917546 324)), (917547, (.int 917547 325)), (917548, (.int 917548 326)), (917549, (.int 917549 327)), (917550, (.int 917550 328)), (917551, (.int 917551 329))]⟩ 18 ⟨31, ⟨[0, 1, 2, 3, 4, 5, 6, 7, 8, 9, 10, 11, 12, 13, 14, 15, 16]⟩, ⟨[]⟩, 0, b, 1, true⟩), ⟨[]⟩⟩
def i_9_1_17 : Obj := ⟨(.type "list_iterator"), none, (.fields ⟨[(.ref 83), (.int 17 0)]⟩), ⟨[]⟩⟩
def S_9_1_17 (b : Bool) (w : World) (os : OsState) : SharedT := ⟨loop_9_1 w.params (c_9_1_17 b) i_9_1_17, 86, life0, ⟨[]⟩, ⟨0, 0, 0, 0⟩, 427, os⟩
def c_9_1_18 (b : Bool) : Obj := ⟨(.type "set"), none, (.set ⟨[(917536, (.int 917536 314)), (917505, (.int 917505 308)), (917538, (.int 917538 316)), (917539, (.int 917539 317)), (917537, (.int 917537 315)), (917540, (.int 917540 318)), (917541, (.int 917541 319)), (917542, (.int 917542 320)), (917543, (.int 917543 321)), (917544, (.int 917544 322)), (917545, (.int 917545 323)), (917546, (.int 917546 324)), (917547, (.int 917547 325)), (917548, (.int 917548 326)), (917549, (.int 917549 327)), (917550, (.int 917550 328)), (917551, (.int 917551 329)), (917552, (.int 917552 330))]⟩ 19 ⟨31, ⟨[0, 1, 2, 3, 4, 5, 6, 7, 8, 9, 10, 11, 12, 13, 14, 15, 16, 17]⟩, ⟨[]⟩, 0, b, 1, true⟩), ⟨[]⟩⟩
def i_9_1_18 : Obj := ⟨(.type "list_iterator"), none, (.fields ⟨[(.ref 83), (.int 18 0)]⟩), ⟨[]⟩⟩
def S_9_1_18 (b : Bool) (w : World) (os : OsState) : SharedT := ⟨loop_9_1 w.params (c_9_1_18 b) i_9_1_18, 86, life0, ⟨[]⟩, ⟨0, 0, 0, 0⟩, 428, os⟩
def c_9_1_19 (b : Bool) : Obj := ⟨(.type "set"), none, (.set ⟨es_9_1.take 19⟩ 21 ⟨127, ⟨pl_9_1.take 19⟩, ⟨[]⟩, 0, b, 2, true⟩), ⟨[]⟩⟩
def i_9_1_19 : Obj := ⟨(.type "list_iterator"), none, (.fields ⟨[(.ref 83), (.int 19 0)]⟩), ⟨[]⟩⟩
def S_9_1_19 (b : Bool) (w : World) (os : OsState) : SharedT := ⟨loop_9_1 w.params (c_9_1_19 b) i_9_1_19, 86, life0, ⟨[]⟩, ⟨0, 0, 0, 0⟩, 429, os⟩
def c_9_1_20 (b : Bool) : Obj := ⟨(.type "set"), none, (.set ⟨es_9_1.take 20⟩ 22 ⟨127, ⟨pl_9_1.take 20⟩, ⟨[]⟩, 0, b, 2, true⟩), ⟨[]⟩⟩
def i_9_1_20 : Obj := ⟨(.type "list_iterator"), none, (.fields ⟨[(.ref 83), (.int 20 0)]⟩), ⟨[]⟩⟩
def S_9_1_20 (b : Bool) (w : World) (os : OsState) : SharedT := ⟨loop_9_1 w.params (c_9_1_20 b) i_9_1_20, 86, life0, ⟨[]⟩, ⟨0, 0, 0, 0⟩, 430, os⟩
def c_9_1_21 (b : Bool) : Obj := ⟨(.type "set"), none, (.set ⟨es_9_1.take 21⟩ 23 ⟨127, ⟨pl_9_1.take 21⟩, ⟨[]⟩, 0, b, 2, true⟩), ⟨[]⟩⟩
def i_9_1_21 : Obj := ⟨(.type "list_iterator"), none, (.fields ⟨[(.ref 83), (.int 21 0)]⟩), ⟨[]⟩⟩
def S_9_1_21 (b : Bool) (w : World) (os : OsState) : SharedT := ⟨loop_9_1 w.params (c_9_1_21 b) i_9_1_21, 86, life0, ⟨[]⟩, ⟨0, 0, 0, 0⟩, 431, os⟩
def c_9_1_22 (b : Bool) : Obj := ⟨(.type "set"), none, (.set ⟨es_9_1.take 22⟩ 24 ⟨127, ⟨pl_9_1.take 22⟩, ⟨[]⟩, 0, b, 2, true⟩), ⟨[]⟩⟩
def i_9_1_22 : Obj := ⟨(.type "list_iterator"), none, (.fields ⟨[(.ref 83), (.int 22 0)]⟩), ⟨[]⟩⟩
def S_9_1_22 (b : Bool) (w : World) (os : OsState) : SharedT := ⟨loop_9_1 w.params (c_9_1_22 b) i_9_1_22, 86, life0, ⟨[]⟩, ⟨0, 0, 0, 0⟩, 432, os⟩
def c_9_1_23 (b : Bool) : Obj := ⟨(.type "set"), none, (.set ⟨es_9_1.take 23⟩ 25 ⟨127, ⟨pl_9_1.take 23⟩, ⟨[]⟩, 0, b, 2, true⟩), ⟨[]⟩⟩
def i_9_1_23 : Obj := ⟨(.type "list_iterator"), none, (.fields ⟨[(.ref 83), (.int 23 0)]⟩), ⟨[]⟩⟩
def S_9_1_23 (b : Bool) (w : World) (os : OsState) : SharedT := ⟨loop_9_1 w.params (c_9_1_23 b) i_9_1_23, 86, life0, ⟨[]⟩, ⟨0, 0, 0, 0⟩, 433, os⟩
def c_9_1_24 (b : Bool) : Obj := ⟨(.type "set"), none, (.set ⟨es_9_1.take 24⟩ 26 ⟨127, ⟨pl_9_1.take 24⟩, ⟨[]⟩, 0, b, 2, true⟩), ⟨[]⟩⟩
def i_9_1_24 : Obj := ⟨(.type "list_iterator"), none, (.fields ⟨[(.ref 83), (.int 24 0)]⟩), ⟨[]⟩⟩
def S_9_1_24 (b : Bool) (w : World) (os : OsState) : SharedT := ⟨loop_9_1 w.params (c_9_1_24 b) i_9_1_24, 86, life0, ⟨[]⟩, ⟨0, 0, 0, 0⟩, 434, os⟩
def c_9_1_25 (b : Bool) : Obj := ⟨(.type "set"), none, (.set ⟨es_9_1.take 25⟩ 27 ⟨127, ⟨pl_9_1.take 25⟩, ⟨[]⟩, 0, b, 2, true⟩), ⟨[]⟩⟩
def i_9_1_25 : Obj := ⟨(.type "list_iterator"), none, (.fields ⟨[(.ref 83), (.int 25 0)]⟩), ⟨[]⟩⟩
def S_9_1_25 (b : Bool) (w : World) (os : OsState) : SharedT := ⟨loop_9_1 w.params (c_9_1_25 b) i_9_1_25, 86, life0, ⟨[]⟩, ⟨0, 0, 0, 0⟩, 435, os⟩
def c_9_1_26 (b : Bool) : Obj := ⟨(.type "set"), none, (.set ⟨es_9_1.take 26⟩ 28 ⟨127, ⟨pl_9_1.take 26⟩, ⟨[]⟩, 0, b, 2, true⟩), ⟨[]⟩⟩
def i_9_1_26 : Obj := ⟨(.type "list_iterator"), none, (.fields ⟨[(.ref 83), (.int 26 0)]⟩), ⟨[]⟩⟩
def S_9_1_26 (b : Bool) (w : World) (os : OsState) : SharedT := ⟨loop_9_1 w.params (c_9_1_26 b) i_9_1_26, 86, life0, ⟨[]⟩, ⟨0, 0, 0, 0⟩, 436, os⟩
def c_9_1_27 (b : Bool) : Obj := ⟨(.type "set"), none, (.set ⟨es_9_1.take 27⟩ 29 ⟨127, ⟨pl_9_1.take 27⟩, ⟨[]⟩, 0, b, 2, true⟩), ⟨[]⟩⟩
def i_9_1_27 : Obj := ⟨(.type "list_iterator"), none, (.fields ⟨[(.ref 83), (.int 27 0)]⟩), ⟨[]⟩⟩
def S_9_1_27 (b : Bool) (w : World) (os : OsState) : SharedT := ⟨loop_9_1 w.params (c_9_1_27 b) i_9_1_27, 86, life0, ⟨[]⟩, ⟨0, 0, 0, 0⟩, 437, os⟩
def c_9_1_28 (b : Bool) : Obj := ⟨(.type "set"), none, (.set ⟨es_9_1.take 28⟩ 30 ⟨127, ⟨pl_9_1.take 28⟩, ⟨[]⟩, 0, b, 2, true⟩), ⟨[]⟩⟩
def i_9_1_28 : Obj := ⟨(.type "list_iterator"), none, (.fields ⟨[(.ref 83), (.int 28 0)]⟩), ⟨[]⟩⟩
def S_9_1_28 (b : Bool) (w : World) (os : OsState) : SharedT := ⟨loop_9_1 w.params (c_9_1_28 b) i_9_1_28, 86, life0, ⟨[]⟩, ⟨0, 0, 0, 0⟩, 438, os⟩
def c_9_1_29 (b : Bool) : Obj := ⟨(.type "set"), none, (.set ⟨es_9_1.take 29⟩ 31 ⟨127, ⟨pl_9_1.take 29⟩, ⟨[]⟩, 0, b, 2, true⟩), ⟨[]⟩⟩
def i_9_1_29 : Obj := ⟨(.type "list_iterator"), none, (.fields ⟨[(.ref 83), (.int 29 0)]⟩), ⟨[]⟩⟩
def S_9_1_29 (b : Bool) (w : World) (os : OsState) : SharedT := ⟨loop_9_1 w.params (c_9_1_29 b) i_9_1_29, 86, life0, ⟨[]⟩, ⟨0, 0, 0, 0⟩, 439, os⟩
def c_9_1_30 (b : Bool) : Obj := ⟨(.type "set"), none, (.set ⟨es_9_1.take 30⟩ 32 ⟨127, ⟨pl_9_1.take 30⟩, ⟨[]⟩, 0, b, 2, true⟩), ⟨[]⟩⟩
def i_9_1_30 : Obj := ⟨(.type "list_iterator"), none, (.fields ⟨[(.ref 83), (.int 30 0)]⟩), ⟨[]⟩⟩
def S_9_1_30 (b : Bool) (w : World) (os : OsState) : SharedT := ⟨loop_9_1 w.params (c_9_1_30 b) i_9_1_30, 86, life0, ⟨[]⟩, ⟨0, 0, 0, 0⟩, 440, os⟩
def c_9_1_31 (b : Bool) : Obj := ⟨(.type "set"), none, (.set ⟨es_9_1.take 31⟩ 33 ⟨127, ⟨pl_9_1.take 31⟩, ⟨[]⟩, 0, b, 2, true⟩), ⟨[]⟩⟩
def i_9_1_31 : Obj := ⟨(.type "list_iterator"), none, (.fields ⟨[(.ref 83), (.int 31 0)]⟩), ⟨[]⟩⟩
def S_9_1_31 (b : Bool) (w : World) (os : OsState) : SharedT := ⟨loop_9_1 w.params (c_9_1_31 b) i_9_1_31, 86, life0, ⟨[]⟩, ⟨0, 0, 0, 0⟩, 441, os⟩
def c_9_1_32 (b : Bool) : Obj := ⟨(.type "set"), none, (.set ⟨es_9_1.take 32⟩ 34 ⟨127, ⟨pl_9_1.take 32⟩, ⟨[]⟩, 0, b, 2, true⟩), ⟨[]⟩⟩
def i_9_1_32 : Obj := ⟨(.type "list_iterator"), none, (.fields ⟨[(.ref 83), (.int 32 0)]⟩), ⟨[]⟩⟩
def S_9_1_32 (b : Bool) (w : World) (os : OsState) : SharedT := ⟨loop_9_1 w.params (c_9_1_32 b) i_9_1_32, 86, life0, ⟨[]⟩, ⟨0, 0, 0, 0⟩, 442, os⟩
def c_9_1_33 (b : Bool) : Obj := ⟨(.type "set"), none, (.set ⟨es_9_1.take 33⟩ 35 ⟨127, ⟨pl_9_1.take 33⟩, ⟨[]⟩, 0, b, 2, true⟩), ⟨[]⟩⟩
def i_9_1_33 : Obj := ⟨(.type "list_iterator"), none, (.fields ⟨[(.ref 83), (.int 33 0)]⟩), ⟨[]⟩⟩
def S_9_1_33 (b : Bool) (w : World) (os : OsState) : SharedT := ⟨loop_9_1 w.params (c_9_1_33 b) i_9_1_33, 86, life0, ⟨[]⟩, ⟨0, 0, 0, 0⟩, 443, os⟩
def c_9_1_34 (b : Bool) : Obj := ⟨(.type "set"), none, (.set ⟨es_9_1.take 34⟩ 36 ⟨127, ⟨pl_9_1.take 34⟩, ⟨[]⟩, 0, b, 2, true⟩), ⟨[]⟩⟩
def i_9_1_34 : Obj := ⟨(.type "list_iterator"), none, (.fields ⟨[(.ref 83), (.int 34 0)]⟩), ⟨[]⟩⟩
def S_9_1_34 (b : Bool) (w : World) (os : OsState) : SharedT := ⟨loop_9_1 w.params (c_9_1_34 b) i_9_1_34, 86, life0, ⟨[]⟩, ⟨0, 0, 0, 0⟩, 444, os⟩
def c_9_1_35 (b : Bool) : Obj := ⟨(.type "set"), none, (.set ⟨es_9_1.take 35⟩ 37 ⟨127, ⟨pl_9_1.take 35⟩, ⟨[]⟩, 0, b, 2, true⟩), ⟨[]⟩⟩
def i_9_1_35 : Obj := ⟨(.type "list_iterator"), none, (.fields ⟨[(.ref 83), (.int 35 0)]⟩), ⟨[]⟩⟩
def S_9_1_35 (b : Bool) (w : World) (os : OsState) : SharedT := ⟨loop_9_1 w.params (c_9_1_35 b) i_9_1_35, 86, life0, ⟨[]⟩, ⟨0, 0, 0, 0⟩, 445, os⟩
def c_9_1_36 (b : Bool) : Obj := ⟨(.type "set"), none, (.set ⟨es_9_1.take 36⟩ 38 ⟨127, ⟨pl_9_1.take 36⟩, ⟨[]⟩, 0, b, 2, true⟩), ⟨[]⟩⟩
def i_9_1_36 : Obj := ⟨(.type "list_iterator"), none, (.fields ⟨[(.ref 83), (.int 36 0)]⟩), ⟨[]⟩⟩
def S_9_1_36 (b : Bool) (w : World) (os : OsState) : SharedT := ⟨loop_9_1 w.params (c_9_1_36 b) i_9_1_36, 86, life0, ⟨[]⟩, ⟨0, 0, 0, 0⟩, 446, os⟩
def c_9_1_37 (b : Bool) : Obj := ⟨(.type "set"), none, (.set ⟨es_9_1.take 37⟩ 39 ⟨127, ⟨pl_9_1.take 37⟩, ⟨[]⟩, 0, b, 2, true⟩), ⟨[]⟩⟩
def i_9_1_37 : Obj := ⟨(.type "list_iterator"), none, (.fields ⟨[(.ref 83), (.int 37 0)]⟩), ⟨[]⟩⟩
def S_9_1_37 (b : Bool) (w : World) (os : OsState) : SharedT := ⟨loop_9_1 w.params (c_9_1_37 b) i_9_1_37, 86, life0, ⟨[]⟩, ⟨0, 0, 0, 0⟩, 447, os⟩
def c_9_1_38 (b : Bool) : Obj := ⟨(.type "set"), none, (.set ⟨es_9_1.take 38⟩ 40 ⟨127, ⟨pl_9_1.take 38⟩, ⟨[]⟩, 0, b, 2, true⟩), ⟨[]⟩⟩
def i_9_1_38 : Obj := ⟨(.type "list_iterator"), none, (.fields ⟨[(.ref 83), (.int 38 0)]⟩), ⟨[]⟩⟩
def S_9_1_38 (b : Bool) (w : World) (os : OsState) : SharedT := ⟨loop_9_1 w.params (c_9_1_38 b) i_9_1_38, 86, life0, ⟨[]⟩, ⟨0, 0, 0, 0⟩, 448, os⟩
def c_9_1_39 (b : Bool) : Obj := ⟨(.type "set"), none, (.set ⟨es_9_1.take 39⟩ 41 ⟨127, ⟨pl_9_1.take 39⟩, ⟨[]⟩, 0, b, 2, true⟩), ⟨[]⟩⟩
def i_9_1_39 : Obj := ⟨(.type "list_iterator"), none, (.fields ⟨[(.ref 83), (.int 39 0)]⟩), ⟨[]⟩⟩
def S_9_1_39 (b : Bool) (w : World) (os : OsState) : SharedT := ⟨loop_9_1 w.params (c_9_1_39 b) i_9_1_39, 86, life0, ⟨[]⟩, ⟨0, 0, 0, 0⟩, 449, os⟩
def c_9_1_40 (b : Bool) : Obj := ⟨(.type "set"), none, (.set ⟨es_9_1.take 40⟩ 42 ⟨127, ⟨pl_9_1.take 40⟩, ⟨[]⟩, 0, b, 2, true⟩), ⟨[]⟩⟩
def i_9_1_40 : Obj := ⟨(.type "list_iterator"), none, (.fields ⟨[(.ref 83), (.int 40 0)]⟩), ⟨[]⟩⟩
def S_9_1_40 (b : Bool) (w : World) (os : OsState) : SharedT := ⟨loop_9_1 w.params (c_9_1_40 b) i_9_1_40, 86, life0, ⟨[]⟩, ⟨0, 0, 0, 0⟩, 450, os⟩
def c_9_1_41 (b : Bool) : Obj := ⟨(.type "set"), none, (.set ⟨es_9_1.take 41⟩ 43 ⟨127, ⟨pl_9_1.take 41⟩, ⟨[]⟩, 0, b, 2, true⟩), ⟨[]⟩⟩
def i_9_1_41 : Obj := ⟨(.type "list_iterator"), none, (.fields ⟨[(.ref 83), (.int 41 0)]⟩), ⟨[]⟩⟩
def S_9_1_41 (b : Bool) (w : World) (os : OsState) : SharedT := ⟨loop_9_1 w.params (c_9_1_41 b) i_9_1_41, 86, life0, ⟨[]⟩, ⟨0, 0, 0, 0⟩, 451, os⟩
def c_9_1_42 (b : Bool) : Obj := ⟨(.type "set"), none, (.set ⟨es_9_1.take 42⟩ 44 ⟨127, ⟨pl_9_1.take 42⟩, ⟨[]⟩, 0, b, 2, true⟩), ⟨[]⟩⟩
def i_9_1_42 : Obj := ⟨(.type "list_iterator"), none, (.fields ⟨[(.ref 83), (.int 42 0)]⟩), ⟨[]⟩⟩
def S_9_1_42 (b : Bool) (w : World) (os : OsState) : SharedT := ⟨loop_9_1 w.params (c_9_1_42 b) i_9_1_42, 86, life0, ⟨[]⟩, ⟨0, 0, 0, 0⟩, 452, os⟩
def c_9_1_43 (b : Bool) : Obj := ⟨(.type "set"), none, (.set ⟨es_9_1.take 43⟩ 45 ⟨127, ⟨pl_9_1.take 43⟩, ⟨[]⟩, 0, b, 2, true⟩), ⟨[]⟩⟩
def i_9_1_43 : Obj := ⟨(.type "list_iterator"), none, (.fields ⟨[(.ref 83), (.int 43 0)]⟩), ⟨[]⟩⟩
def S_9_1_43 (b : Bool) (w : World) (os : OsState) : SharedT := ⟨loop_9_1 w.params (c_9_1_43 b) i_9_1_43, 86, life0, ⟨[]⟩, ⟨0, 0, 0, 0⟩, 453, os⟩
def c_9_1_44 (b : Bool) : Obj := ⟨(.type "set"), none, (.set ⟨es_9_1.take 44⟩ 46 ⟨127, ⟨pl_9_1.take 44⟩, ⟨[]⟩, 0, b, 2, true⟩), ⟨[]⟩⟩
def i_9_1_44 : Obj := ⟨(.type "list_iterator"), none, (.fields ⟨[(.ref 83), (.int 44 0)]⟩), ⟨[]⟩⟩
def S_9_1_44 (b : Bool) (w : World) (os : OsState) : SharedT := ⟨loop_9_1 w.params (c_9_1_44 b) i_9_1_44, 86, life0, ⟨[]⟩, ⟨0, 0, 0, 0⟩, 454, os⟩
def c_9_1_45 (b : Bool) : Obj := ⟨(.type "set"), none, (.set ⟨es_9_1.take 45⟩ 47 ⟨127, ⟨pl_9_1.take 45⟩, ⟨[]⟩, 0, b, 2, true⟩), ⟨[]⟩⟩
def i_9_1_45 : Obj := ⟨(.type "list_iterator"), none, (.fields ⟨[(.ref 83), (.int 45 0)]⟩), ⟨[]⟩⟩
def S_9_1_45 (b : Bool) (w : World) (os : OsState) : SharedT := ⟨loop_9_1 w.params (c_9_1_45 b) i_9_1_45, 86, life0, ⟨[]⟩, ⟨0, 0, 0, 0⟩, 455, os⟩
def c_9_1_46 (b : Bool) : Obj := ⟨(.type "set"), none, (.set ⟨es_9_1.take 46⟩ 48 ⟨127, ⟨pl_9_1.take 46⟩, ⟨[]⟩, 0, b, 2, true⟩), ⟨[]⟩⟩
def i_9_1_46 : Obj := ⟨(.type "list_iterator"), none, (.fields ⟨[(.ref 83), (.int 46 0)]⟩), ⟨[]⟩⟩
def S_9_1_46 (b : Bool) (w : World) (os : OsState) : SharedT := ⟨loop_9_1 w.params (c_9_1_46 b) i_9_1_46, 86, life0, ⟨[]⟩, ⟨0, 0, 0, 0⟩, 456, os⟩
def c_9_1_47 (b : Bool) : Obj := ⟨(.type "set"), none, (.set ⟨es_9_1.take 47⟩ 49 ⟨127, ⟨pl_9_1.take 47⟩, ⟨[]⟩, 0, b, 2, true⟩), ⟨[]⟩⟩
def i_9_1_47 : Obj := ⟨(.type "list_iterator"), none, (.fields ⟨[(.ref 83), (.int 47 0)]⟩), ⟨[]⟩⟩
def S_9_1_47 (b : Bool) (w : World) (os : OsState) : SharedT := ⟨loop_9_1 w.params (c_9_1_47 b) i_9_1_47, 86, life0, ⟨[]⟩, ⟨0, 0, 0, 0⟩, 457, os⟩
def c_9_1_48 (b : Bool) : Obj := ⟨(.type "set"), none, (.set ⟨es_9_1.take 48⟩ 50 ⟨127, ⟨pl_9_1.take 48⟩, ⟨[]⟩, 0, b, 2, true⟩), ⟨[]⟩⟩
def i_9_1_48 : Obj := ⟨(.type "list_iterator"), none, (.fields ⟨[(.ref 83), (.int 48 0)]⟩), ⟨[]⟩⟩
def S_9_1_48 (b : Bool) (w : World) (os : OsState) : SharedT := ⟨loop_9_1 w.params (c_9_1_48 b) i_9_1_48, 86, life0, ⟨[]⟩, ⟨0, 0, 0, 0⟩, 458, os⟩
def c_9_1_49 (b : Bool) : Obj := ⟨(.type "set"), none, (.set ⟨es_9_1.take 49⟩ 51 ⟨127, ⟨pl_9_1.take 49⟩, ⟨[]⟩, 0, b, 2, true⟩), ⟨[]⟩⟩
def i_9_1_49 : Obj := ⟨(.type "list_iterator"), none, (.fields ⟨[(.ref 83), (.int 49 0)]⟩), ⟨[]⟩⟩
def S_9_1_49 (b : Bool) (w : World) (os : OsState) : SharedT := ⟨loop_9_1 w.params (c_9_1_49 b) i_9_1_49, 86, life0, ⟨[]⟩, ⟨0, 0, 0, 0⟩, 459, os⟩
def c_9_1_50 (b : Bool) : Obj := ⟨(.type "set"), none, (.set ⟨es_9_1.take 50⟩ 52 ⟨127, ⟨pl_9_1.take 50⟩, ⟨[]⟩, 0, b, 2, true⟩), ⟨[]⟩⟩
def i_9_1_50 : Obj := ⟨(.type "list_iterator"), none, (.fields ⟨[(.ref 83), (.int 50 0)]⟩), ⟨[]⟩⟩
def S_9_1_50 (b : Bool) (w : World) (os : OsState) : SharedT := ⟨loop_9_1 w.params (c_9_1_50 b) i_9_1_50, 86, life0, ⟨[]⟩, ⟨0, 0, 0, 0⟩, 460, os⟩
def c_9_1_51 (b : Bool) : Obj := ⟨(.type "set"), none, (.set ⟨es_9_1.take 51⟩ 53 ⟨127, ⟨pl_9_1.take 51⟩, ⟨[]⟩, 0, b, 2, true⟩), ⟨[]⟩⟩
def i_9_1_51 : Obj := ⟨(.type "list_iterator"), none, (.fields ⟨[(.ref 83), (.int 51 0)]⟩), ⟨[]⟩⟩
def S_9_1_51 (b : Bool) (w : World) (os : OsState) : SharedT := ⟨loop_9_1 w.params (c_9_1_51 b) i_9_1_51, 86, life0, ⟨[]⟩, ⟨0, 0, 0, 0⟩, 461, os⟩
def c_9_1_52 (b : Bool) : Obj := ⟨(.type "set"), none, (.set ⟨es_9_1.take 52⟩ 54 ⟨127, ⟨pl_9_1.take 52⟩, ⟨[]⟩, 0, b, 2, true⟩), ⟨[]⟩⟩
def i_9_1_52 : Obj := ⟨(.type "list_iterator"), none, (.fields ⟨[(.ref 83), (.int 52 0)]⟩), ⟨[]⟩⟩
def S_9_1_52 (b : Bool) (w : World) (os : OsState) : SharedT := ⟨loop_9_1 w.params (c_9_1_52 b) i_9_1_52, 86, life0, ⟨[]⟩, ⟨0, 0, 0, 0⟩, 462, os⟩
def c_9_1_53 (b : Bool) : Obj := ⟨(.type "set"), none, (.set ⟨es_9_1.take 53⟩ 55 ⟨127, ⟨pl_9_1.take 53⟩, ⟨[]⟩, 0, b, 2, true⟩), ⟨[]⟩⟩
def i_9_1_53 : Obj := ⟨(.type "list_iterator"), none, (.fields ⟨[(.ref 83), (.int 53 0)]⟩), ⟨[]⟩⟩
def S_9_1_53 (b : Bool) (w : World) (os : OsState) : SharedT := ⟨loop_9_1 w.params (c_9_1_53 b) i_9_1_53, 86, life0, ⟨[]⟩, ⟨0, 0, 0, 0⟩, 463, os⟩
def c_9_1_54 (b : Bool) : Obj := ⟨(.type "set"), none, (.set ⟨es_9_1.take 54⟩ 56 ⟨127, ⟨pl_9_1.take 54⟩, ⟨[]⟩, 0, b, 2, true⟩), ⟨[]⟩⟩
def i_9_1_54 : Obj := ⟨(.type "list_iterator"), none, (.fields ⟨[(.ref 83), (.int 54 0)]⟩), ⟨[]⟩⟩
def S_9_1_54 (b : Bool) (w : World) (os : OsState) : SharedT := ⟨loop_9_1 w.params (c_9_1_54 b) i_9_1_54, 86, life0, ⟨[]⟩, ⟨0, 0, 0, 0⟩, 464, os⟩
def c_9_1_55 (b : Bool) : Obj := ⟨(.type "set"), none, (.set ⟨es_9_1.take 55⟩ 57 ⟨127, ⟨pl_9_1.take 55⟩, ⟨[]⟩, 0, b, 2, true⟩), ⟨[]⟩⟩
def i_9_1_55 : Obj := ⟨(.type "list_iterator"), none, (.fields ⟨[(.ref 83), (.int 55 0)]⟩), ⟨[]⟩⟩
def S_9_1_55 (b : Bool) (w : World) (os : OsState) : SharedT := ⟨loop_9_1 w.params (c_9_1_55 b) i_9_1_55, 86, life0, ⟨[]⟩, ⟨0, 0, 0, 0⟩, 465, os⟩
def c_9_1_56 (b : Bool) : Obj := ⟨(.type "set"), none, (.set ⟨es_9_1.take 56⟩ 58 ⟨127, ⟨pl_9_1.take 56⟩, ⟨[]⟩, 0, b, 2, true⟩), ⟨[]⟩⟩
def i_9_1_56 : Obj := ⟨(.type "list_iterator"), none, (.fields ⟨[(.ref 83), (.int 56 0)]⟩), ⟨[]⟩⟩
def S_9_1_56 (b : Bool) (w : World) (os : OsState) : SharedT := ⟨loop_9_1 w.params (c_9_1_56 b) i_9_1_56, 86, life0, ⟨[]⟩, ⟨0, 0, 0, 0⟩, 466, os⟩
def c_9_1_57 (b : Bool) : Obj := ⟨(.type "set"), none, (.set ⟨es_9_1.take 57⟩ 59 ⟨127, ⟨pl_9_1.take 57⟩, ⟨[]⟩, 0, b, 2, true⟩), ⟨[]⟩⟩
def i_9_1_57 : Obj := ⟨(.type "list_iterator"), none, (.fields ⟨[(.ref 83), (.int 57 0)]⟩), ⟨[]⟩⟩
def S_9_1_57 (b : Bool) (w : World) (os : OsState) : SharedT := ⟨loop_9_1 w.params (c_9_1_57 b) i_9_1_57, 86, life0, ⟨[]⟩, ⟨0, 0, 0, 0⟩, 467, os⟩
def c_9_1_58 (b : Bool) : Obj := ⟨(.type "set"), none, (.set ⟨es_9_1.take 58⟩ 60 ⟨127, ⟨pl_9_1.take 58⟩, ⟨[]⟩, 0, b, 2, true⟩), ⟨[]⟩⟩
def i_9_1_58 : Obj := ⟨(.type "list_iterator"), none, (.fields ⟨[(.ref 83), (.int 58 0)]⟩), ⟨[]⟩⟩
def S_9_1_58 (b : Bool) (w : World) (os : OsState) : SharedT := ⟨loop_9_1 w.params (c_9_1_58 b) i_9_1_58, 86, life0, ⟨[]⟩, ⟨0, 0, 0, 0⟩, 468, os⟩
def c_9_1_59 (b : Bool) : Obj := ⟨(.type "set"), none, (.set ⟨es_9_1.take 59⟩ 61 ⟨127, ⟨pl_9_1.take 59⟩, ⟨[]⟩, 0, b, 2, true⟩), ⟨[]⟩⟩
def i_9_1_59 : Obj := ⟨(.type "list_iterator"), none, (.fields ⟨[(.ref 83), (.int 59 0)]⟩), ⟨[]⟩⟩
def S_9_1_59 (b : Bool) (w : World) (os : OsState) : SharedT := ⟨loop_9_1 w.params (c_9_1_59 b) i_9_1_59, 86, life0, ⟨[]⟩, ⟨0, 0, 0, 0⟩, 469, os⟩
def c_9_1_60 (b : Bool) : Obj := ⟨(.type "set"), none, (.set ⟨es_9_1.take 60⟩ 62 ⟨127, ⟨pl_9_1.take 60⟩, ⟨[]⟩, 0, b, 2, true⟩), ⟨[]⟩⟩
def i_9_1_60 : Obj := ⟨(.type "list_iterator"), none, (.fields ⟨[(.ref 83), (.int 60 0)]⟩), ⟨[]⟩⟩
def S_9_1_60 (b : Bool) (w : World) (os : OsState) : SharedT := ⟨loop_9_1 w.params (c_9_1_60 b) i_9_1_60, 86, life0, ⟨[]⟩, ⟨0, 0, 0, 0⟩, 470, os⟩
def c_9_1_61 (b : Bool) : Obj := ⟨(.type "set"), none, (.set ⟨es_9_1.take 61⟩ 63 ⟨127, ⟨pl_9_1.take 61⟩, ⟨[]⟩, 0, b, 2, true⟩), ⟨[]⟩⟩
def i_9_1_61 : Obj := ⟨(.type "list_iterator"), none, (.fields ⟨[(.ref 83), (.int 61 0)]⟩), ⟨[]⟩⟩
def S_9_1_61 (b : Bool) (w : World) (os : OsState) : SharedT := ⟨loop_9_1 w.params (c_9_1_61 b) i_9_1_61, 86, life0, ⟨[]⟩, ⟨0, 0, 0, 0⟩, 471, os⟩
def c_9_1_62 (b : Bool) : Obj := ⟨(.type "set"), none, (.set ⟨es_9_1.take 62⟩ 64 ⟨127, ⟨pl_9_1.take 62⟩, ⟨[]⟩, 0, b, 2, true⟩), ⟨[]⟩⟩
def i_9_1_62 : Obj := ⟨(.type "list_iterator"), none, (.fields ⟨[(.ref 83), (.int 62 0)]⟩), ⟨[]⟩⟩
def S_9_1_62 (b : Bool) (w : World) (os : OsState) : SharedT := ⟨loop_9_1 w.params (c_9_1_62 b) i_9_1_62, 86, life0, ⟨[]⟩, ⟨0, 0, 0, 0⟩, 472, os⟩
def c_9_1_63 (b : Bool) : Obj := ⟨(.type "set"), none, (.set ⟨es_9_1.take 63⟩ 65 ⟨127, ⟨pl_9_1.take 63⟩, ⟨[]⟩, 0, b, 2, true⟩), ⟨[]⟩⟩
def i_9_1_63 : Obj := ⟨(.type "list_iterator"), none, (.fields ⟨[(.ref 83), (.int 63 0)]⟩), ⟨[]⟩⟩
def S_9_1_63 (b : Bool) (w : World) (os : OsState) : SharedT := ⟨loop_9_1 w.params (c_9_1_63 b) i_9_1_63, 86, life0, ⟨[]⟩, ⟨0, 0, 0, 0⟩, 473, os⟩
def c_9_1_64 (b : Bool) : Obj := ⟨(.type "set"), none, (.set ⟨es_9_1.take 64⟩ 66 ⟨127, ⟨pl_9_1.take 64⟩, ⟨[]⟩, 0, b, 2, true⟩), ⟨[]⟩⟩
def i_9_1_64 : Obj := ⟨(.type "list_iterator"), none, (.fields ⟨[(.ref 83), (.int 64 0)]⟩), ⟨[]⟩⟩
def S_9_1_64 (b : Bool) (w : World) (os : OsState) : SharedT := ⟨loop_9_1 w.params (c_9_1_64 b) i_9_1_64, 86, life0, ⟨[]⟩, ⟨0, 0, 0, 0⟩, 474, os⟩
def c_9_1_65 (b : Bool) : Obj := ⟨(.type "set"), none, (.set ⟨es_9_1.take 65⟩ 67 ⟨127, ⟨pl_9_1.take 65⟩, ⟨[]⟩, 0, b, 2, true⟩), ⟨[]⟩⟩
def i_9_1_65 : Obj := ⟨(.type "list_iterator"), none, (.fields ⟨[(.ref 83), (.int 65 0)]⟩), ⟨[]⟩⟩
def S_9_1_65 (b : Bool) (w : World) (os : OsState) : SharedT := ⟨loop_9_1 w.params (c_9_1_65 b) i_9_1_65, 86, life0, ⟨[]⟩, ⟨0, 0, 0, 0⟩, 475, os⟩
def c_9_1_66 (b : Bool) : Obj := ⟨(.type "set"), none, (.set ⟨es_9_1.take 66⟩ 68 ⟨127, ⟨pl_9_1.take 66⟩, ⟨[]⟩, 0, b, 2, true⟩), ⟨[]⟩⟩
def i_9_1_66 : Obj := ⟨(.type "list_iterator"), none, (.fields ⟨[(.ref 83), (.int 66 0)]⟩), ⟨[]⟩⟩
def S_9_1_66 (b : Bool) (w : World) (os : OsState) : SharedT := ⟨loop_9_1 w.params (c_9_1_66 b) i_9_1_66, 86, life0, ⟨[]⟩, ⟨0, 0, 0, 0⟩, 476, os⟩
def c_9_1_67 (b : Bool) : Obj := ⟨(.type "set"), none, (.set ⟨es_9_1.take 67⟩ 69 ⟨127, ⟨pl_9_1.take 67⟩, ⟨[]⟩, 0, b, 2, true⟩), ⟨[]⟩⟩
def i_9_1_67 : Obj := ⟨(.type "list_iterator"), none, (.fields ⟨[(.ref 83), (.int 67 0)]⟩), ⟨[]⟩⟩
def S_9_1_67 (b : Bool) (w : World) (os : OsState) : SharedT := ⟨loop_9_1 w.params (c_9_1_67 b) i_9_1_67, 86, life0, ⟨[]⟩, ⟨0, 0, 0, 0⟩, 477, os⟩
def c_9_1_68 (b : Bool) : Obj := ⟨(.type "set"), none, (.set ⟨es_9_1.take 68⟩ 70 ⟨127, ⟨pl_9_1.take 68⟩, ⟨[]⟩, 0, b, 2, true⟩), ⟨[]⟩⟩
def i_9_1_68 : Obj := ⟨(.type "list_iterator"), none, (.fields ⟨[(.ref 83), (.int 68 0)]⟩), ⟨[]⟩⟩
def S_9_1_68 (b : Bool) (w : World) (os : OsState) : SharedT := ⟨loop_9_1 w.params (c_9_1_68 b) i_9_1_68, 86, life0, ⟨[]⟩, ⟨0, 0, 0, 0⟩, 478, os⟩
def c_9_1_69 (b : Bool) : Obj := ⟨(.type "set"), none, (.set ⟨es_9_1.take 69⟩ 71 ⟨127, ⟨pl_9_1.take 69⟩, ⟨[]⟩, 0, b, 2, true⟩), ⟨[]⟩⟩
def i_9_1_69 : Obj := ⟨(.type "list_iterator"), none, (.fields ⟨[(.ref 83), (.int 69 0)]⟩), ⟨[]⟩⟩
def S_9_1_69 (b : Bool) (w : World) (os : OsState) : SharedT := ⟨loop_9_1 w.params (c_9_1_69 b) i_9_1_69, 86, life0, ⟨[]⟩, ⟨0, 0, 0, 0⟩, 479, os⟩
def c_9_1_70 (b : Bool) : Obj := ⟨(.type "set"), none, (.set ⟨es_9_1.take 70⟩ 72 ⟨127, ⟨pl_9_1.take 70⟩, ⟨[]⟩, 0, b, 2, true⟩), ⟨[]⟩⟩
def i_9_1_70 : Obj := ⟨(.type "list_iterator"), none, (.fields ⟨[(.ref 83), (.int 70 0)]⟩), ⟨[]⟩⟩
def S_9_1_70 (b : Bool) (w : World) (os : OsState) : SharedT := ⟨loop_9_1 w.params (c_9_1_70 b) i_9_1_70, 86, life0, ⟨[]⟩, ⟨0, 0, 0, 0⟩, 480, os⟩
def c_9_1_71 (b : Bool) : Obj := ⟨(.type "set"), none, (.set ⟨es_9_1.take 71⟩ 73 ⟨127, ⟨pl_9_1.take 71⟩, ⟨[]⟩, 0, b, 2, true⟩), ⟨[]⟩⟩
def i_9_1_71 : Obj := ⟨(.type "list_iterator"), none, (.fields ⟨[(.ref 83), (.int 71 0)]⟩), ⟨[]⟩⟩
def S_9_1_71 (b : Bool) (w : World) (os : OsState) : SharedT := ⟨loop_9_1 w.params (c_9_1_71 b) i_9_1_71, 86, life0, ⟨[]⟩, ⟨0, 0, 0, 0⟩, 481, os⟩
def c_9_1_72 (b : Bool) : Obj := ⟨(.type "set"), none, (.set ⟨es_9_1.take 72⟩ 74 ⟨127, ⟨pl_9_1.take 72⟩, ⟨[]⟩, 0, b, 2, true⟩), ⟨[]⟩⟩
def i_9_1_72 : Obj := ⟨(.type "list_iterator"), none, (.fields ⟨[(.ref 83), (.int 72 0)]⟩), ⟨[]⟩⟩
def S_9_1_72 (b : Bool) (w : World) (os : OsState) : SharedT := ⟨loop_9_1 w.params (c_9_1_72 b) i_9_1_72, 86, life0, ⟨[]⟩, ⟨0, 0, 0, 0⟩, 482, os⟩
def c_9_1_73 (b : Bool) : Obj := ⟨(.type "set"), none, (.set ⟨es_9_1.take 73⟩ 75 ⟨127, ⟨pl_9_1.take 73⟩, ⟨[]⟩, 0, b, 2, true⟩), ⟨[]⟩⟩
def i_9_1_73 : Obj := ⟨(.type "list_iterator"), none, (.fields ⟨[(.ref 83), (.int 73 0)]⟩), ⟨[]⟩⟩
def S_9_1_73 (b : Bool) (w : World) (os : OsState) : SharedT := ⟨loop_9_1 w.params (c_9_1_73 b) i_9_1_73, 86, life0, ⟨[]⟩, ⟨0, 0, 0, 0⟩, 483, os⟩
def c_9_1_74 (b : Bool) : Obj := ⟨(.type "set"), none, (.set ⟨es_9_1.take 74⟩ 76 ⟨127, ⟨pl_9_1.take 74⟩, ⟨[]⟩, 0, b, 2, true⟩), ⟨[]⟩⟩
def i_9_1_74 : Obj := ⟨(.type "list_iterator"), none, (.fields ⟨[(.ref 83), (.int 74 0)]⟩), ⟨[]⟩⟩
def S_9_1_74 (b : Bool) (w : World) (os : OsState) : SharedT := ⟨loop_9_1 w.params (c_9_1_74 b) i_9_1_74, 86, life0, ⟨[]⟩, ⟨0, 0, 0, 0⟩, 484, os⟩
def c_9_1_75 (b : Bool) : Obj := ⟨(.type "set"), none, (.set ⟨es_9_1.take 75⟩ 77 ⟨127, ⟨pl_9_1.take 75⟩, ⟨[]⟩, 0, b, 2, true⟩), ⟨[]⟩⟩
def i_9_1_75 : Obj := ⟨(.type "list_iterator"), none, (.fields ⟨[(.ref 83), (.int 75 0)]⟩), ⟨[]⟩⟩
def S_9_1_75 (b : Bool) (w : World) (os : OsState) : SharedT := ⟨loop_9_1 w.params (c_9_1_75 b) i_9_1_75, 86, life0, ⟨[]⟩, ⟨0, 0, 0, 0⟩, 485, os⟩
def c_9_1_76 (b : Bool) : Obj := ⟨(.type "set"), none, (.set ⟨es_9_1.take 76⟩ 78 ⟨127, ⟨pl_9_1.take 76⟩, ⟨[]⟩, 0, b, 2, true⟩), ⟨[]⟩⟩
def i_9_1_76 : Obj := ⟨(.type "list_iterator"), none, (.fields ⟨[(.ref 83), (.int 76 0)]⟩), ⟨[]⟩⟩
def S_9_1_76 (b : Bool) (w : World) (os : OsState) : SharedT := ⟨loop_9_1 w.params (c_9_1_76 b) i_9_1_76, 86, life0, ⟨[]⟩, ⟨0, 0, 0, 0⟩, 486, os⟩
def c_9_1_77 (b : Bool) : Obj := ⟨(.type "set"), none, (.set ⟨es_9_1.take 77⟩ 80 ⟨511, ⟨pl_9_1.take 77⟩, ⟨[]⟩, 0, b, 3, true⟩), ⟨[]⟩⟩
def i_9_1_77 : Obj := ⟨(.type "list_iterator"), none, (.fields ⟨[(.ref 83), (.int 77 0)]⟩), ⟨[]⟩⟩
def S_9_1_77 (b : Bool) (w : World) (os : OsState) : SharedT := ⟨loop_9_1 w.params (c_9_1_77 b) i_9_1_77, 86, life0, ⟨[]⟩, ⟨0, 0, 0, 0⟩, 487, os⟩
def c_9_1_78 (b : Bool) : Obj := ⟨(.type "set"), none, (.set ⟨es_9_1.take 78⟩ 81 ⟨511, ⟨pl_9_1.take 78⟩, ⟨[]⟩, 0, b, 3, true⟩), ⟨[]⟩⟩
def i_9_1_78 : Obj := ⟨(.type "list_iterator"), none, (.fields ⟨[(.ref 83), (.int 78 0)]⟩), ⟨[]⟩⟩
def S_9_1_78 (b : Bool) (w : World) (os : OsState) : SharedT := ⟨loop_9_1 w.params (c_9_1_78 b) i_9_1_78, 86, life0, ⟨[]⟩, ⟨0, 0, 0, 0⟩, 488, os⟩
def c_9_1_79 (b : Bool) : Obj := ⟨(.type "set"), none, (.set ⟨es_9_1.take 79⟩ 82 ⟨511, ⟨pl_9_1.take 79⟩, ⟨[]⟩, 0, b, 3, true⟩), ⟨[]⟩⟩
def i_9_1_79 : Obj := ⟨(.type "list_iterator"), none, (.fields ⟨[(.ref 83), (.int 79 0)]⟩), ⟨[]⟩⟩
def S_9_1_79 (b : Bool) (w : World) (os : OsState) : SharedT := ⟨loop_9_1 w.params (c_9_1_79 b) i_9_1_79, 86, life0, ⟨[]⟩, ⟨0, 0, 0, 0⟩, 489, os⟩
def c_9_1_80 (b : Bool) : Obj := ⟨(.type "set"), none, (.set ⟨es_9_1.take 80⟩ 83 ⟨511, ⟨pl_9_1.take 80⟩, ⟨[]⟩, 0, b, 3, true⟩), ⟨[]⟩⟩
def i_9_1_80 : Obj := ⟨(.type "list_iterator"), none, (.fields ⟨[(.ref 83), (.int 80 0)]⟩), ⟨[]⟩⟩
def S_9_1_80 (b : Bool) (w : World) (os : OsState) : SharedT := ⟨loop_9_1 w.params (c_9_1_80 b) i_9_1_80, 86, life0, ⟨[]⟩, ⟨0, 0, 0, 0⟩, 490, os⟩
def c_9_1_81 (b : Bool) : Obj := ⟨(.type "set"), none, (.set ⟨es_9_1.take 81⟩ 84 ⟨511, ⟨pl_9_1.take 81⟩, ⟨[]⟩, 0, b, 3, true⟩), ⟨[]⟩⟩
def i_9_1_81 : Obj := ⟨(.type "list_iterator"), none, (.fields ⟨[(.ref 83), (.int 81 0)]⟩), ⟨[]⟩⟩
def S_9_1_81 (b : Bool) (w : World) (os : OsState) : SharedT := ⟨loop_9_1 w.params (c_9_1_81 b) i_9_1_81, 86, life0, ⟨[]⟩, ⟨0, 0, 0, 0⟩, 491, os⟩
def c_9_1_82 (b : Bool) : Obj := ⟨(.type "set"), none, (.set ⟨es_9_1.take 82⟩ 85 ⟨511, ⟨pl_9_1.take 82⟩, ⟨[]⟩, 0, b, 3, true⟩), ⟨[]⟩⟩
def i_9_1_82 : Obj := ⟨(.type "list_iterator"), none, (.fields ⟨[(.ref 83), (.int 82 0)]⟩), ⟨[]⟩⟩
def S_9_1_82 (b : Bool) (w : World) (os : OsState) : SharedT := ⟨loop_9_1 w.params (c_9_1_82 b) i_9_1_82, 86, life0, ⟨[]⟩, ⟨0, 0, 0, 0⟩, 492, os⟩
def c_9_1_83 (b : Bool) : Obj := ⟨(.type "set"), none, (.set ⟨es_9_1.take 83⟩ 86 ⟨511, ⟨pl_9_1.take 83⟩, ⟨[]⟩, 0, b, 3, true⟩), ⟨[]⟩⟩
def i_9_1_83 : Obj := ⟨(.type "list_iterator"), none, (.fields ⟨[(.ref 83), (.int 83 0)]⟩), ⟨[]⟩⟩
def S_9_1_83 (b : Bool) (w : World) (os : OsState) : SharedT := ⟨loop_9_1 w.params (c_9_1_83 b) i_9_1_83, 86, life0, ⟨[]⟩, ⟨0, 0, 0, 0⟩, 493, os⟩
def c_9_1_84 (b : Bool) : Obj := ⟨(.type "set"), none, (.set ⟨es_9_1.take 84⟩ 87 ⟨511, ⟨pl_9_1.take 84⟩, ⟨[]⟩, 0, b, 3, true⟩), ⟨[]⟩⟩
def i_9_1_84 : Obj := ⟨(.type "list_iterator"), none, (.fields ⟨[(.ref 83), (.int 84 0)]⟩), ⟨[]⟩⟩
def S_9_1_84 (b : Bool) (w : World) (os : OsState) : SharedT := ⟨loop_9_1 w.params (c_9_1_84 b) i_9_1_84, 86, life0, ⟨[]⟩, ⟨0, 0, 0, 0⟩, 494, os⟩
def c_9_1_85 (b : Bool) : Obj := ⟨(.type "set"), none, (.set ⟨es_9_1.take 85⟩ 88 ⟨511, ⟨pl_9_1.take 85⟩, ⟨[]⟩, 0, b, 3, true⟩), ⟨[]⟩⟩
def i_9_1_85 : Obj := ⟨(.type "list_iterator"), none, (.fields ⟨[(.ref 83), (.int 85 0)]⟩), ⟨[]⟩⟩
def S_9_1_85 (b : Bool) (w : World) (os : OsState) : SharedT := ⟨loop_9_1 w.params (c_9_1_85 b) i_9_1_85, 86, life0, ⟨[]⟩, ⟨0, 0, 0, 0⟩, 495, os⟩
def c_9_1_86 (b : Bool) : Obj := ⟨(.type "set"), none, (.set ⟨es_9_1.take 86⟩ 89 ⟨511, ⟨pl_9_1.take 86⟩, ⟨[]⟩, 0, b, 3, true⟩), ⟨[]⟩⟩
def i_9_1_86 : Obj := ⟨(.type "list_iterator"), none, (.fields ⟨[(.ref 83), (.int 86 0)]⟩), ⟨[]⟩⟩
def S_9_1_86 (b : Bool) (w : World) (os : OsState) : SharedT := ⟨loop_9_1 w.params (c_9_1_86 b) i_9_1_86, 86, life0, ⟨[]⟩, ⟨0, 0, 0, 0⟩, 496, os⟩
def c_9_1_87 (b : Bool) : Obj := ⟨(.type "set"), none, (.set ⟨es_9_1.take 87⟩ 90 ⟨511, ⟨pl_9_1.take 87⟩, ⟨[]⟩, 0, b, 3, true⟩), ⟨[]⟩⟩
def i_9_1_87 : Obj := ⟨(.type "list_iterator"), none, (.fields ⟨[(.ref 83), (.int 87 0)]⟩), ⟨[]⟩⟩
def S_9_1_87 (b : Bool) (w : World) (os : OsState) : SharedT := ⟨loop_9_1 w.params (c_9_1_87 b) i_9_1_87, 86, life0, ⟨[]⟩, ⟨0, 0, 0, 0⟩, 497, os⟩
def c_9_1_88 (b : Bool) : Obj := ⟨(.type "set"), none, (.set ⟨es_9_1.take 88⟩ 91 ⟨511, ⟨pl_9_1.take 88⟩, ⟨[]⟩, 0, b, 3, true⟩), ⟨[]⟩⟩
def i_9_1_88 : Obj := ⟨(.type "list_iterator"), none, (.fields ⟨[(.ref 83), (.int 88 0)]⟩), ⟨[]⟩⟩
def S_9_1_88 (b : Bool) (w : World) (os : OsState) : SharedT := ⟨loop_9_1 w.params (c_9_1_88 b) i_9_1_88, 86, life0, ⟨[]⟩, ⟨0, 0, 0, 0⟩, 498, os⟩
def c_9_1_89 (b : Bool) : Obj := ⟨(.type "set"), none, (.set ⟨es_9_1.take 89⟩ 92 ⟨511, ⟨pl_9_1.take 89⟩, ⟨[]⟩, 0, b, 3, true⟩), ⟨[]⟩⟩
def i_9_1_89 : Obj := ⟨(.type "list_iterator"), none, (.fields ⟨[(.ref 83), (.int 89 0)]⟩), ⟨[]⟩⟩
def S_9_1_89 (b : Bool) (w : World) (os : OsState) : SharedT := ⟨loop_9_1 w.params (c_9_1_89 b) i_9_1_89, 86, life0, ⟨[]⟩, ⟨0, 0, 0, 0⟩, 499, os⟩
def c_9_1_90 (b : Bool) : Obj := ⟨(.type "set"), none, (.set ⟨es_9_1.take 90⟩ 93 ⟨511, ⟨pl_9_1.take 90⟩, ⟨[]⟩, 0, b, 3, true⟩), ⟨[]⟩⟩
def i_9_1_90 : Obj := ⟨(.type "list_iterator"), none, (.fields ⟨[(.ref 83), (.int 90 0)]⟩), ⟨[]⟩⟩
def S_9_1_90 (b : Bool) (w : World) (os : OsState) : SharedT := ⟨loop_9_1 w.params (c_9_1_90 b) i_9_1_90, 86, life0, ⟨[]⟩, ⟨0, 0, 0, 0⟩, 500, os⟩
def c_9_1_91 (b : Bool) : Obj := ⟨(.type "set"), none, (.set ⟨es_9_1.take 91⟩ 94 ⟨511, ⟨pl_9_1.take 91⟩, ⟨[]⟩, 0, b, 3, true⟩), ⟨[]⟩⟩
def i_9_1_91 : Obj := ⟨(.type "list_iterator"), none, (.fields ⟨[(.ref 83), (.int 91 0)]⟩), ⟨[]⟩⟩
def S_9_1_91 (b : Bool) (w : World) (os : OsState) : SharedT := ⟨loop_9_1 w.params (c_9_1_91 b) i_9_1_91, 86, life0, ⟨[]⟩, ⟨0, 0, 0, 0⟩, 501, os⟩
def c_9_1_92 (b : Bool) : Obj := ⟨(.type "set"), none, (.set ⟨es_9_1.take 92⟩ 95 ⟨511, ⟨pl_9_1.take 92⟩, ⟨[]⟩, 0, b, 3, true⟩), ⟨[]⟩⟩
def i_9_1_92 : Obj := ⟨(.type "list_iterator"), none, (.fields ⟨[(.ref 83), (.int 92 0)]⟩), ⟨[]⟩⟩
def S_9_1_92 (b : Bool) (w : World) (os : OsState) : SharedT := ⟨loop_9_1 w.params (c_9_1_92 b) i_9_1_92, 86, life0, ⟨[]⟩, ⟨0, 0, 0, 0⟩, 502, os⟩
def c_9_1_93 (b : Bool) : Obj := ⟨(.type "set"), none, (.set ⟨es_9_1.take 93⟩ 96 ⟨511, ⟨pl_9_1.take 93⟩, ⟨[]⟩, 0, b, 3, true⟩), ⟨[]⟩⟩
def i_9_1_93 : Obj := ⟨(.type "list_iterator"), none, (.fields ⟨[(.ref 83), (.int 93 0)]⟩), ⟨[]⟩⟩
def S_9_1_93 (b : Bool) (w : World) (os : OsState) : SharedT := ⟨loop_9_1 w.params (c_9_1_93 b) i_9_1_93, 86, life0, ⟨[]⟩, ⟨0, 0, 0, 0⟩, 503, os⟩
def c_9_1_94 (b : Bool) : Obj := ⟨(.type "set"), none, (.set ⟨es_9_1.take 94⟩ 97 ⟨511, ⟨pl_9_1.take 94⟩, ⟨[]⟩, 0, b, 3, true⟩), ⟨[]⟩⟩
def i_9_1_94 : Obj := ⟨(.type "list_iterator"), none, (.fields ⟨[(.ref 83), (.int 94 0)]⟩), ⟨[]⟩⟩
def S_9_1_94 (b : Bool) (w : World) (os : OsState) : SharedT := ⟨loop_9_1 w.params (c_9_1_94 b) i_9_1_94, 86, life0, ⟨[]⟩, ⟨0, 0, 0, 0⟩, 504, os⟩
def c_9_1_95 (b : Bool) : Obj := ⟨(.type "set"), none, (.set ⟨es_9_1.take 95⟩ 98 ⟨511, ⟨pl_9_1.take 95⟩, ⟨[]⟩, 0, b, 3, true⟩), ⟨[]⟩⟩
def i_9_1_95 : Obj := ⟨(.type "list_iterator"), none, (.fields ⟨[(.ref 83), (.int 95 0)]⟩), ⟨[]⟩⟩
def S_9_1_95 (b : Bool) (w : World) (os : OsState) : SharedT := ⟨loop_9_1 w.params (c_9_1_95 b) i_9_1_95, 86, life0, ⟨[]⟩, ⟨0, 0, 0, 0⟩, 505, os⟩
def c_9_1_96 (b : Bool) : Obj := ⟨(.type "set"), none, (.set ⟨es_9_1.take 96⟩ 99 ⟨511, ⟨pl_9_1.take 96⟩, ⟨[]⟩, 0, b, 3, true⟩), ⟨[]⟩⟩
def i_9_1_96 : Obj := ⟨(.type "list_iterator"), none, (.fields ⟨[(.ref 83), (.int 96 0)]⟩), ⟨[]⟩⟩
def S_9_1_96 (b : Bool) (w : World) (os : OsState) : SharedT := ⟨loop_9_1 w.params (c_9_1_96 b) i_9_1_96, 86, life0, ⟨[]⟩, ⟨0, 0, 0, 0⟩, 506, os⟩
def c_9_1_97 (b : Bool) : Obj := ⟨(.type "set"), none, (.set ⟨es_9_1.take 97⟩ 100 ⟨511, ⟨pl_9_1.take 97⟩, ⟨[]⟩, 0, b, 3, true⟩), ⟨[]⟩⟩
def i_9_1_97 : Obj := ⟨(.type "list_iterator"), none, (.fields ⟨[(.ref 83), (.int 97 0)]⟩), ⟨[]⟩⟩
def S_9_1_97 (b : Bool) (w : World) (os : OsState) : SharedT := ⟨loop_9_1 w.params (c_9_1_97 b) i_9_1_97, 86, life0, ⟨[]⟩, ⟨0, 0, 0, 0⟩, 507, os⟩
def o3_10 (P : Params) : Obj := ⟨(.type "dict"), none, (.dict ⟨[⟨PyData.keyHash P (Str.ofString "__name__"), .str (Str.ofString "__name__") 165, (.str (Str.ofString "cpy313.stringprep") 187)⟩, ⟨PyData.keyHash P (Str.ofString "__doc__"), .str (Str.ofString "__doc__") 166, .none⟩, ⟨PyData.keyHash P (Str.ofString "__package__"), .str (Str.ofString "__package__") 167, .none⟩, ⟨PyData.keyHash P (Str.ofString "__loader__"), .str (Str.ofString "__loader__") 168, (.builtin "__main__.__loader__#opaque")⟩, ⟨PyData.keyHash P (Str.ofString "__spec__"), .str (Str.ofString "__spec__") 169, .none⟩, ⟨PyData.keyHash P (Str.ofString "__annotations__"), .str (Str.ofString "__annotations__") 170, (.ref 6)⟩, ⟨PyData.keyHash P (Str.ofString "__builtins__"), .str (Str.ofString "__builtins__") 171, (.ref 4)⟩, ⟨PyData.keyHash P (Str.ofString "__file__"), .str (Str.ofString "__file__") 173, (.str (Str.ofString "/claim/cut.py") 172)⟩, ⟨PyData.keyHash P (Str.ofString "__cached__"), .str (Str.ofString "__cached__") 174, .none⟩, ⟨PyData.keyHash P (Str.ofString "in_table_c11"), .str (Str.ofString "in_table_c11") 195, (.ref 21)⟩, ⟨PyData.keyHash P (Str.ofString "in_table_c4"), .str (Str.ofString "in_table_c4") 203, (.ref 28)⟩, ⟨PyData.keyHash P (Str.ofString "c6_set"), .str (Str.ofString "c6_set") 217, (.ref 30)⟩, ⟨PyData.keyHash P (Str.ofString "in_table_c6"), .str (Str.ofString "in_table_c6") 224, (.ref 40)⟩, ⟨PyData.keyHash P (Str.ofString "c7_set"), .str (Str.ofString "c7_set") 252, (.ref 42)⟩, ⟨PyData.keyHash P (Str.ofString "in_table_c7"), .str (Str.ofString "in_table_c7") 259, (.ref 52)⟩, ⟨PyData.keyHash P (Str.ofString "c8_set"), .str (Str.ofString "c8_set") 300, (.ref 66)⟩, ⟨PyData.keyHash P (Str.ofString "in_table_c8"), .str (Str.ofString "in_table_c8") 307, (.ref 76)⟩, ⟨PyData.keyHash P (Str.ofString "c9_set"), .str (Str.ofString "c9_set") 507, (.ref 84)⟩]⟩ 18), ⟨[]⟩⟩
def o85_1 : Obj := ⟨(.type "list_iterator"), none, (.fields ⟨[.none, (.int 97 0)]⟩), ⟨[]⟩⟩
def o86 : Obj := ⟨(.type "tuple"), none, (.seq ⟨[]⟩ 0), ⟨[]⟩⟩
def o87 : Obj := ⟨(.type "StopIteration"), none, (.fields ⟨[(.ref 86), .none, .none, .none, (.bool false), .none]⟩), ⟨[]⟩⟩
def tree_10 (P : Params) : BT := (.node (boot_o_0 P) (.node (boot_o_1 P) (.node (o3_10 P) (.node (boot_o_7 P) (.node o15 (.node i_3_0_5 (.node o63 .nil .nil) .nil) (.node o47 (.node (c_9_0_96 (ledOf P)) .nil .nil) .nil)) (.node o23 (.node o39 (.node o71 .nil .nil) .nil) (.node (c_7_0_5 (ledOf P)) (.node o87 .nil .nil) .nil))) (.node o11 (.node o19 (.node o35 (.node o67_1 .nil .nil) .nil) (.node o51 (.node o83 .nil .nil) .nil)) (.node o27 (.node i_5_0_12 (.node o75 .nil .nil) .nil) (.node o59 .nil .nil)))) (.node (boot_o_5 P) (.node (boot_o_9 P) (.node o17 (.node o33 (.node o65 .nil .nil) .nil) (.node o49 (.node o81 .nil .nil) .nil)) (.node o25 (.node o41 (.node o73 .nil .nil) .nil) (.node o57 .nil .nil))) (.node o13 (.node o21 (.node o37 (.node o69 .nil .nil) .nil) (.node o53 (.node o85_1 .nil .nil) .nil)) (.node o29 (.node o45 (.node o77 .nil .nil) .nil) (.node (c_7_1_6 (ledOf P)) .nil .nil))))) (.node (boot_o_2 P) (.node (boot_o_4 P) (.node (boot_o_8 P) (.node o16 (.node o32 (.node o64 .nil .nil) .nil) (.node o48 (.node i_9_0_96 .nil .nil) .nil)) (.node o24 (.node o40 (.node o72 .nil .nil) .nil) (.node i_7_0_5 .nil .nil))) (.node o12_5 (.node o20 (.node o36 (.node o68 .nil .nil) .nil) (.node o52 (.node (c_9_1_97 (ledOf P)) .nil .nil) .nil)) (.node o28 (.node o44 (.node o76 .nil .nil) .nil) (.node o60 .nil .nil)))) (.node (boot_o_6 P) (.node (boot_o_10 P) (.node o18 (.node o34 (.node (c_7_2_15 (ledOf P)) .nil .nil) .nil) (.node o50 (.node o82 .nil .nil) .nil)) (.node o26 (.node (c_5_0_12 (ledOf P)) (.node o74 .nil .nil) .nil) (.node o58 .nil .nil))) (.node o14 (.node o22 (.node o38 (.node o70 .nil .nil) .nil) (.node o54 (.node o86 .nil .nil) .nil)) (.node (c_3_0_5 (ledOf P)) (.node o46 (.node o78 .nil .nil) .nil) (.node i_7_1_6 .nil .nil))))))
def S_10 (w : World) (os : OsState) : SharedT := ⟨tree_10 w.params, 88, life0, ⟨[]⟩, ⟨0, 0, 0, 0⟩, 508, os⟩
def o3_11 (P : Params) : Obj := ⟨(.type "dict"), none, (.dict ⟨[⟨PyData.keyHash P (Str.ofString "__name__"), .str (Str.ofString "__name__") 165, (.str (Str.ofString "cpy313.stringprep") 187)⟩, ⟨PyData.keyHash P (Str.ofString "__doc__"), .str (Str.ofString "__doc__") 166, .none⟩, ⟨PyData.keyHash P (Str.ofString "__package__"), .str (Str.ofString "__package__") 167, .none⟩, ⟨PyData.keyHash P (Str.ofString "__loader__"), .str (Str.ofString "__loader__") 168, (.builtin "__main__.__loader__#opaque")⟩, ⟨PyData.keyHash P (Str.ofString "__spec__"), .str (Str.ofString "__spec__") 169, .none⟩, ⟨PyData.keyHash P (Str.ofString "__annotations__"), .str (Str.ofString "__annotations__") 170, (.ref 6)⟩, ⟨PyData.keyHash P (Str.ofString "__builtins__"), .str (Str.ofString "__builtins__") 171, (.ref 4)⟩, ⟨PyData.keyHash P (Str.ofString "__file__"), .str (Str.ofString "__file__") 173, (.str (Str.ofString "/claim/cut.py") 172)⟩, ⟨PyData.keyHash P (Str.ofString "__cached__"), .str (Str.ofString "__cached__") 174, .none⟩, ⟨PyData.keyHash P (Str.ofString "in_table_c11"), .str (Str.ofString "in_table_c11") 195, (.ref 21)⟩, ⟨PyData.keyHash P (Str.ofString "in_table_c4"), .str (Str.ofString "in_table_c4") 203, (.ref 28)⟩, ⟨PyData.keyHash P (Str.ofString "c6_set"), .str (Str.ofString "c6_set") 217, (.ref 30)⟩, ⟨PyData.keyHash P (Str.ofString "in_table_c6"), .str (Str.ofString "in_table_c6") 224, (.ref 40)⟩, ⟨PyData.keyHash P (Str.ofString "c7_set"), .str (Str.ofString "c7_set") 252, (.ref 42)⟩, ⟨PyData.keyHash P (Str.ofString "in_table_c7"), .str (Str.ofString "in_table_c7") 259, (.ref 52)⟩, ⟨PyData.keyHash P (Str.ofString "c8_set"), .str (Str.ofString "c8_set") 300, (.ref 66)⟩, ⟨PyData.keyHash P (Str.ofString "in_table_c8"), .str (Str.ofString "in_table_c8") 307, (.ref 76)⟩, ⟨PyData.keyHash P (Str.ofString "c9_set"), .str (Str.ofString "c9_set") 507, (.ref 84)⟩, ⟨PyData.keyHash P (Str.ofString "in_table_c9"), .str (Str.ofString "in_table_c9") 514, (.ref 94)⟩]⟩ 19), ⟨[]⟩⟩
def o12_6 : Obj := ⟨.none, none, (.fields ⟨[(.int 2 0), (.int 0 0), (.ref 20), (.int 4 0), (.int 0 0), (.ref 27), (.int 12 0), (.int 0 0), (.ref 39), (.int 15 0), (.int 0 0), (.ref 51), (.int 18 0), (.int 0 0), (.ref 75), (.int 21 0), (.int 0 0), (.ref 93)]⟩), ⟨[]⟩⟩
def o88 : Obj := ⟨(.type "tuple"), none, (.seq ⟨[]⟩ 0), ⟨[]⟩⟩
def o89 : Obj := ⟨.none, none, (.fields ⟨[]⟩), ⟨[]⟩⟩
def o90 : Obj := ⟨(.type "tuple"), none, (.seq ⟨[(.str (Str.ofString "code") 511)]⟩ 0), ⟨[]⟩⟩
def o91 : Obj := ⟨(.type "tuple"), none, (.seq ⟨[]⟩ 0), ⟨[]⟩⟩
def o92 : Obj := fnObj 10 fun a b s => ⟨.none, none, .func ⟨(Str.ofString "in_table_c9"), (Str.ofString "in_table_c9"), a, (.stmts b), s, 0, [], .none, .none, .none, .none, none, .none, .none, 0⟩, ⟨[]⟩⟩
def o93 : Obj := ⟨(.type "code"), none, (.fields ⟨[(.str (Str.ofString "in_table_c9") 508), (.str (Str.ofString "in_table_c9") 509), (.str (Str.ofString "/claim/cut.py") 510), (.int 21 0), (.int 1 0), (.int 0 0), (.int 0 0), (.int 3 0), (.ref 88), (.bool true), (.int 181 0), (.ref 89), .none, (.ref 90), (.ref 91), (.ref 92), (.int 512 0), (.int 21 0), (.str (Str.ofString "/claim/cut.py") 513)]⟩), ⟨[]⟩⟩
def o94 : Obj := fnObj 10 fun a b s => ⟨(.type "function"), none, .func ⟨(Str.ofString "in_table_c9"), (Str.ofString "in_table_c9"), a, (.stmts b), s, 3, [], .none, .none, .none, (.str (Str.ofString "cpy313.stringprep") 187), none, (.ref 93), .none, 0⟩, ⟨[]⟩⟩
def tree_11 (P : Params) : BT := (.node (boot_o_0 P) (.node (boot_o_1 P) (.node (o3_11 P) (.node (boot_o_7 P) (.node o15 (.node i_3_0_5 (.node o63 .nil .nil) .nil) (.node o47 (.node (c_9_0_96 (ledOf P)) .nil .nil) .nil)) (.node o23 (.node o39 (.node o71 .nil .nil) .nil) (.node (c_7_0_5 (ledOf P)) (.node o87 .nil .nil) .nil))) (.node o11 (.node o19 (.node o35 (.node o67_1 .nil .nil) .nil) (.node o51 (.node o83 .nil .nil) .nil)) (.node o27 (.node i_5_0_12 (.node o75 .nil .nil) .nil) (.node o59 (.node o91 .nil .nil) .nil)))) (.node (boot_o_5 P) (.node (boot_o_9 P) (.node o17 (.node o33 (.node o65 .nil .nil) .nil) (.node o49 (.node o81 .nil .nil) .nil)) (.node o25 (.node o41 (.node o73 .nil .nil) .nil) (.node o57 (.node o89 .nil .nil) .nil))) (.node o13 (.node o21 (.node o37 (.node o69 .nil .nil) .nil) (.node o53 (.node o85_1 .nil .nil) .nil)) (.node o29 (.node o45 (.node o77 .nil .nil) .nil) (.node (c_7_1_6 (ledOf P)) (.node o93 .nil .nil) .nil))))) (.node (boot_o_2 P) (.node (boot_o_4 P) (.node (boot_o_8 P) (.node o16 (.node o32 (.node o64 .nil .nil) .nil) (.node o48 (.node i_9_0_96 .nil .nil) .nil)) (.node o24 (.node o40 (.node o72 .nil .nil) .nil) (.node i_7_0_5 (.node o88 .nil .nil) .nil))) (.node o12_6 (.node o20 (.node o36 (.node o68 .nil .nil) .nil) (.node o52 (.node (c_9_1_97 (ledOf P)) .nil .nil) .nil)) (.node o28 (.node o44 (.node o76 .nil .nil) .nil) (.node o60 (.node o92 .nil .nil) .nil)))) (.node (boot_o_6 P) (.node (boot_o_10 P) (.node o18 (.node o34 (.node (c_7_2_15 (ledOf P)) .nil .nil) .nil) (.node o50 (.node o82 .nil .nil) .nil)) (.node o26 (.node (c_5_0_12 (ledOf P)) (.node o74 .nil .nil) .nil) (.node o58 (.node o90 .nil .nil) .nil))) (.node o14 (.node o22 (.node o38 (.node o70 .nil .nil) .nil) (.node o54 (.node o86 .nil .nil) .nil)) (.node (c_3_0_5 (ledOf P)) (.node o46 (.node o78 .nil .nil) .nil) (.node i_7_1_6 (.node o94 .nil .nil) .nil))))))
def S_11 (w : World) (os : OsState) : SharedT := ⟨tree_11 w.params, 95, life0, ⟨[]⟩, ⟨0, 0, 0, 0⟩, 515, os⟩
def o3_12 (P : Params) : Obj := ⟨(.type "dict"), none, (.dict ⟨[⟨PyData.keyHash P (Str.ofString "__name__"), .str (Str.ofString "__name__") 165, (.str (Str.ofString "law_wy0070_01") 515)⟩, ⟨PyData.keyHash P (Str.ofString "__doc__"), .str (Str.ofString "__doc__") 166, .none⟩, ⟨PyData.keyHash P (Str.ofString "__package__"), .str (Str.ofString "__package__") 167, .none⟩, ⟨PyData.keyHash P (Str.ofString "__loader__"), .str (Str.ofString "__loader__") 168, (.builtin "__main__.__loader__#opaque")⟩, ⟨PyData.keyHash P (Str.ofString "__spec__"), .str (Str.ofString "__spec__") 169, .none⟩, ⟨PyData.keyHash P (Str.ofString "__annotations__"), .str (Str.ofString "__annotations__") 170, (.ref 6)⟩, ⟨PyData.keyHash P (Str.ofString "__builtins__"), .str (Str.ofString "__builtins__") 171, (.ref 4)⟩, ⟨PyData.keyHash P (Str.ofString "__file__"), .str (Str.ofString "__file__") 173, (.str (Str.ofString "/claim/cut.py") 172)⟩, ⟨PyData.keyHash P (Str.ofString "__cached__"), .str (Str.ofString "__cached__") 174, .none⟩, ⟨PyData.keyHash P (Str.ofString "in_table_c11"), .str (Str.ofString "in_table_c11") 195, (.ref 21)⟩, ⟨PyData.keyHash P (Str.ofString "in_table_c4"), .str (Str.ofString "in_table_c4") 203, (.ref 28)⟩, ⟨PyData.keyHash P (Str.ofString "c6_set"), .str (Str.ofString "c6_set") 217, (.ref 30)⟩, ⟨PyData.keyHash P (Str.ofString "in_table_c6"), .str (Str.ofString "in_table_c6") 224, (.ref 40)⟩, ⟨PyData.keyHash P (Str.ofString "c7_set"), .str (Str.ofString "c7_set") 252, (.ref 42)⟩, ⟨PyData.keyHash P (Str.ofString "in_table_c7"), .str (Str.ofString "in_table_c7") 259, (.ref 52)⟩, ⟨PyData.keyHash P (Str.ofString "c8_set"), .str (Str.ofString "c8_set") 300, (.ref 66)⟩, ⟨PyData.keyHash P (Str.ofString "in_table_c8"), .str (Str.ofString "in_table_c8") 307, (.ref 76)⟩, ⟨PyData.keyHash P (Str.ofString "c9_set"), .str (Str.ofString "c9_set") 507, (.ref 84)⟩, ⟨PyData.keyHash P (Str.ofString "in_table_c9"), .str (Str.ofString "in_table_c9") 514, (.ref 94)⟩]⟩ 19), ⟨[]⟩⟩
def tree_12 (P : Params) : BT := (.node (boot_o_0 P) (.node (boot_o_1 P) (.node (o3_12 P) (.node (boot_o_7 P) (.node o15 (.node i_3_0_5 (.node o63 .nil .nil) .nil) (.node o47 (.node (c_9_0_96 (ledOf P)) .nil .nil) .nil)) (.node o23 (.node o39 (.node o71 .nil .nil) .nil) (.node (c_7_0_5 (ledOf P)) (.node o87 .nil .nil) .nil))) (.node o11 (.node o19 (.node o35 (.node o67_1 .nil .nil) .nil) (.node o51 (.node o83 .nil .nil) .nil)) (.node o27 (.node i_5_0_12 (.node o75 .nil .nil) .nil) (.node o59 (.node o91 .nil .nil) .nil)))) (.node (boot_o_5 P) (.node (boot_o_9 P) (.node o17 (.node o33 (.node o65 .nil .nil) .nil) (.node o49 (.node o81 .nil .nil) .nil)) (.node o25 (.node o41 (.node o73 .nil .nil) .nil) (.node o57 (.node o89 .nil .nil) .nil))) (.node o13 (.node o21 (.node o37 (.node o69 .nil .nil) .nil) (.node o53 (.node o85_1 .nil .nil) .nil)) (.node o29 (.node o45 (.node o77 .nil .nil) .nil) (.node (c_7_1_6 (ledOf P)) (.node o93 .nil .nil) .nil))))) (.node (boot_o_2 P) (.node (boot_o_4 P) (.node (boot_o_8 P) (.node o16 (.node o32 (.node o64 .nil .nil) .nil) (.node o48 (.node i_9_0_96 .nil .nil) .nil)) (.node o24 (.node o40 (.node o72 .nil .nil) .nil) (.node i_7_0_5 (.node o88 .nil .nil) .nil))) (.node o12_6 (.node o20 (.node o36 (.node o68 .nil .nil) .nil) (.node o52 (.node (c_9_1_97 (ledOf P)) .nil .nil) .nil)) (.node o28 (.node o44 (.node o76 .nil .nil) .nil) (.node o60 (.node o92 .nil .nil) .nil)))) (.node (boot_o_6 P) (.node (boot_o_10 P) (.node o18 (.node o34 (.node (c_7_2_15 (ledOf P)) .nil .nil) .nil) (.node o50 (.node o82 .nil .nil) .nil)) (.node o26 (.node (c_5_0_12 (ledOf P)) (.node o74 .nil .nil) .nil) (.node o58 (.node o90 .nil .nil) .nil))) (.node o14 (.node o22 (.node o38 (.node o70 .nil .nil) .nil) (.node o54 (.node o86 .nil .nil) .nil)) (.node (c_3_0_5 (ledOf P)) (.node o46 (.node o78 .nil .nil) .nil) (.node i_7_1_6 (.node o94 .nil .nil) .nil))))))
def S_12 (w : World) (os : OsState) : SharedT := ⟨tree_12 w.params, 95, life0, ⟨[]⟩, ⟨0, 0, 0, 0⟩, 517, os⟩
def o3_13 (P : Params) : Obj := ⟨(.type "dict"), none, (.dict ⟨[⟨PyData.keyHash P (Str.ofString "__name__"), .str (Str.ofString "__name__") 165, (.str (Str.ofString "law_wy0070_01") 515)⟩, ⟨PyData.keyHash P (Str.ofString "__doc__"), .str (Str.ofString "__doc__") 166, .none⟩, ⟨PyData.keyHash P (Str.ofString "__package__"), .str (Str.ofString "__package__") 167, .none⟩, ⟨PyData.keyHash P (Str.ofString "__loader__"), .str (Str.ofString "__loader__") 168, (.builtin "__main__.__loader__#opaque")⟩, ⟨PyData.keyHash P (Str.ofString "__spec__"), .str (Str.ofString "__spec__") 169, .none⟩, ⟨PyData.keyHash P (Str.ofString "__annotations__"), .str (Str.ofString "__annotations__") 170, (.ref 6)⟩, ⟨PyData.keyHash P (Str.ofString "__builtins__"), .str (Str.ofString "__builtins__") 171, (.ref 4)⟩, ⟨PyData.keyHash P (Str.ofString "__file__"), .str (Str.ofString "__file__") 173, (.str (Str.ofString "/claim/cut.py") 172)⟩, ⟨PyData.keyHash P (Str.ofString "__cached__"), .str (Str.ofString "__cached__") 174, .none⟩, ⟨PyData.keyHash P (Str.ofString "in_table_c11"), .str (Str.ofString "in_table_c11") 195, (.ref 21)⟩, ⟨PyData.keyHash P (Str.ofString "in_table_c4"), .str (Str.ofString "in_table_c4") 203, (.ref 28)⟩, ⟨PyData.keyHash P (Str.ofString "c6_set"), .str (Str.ofString "c6_set") 217, (.ref 30)⟩, ⟨PyData.keyHash P (Str.ofString "in_table_c6"), .str (Str.ofString "in_table_c6") 224, (.ref 40)⟩, ⟨PyData.keyHash P (Str.ofString "c7_set"), .str (Str.ofString "c7_set") 252, (.ref 42)⟩, ⟨PyData.keyHash P (Str.ofString "in_table_c7"), .str (Str.ofString "in_table_c7") 259, (.ref 52)⟩, ⟨PyData.keyHash P (Str.ofString "c8_set"), .str (Str.ofString "c8_set") 300, (.ref 66)⟩, ⟨PyData.keyHash P (Str.ofString "in_table_c8"), .str (Str.ofString "in_table_c8") 307, (.ref 76)⟩, ⟨PyData.keyHash P (Str.ofString "c9_set"), .str (Str.ofString "c9_set") 507, (.ref 84)⟩, ⟨PyData.keyHash P (Str.ofString "in_table_c9"), .str (Str.ofString "in_table_c9") 514, (.ref 94)⟩, ⟨PyData.keyHash P (Str.ofString "_law_good"), .str (Str.ofString "_law_good") 526, (.ref 101)⟩]⟩ 20), ⟨[]⟩⟩
def o12_7 : Obj := ⟨.none, none, (.fields ⟨[(.int 2 0), (.int 0 0), (.ref 20), (.int 4 0), (.int 0 0), (.ref 27), (.int 12 0), (.int 0 0), (.ref 39), (.int 15 0), (.int 0 0), (.ref 51), (.int 18 0), (.int 0 0), (.ref 75), (.int 21 0), (.int 0 0), (.ref 93), (.int 24 0), (.int 0 0), (.ref 100)]⟩), ⟨[]⟩⟩
def o95 : Obj := ⟨(.type "tuple"), none, (.seq ⟨[]⟩ 0), ⟨[]⟩⟩
def o96 : Obj := ⟨.none, none, (.fields ⟨[]⟩), ⟨[]⟩⟩
def o97 : Obj := ⟨(.type "tuple"), none, (.seq ⟨[(.str (Str.ofString "code") 520), (.str (Str.ofString "sign") 521), (.str (Str.ofString "none") 522), (.str (Str.ofString "shown") 523)]⟩ 0), ⟨[]⟩⟩
def o98 : Obj := ⟨(.type "tuple"), none, (.seq ⟨[]⟩ 0), ⟨[]⟩⟩
def o99 : Obj := fnObj 12 fun a b s => ⟨.none, none, .func ⟨(Str.ofString "_law_good"), (Str.ofString "_law_good"), a, (.stmts b), s, 0, [], .none, .none, .none, .none, none, .none, .none, 0⟩, ⟨[]⟩⟩
def o100 : Obj := ⟨(.type "code"), none, (.fields ⟨[(.str (Str.ofString "_law_good") 517), (.str (Str.ofString "_law_good") 518), (.str (Str.ofString "/claim/cut.py") 519), (.int 24 0), (.int 1 0), (.int 0 0), (.int 0 0), (.int 3 0), (.ref 95), (.bool true), (.int 181 0), (.ref 96), .none, (.ref 97), (.ref 98), (.ref 99), (.int 524 0), (.int 24 0), (.str (Str.ofString "/claim/cut.py") 525)]⟩), ⟨[]⟩⟩
def o101 : Obj := fnObj 12 fun a b s => ⟨(.type "function"), none, .func ⟨(Str.ofString "_law_good"), (Str.ofString "_law_good"), a, (.stmts b), s, 3, [], .none, .none, .none, (.str (Str.ofString "law_wy0070_01") 515), none, (.ref 100), .none, 0⟩, ⟨[]⟩⟩
def tree_13 (P : Params) : BT := (.node (boot_o_0 P) (.node (boot_o_1 P) (.node (o3_13 P) (.node (boot_o_7 P) (.node o15 (.node i_3_0_5 (.node o63 .nil .nil) (.node o95 .nil .nil)) (.node o47 (.node (c_9_0_96 (ledOf P)) .nil .nil) .nil)) (.node o23 (.node o39 (.node o71 .nil .nil) .nil) (.node (c_7_0_5 (ledOf P)) (.node o87 .nil .nil) .nil))) (.node o11 (.node o19 (.node o35 (.node o67_1 .nil .nil) (.node o99 .nil .nil)) (.node o51 (.node o83 .nil .nil) .nil)) (.node o27 (.node i_5_0_12 (.node o75 .nil .nil) .nil) (.node o59 (.node o91 .nil .nil) .nil)))) (.node (boot_o_5 P) (.node (boot_o_9 P) (.node o17 (.node o33 (.node o65 .nil .nil) (.node o97 .nil .nil)) (.node o49 (.node o81 .nil .nil) .nil)) (.node o25 (.node o41 (.node o73 .nil .nil) .nil) (.node o57 (.node o89 .nil .nil) .nil))) (.node o13 (.node o21 (.node o37 (.node o69 .nil .nil) (.node o101 .nil .nil)) (.node o53 (.node o85_1 .nil .nil) .nil)) (.node o29 (.node o45 (.node o77 .nil .nil) .nil) (.node (c_7_1_6 (ledOf P)) (.node o93 .nil .nil) .nil))))) (.node (boot_o_2 P) (.node (boot_o_4 P) (.node (boot_o_8 P) (.node o16 (.node o32 (.node o64 .nil .nil) (.node o96 .nil .nil)) (.node o48 (.node i_9_0_96 .nil .nil) .nil)) (.node o24 (.node o40 (.node o72 .nil .nil) .nil) (.node i_7_0_5 (.node o88 .nil .nil) .nil))) (.node o12_7 (.node o20 (.node o36 (.node o68 .nil .nil) (.node o100 .nil .nil)) (.node o52 (.node (c_9_1_97 (ledOf P)) .nil .nil) .nil)) (.node o28 (.node o44 (.node o76 .nil .nil) .nil) (.node o60 (.node o92 .nil .nil) .nil)))) (.node (boot_o_6 P) (.node (boot_o_10 P) (.node o18 (.node o34 (.node (c_7_2_15 (ledOf P)) .nil .nil) (.node o98 .nil .nil)) (.node o50 (.node o82 .nil .nil) .nil)) (.node o26 (.node (c_5_0_12 (ledOf P)) (.node o74 .nil .nil) .nil) (.node o58 (.node o90 .nil .nil) .nil))) (.node o14 (.node o22 (.node o38 (.node o70 .nil .nil) .nil) (.node o54 (.node o86 .nil .nil) .nil)) (.node (c_3_0_5 (ledOf P)) (.node o46 (.node o78 .nil .nil) .nil) (.node i_7_1_6 (.node o94 .nil .nil) .nil))))))
def S_13 (w : World) (os : OsState) : SharedT := ⟨tree_13 w.params, 102, life0, ⟨[]⟩, ⟨0, 0, 0, 0⟩, 527, os⟩
def o3_14 (P : Params) : Obj := ⟨(.type "dict"), none, (.dict ⟨[⟨PyData.keyHash P (Str.ofString "__name__"), .str (Str.ofString "__name__") 165, (.str (Str.ofString "law_wy0070_01") 515)⟩, ⟨PyData.keyHash P (Str.ofString "__doc__"), .str (Str.ofString "__doc__") 166, .none⟩, ⟨PyData.keyHash P (Str.ofString "__package__"), .str (Str.ofString "__package__") 167, .none⟩, ⟨PyData.keyHash P (Str.ofString "__loader__"), .str (Str.ofString "__loader__") 168, (.builtin "__main__.__loader__#opaque")⟩, ⟨PyData.keyHash P (Str.ofString "__spec__"), .str (Str.ofString "__spec__") 169, .none⟩, ⟨PyData.keyHash P (Str.ofString "__annotations__"), .str (Str.ofString "__annotations__") 170, (.ref 6)⟩, ⟨PyData.keyHash P (Str.ofString "__builtins__"), .str (Str.ofString "__builtins__") 171, (.ref 4)⟩, ⟨PyData.keyHash P (Str.ofString "__file__"), .str (Str.ofString "__file__") 173, (.str (Str.ofString "/claim/cut.py") 172)⟩, ⟨PyData.keyHash P (Str.ofString "__cached__"), .str (Str.ofString "__cached__") 174, .none⟩, ⟨PyData.keyHash P (Str.ofString "in_table_c11"), .str (Str.ofString "in_table_c11") 195, (.ref 21)⟩, ⟨PyData.keyHash P (Str.ofString "in_table_c4"), .str (Str.ofString "in_table_c4") 203, (.ref 28)⟩, ⟨PyData.keyHash P (Str.ofString "c6_set"), .str (Str.ofString "c6_set") 217, (.ref 30)⟩, ⟨PyData.keyHash P (Str.ofString "in_table_c6"), .str (Str.ofString "in_table_c6") 224, (.ref 40)⟩, ⟨PyData.keyHash P (Str.ofString "c7_set"), .str (Str.ofString "c7_set") 252, (.ref 42)⟩, ⟨PyData.keyHash P (Str.ofString "in_table_c7"), .str (Str.ofString "in_table_c7") 259, (.ref 52)⟩, ⟨PyData.keyHash P (Str.ofString "c8_set"), .str (Str.ofString "c8_set") 300, (.ref 66)⟩, ⟨PyData.keyHash P (Str.ofString "in_table_c8"), .str (Str.ofString "in_table_c8") 307, (.ref 76)⟩, ⟨PyData.keyHash P (Str.ofString "c9_set"), .str (Str.ofString "c9_set") 507, (.ref 84)⟩, ⟨PyData.keyHash P (Str.ofString "in_table_c9"), .str (Str.ofString "in_table_c9") 514, (.ref 94)⟩, ⟨PyData.keyHash P (Str.ofString "_law_good"), .str (Str.ofString "_law_good") 526, (.ref 101)⟩, ⟨PyData.keyHash P (Str.ofString "law"), .str (Str.ofString "law") 538, (.ref 108)⟩]⟩ 21), ⟨[]⟩⟩
def o12_8 : Obj := ⟨.none, none, (.fields ⟨[(.int 2 0), (.int 0 0), (.ref 20), (.int 4 0), (.int 0 0), (.ref 27), (.int 12 0), (.int 0 0), (.ref 39), (.int 15 0), (.int 0 0), (.ref 51), (.int 18 0), (.int 0 0), (.ref 75), (.int 21 0), (.int 0 0), (.ref 93), (.int 24 0), (.int 0 0), (.ref 100), (.int 33 0), (.int 0 0), (.ref 107)]⟩), ⟨[]⟩⟩
def o102 : Obj := ⟨(.type "tuple"), none, (.seq ⟨[]⟩ 0), ⟨[]⟩⟩
def o103 : Obj := ⟨.none, none, (.fields ⟨[]⟩), ⟨[]⟩⟩
def o104 : Obj := ⟨(.type "tuple"), none, (.seq ⟨[(.str (Str.ofString "script") 530), (.str (Str.ofString "edges") 531), (.str (Str.ofString "number") 532), (.str (Str.ofString "code") 533), (.str (Str.ofString "beside") 534), (.str (Str.ofString "one") 535)]⟩ 0), ⟨[]⟩⟩
def o105 : Obj := ⟨(.type "tuple"), none, (.seq ⟨[]⟩ 0), ⟨[]⟩⟩
def o106 : Obj := fnObj 13 fun a b s => ⟨.none, none, .func ⟨(Str.ofString "law"), (Str.ofString "law"), a, (.stmts b), s, 0, [], .none, .none, .none, .none, none, .none, .none, 0⟩, ⟨[]⟩⟩
def o107 : Obj := ⟨(.type "code"), none, (.fields ⟨[(.str (Str.ofString "law") 527), (.str (Str.ofString "law") 528), (.str (Str.ofString "/claim/cut.py") 529), (.int 33 0), (.int 1 0), (.int 0 0), (.int 0 0), (.int 3 0), (.ref 102), (.bool true), (.int 181 0), (.ref 103), .none, (.ref 104), (.ref 105), (.ref 106), (.int 536 0), (.int 33 0), (.str (Str.ofString "/claim/cut.py") 537)]⟩), ⟨[]⟩⟩
def o108 : Obj := fnObj 13 fun a b s => ⟨(.type "function"), none, .func ⟨(Str.ofString "law"), (Str.ofString "law"), a, (.stmts b), s, 3, [], .none, .none, .none, (.str (Str.ofString "law_wy0070_01") 515), none, (.ref 107), .none, 0⟩, ⟨[]⟩⟩
def tree_14 (P : Params) : BT := (.node (boot_o_0 P) (.node (boot_o_1 P) (.node (o3_14 P) (.node (boot_o_7 P) (.node o15 (.node i_3_0_5 (.node o63 .nil .nil) (.node o95 .nil .nil)) (.node o47 (.node (c_9_0_96 (ledOf P)) .nil .nil) .nil)) (.node o23 (.node o39 (.node o71 .nil .nil) (.node o103 .nil .nil)) (.node (c_7_0_5 (ledOf P)) (.node o87 .nil .nil) .nil))) (.node o11 (.node o19 (.node o35 (.node o67_1 .nil .nil) (.node o99 .nil .nil)) (.node o51 (.node o83 .nil .nil) .nil)) (.node o27 (.node i_5_0_12 (.node o75 .nil .nil) (.node o107 .nil .nil)) (.node o59 (.node o91 .nil .nil) .nil)))) (.node (boot_o_5 P) (.node (boot_o_9 P) (.node o17 (.node o33 (.node o65 .nil .nil) (.node o97 .nil .nil)) (.node o49 (.node o81 .nil .nil) .nil)) (.node o25 (.node o41 (.node o73 .nil .nil) (.node o105 .nil .nil)) (.node o57 (.node o89 .nil .nil) .nil))) (.node o13 (.node o21 (.node o37 (.node o69 .nil .nil) (.node o101 .nil .nil)) (.node o53 (.node o85_1 .nil .nil) .nil)) (.node o29 (.node o45 (.node o77 .nil .nil) .nil) (.node (c_7_1_6 (ledOf P)) (.node o93 .nil .nil) .nil))))) (.node (boot_o_2 P) (.node (boot_o_4 P) (.node (boot_o_8 P) (.node o16 (.node o32 (.node o64 .nil .nil) (.node o96 .nil .nil)) (.node o48 (.node i_9_0_96 .nil .nil) .nil)) (.node o24 (.node o40 (.node o72 .nil .nil) (.node o104 .nil .nil)) (.node i_7_0_5 (.node o88 .nil .nil) .nil))) (.node o12_8 (.node o20 (.node o36 (.node o68 .nil .nil) (.node o100 .nil .nil)) (.node o52 (.node (c_9_1_97 (ledOf P)) .nil .nil) .nil)) (.node o28 (.node o44 (.node o76 .nil .nil) (.node o108 .nil .nil)) (.node o60 (.node o92 .nil .nil) .nil)))) (.node (boot_o_6 P) (.node (boot_o_10 P) (.node o18 (.node o34 (.node (c_7_2_15 (ledOf P)) .nil .nil) (.node o98 .nil .nil)) (.node o50 (.node o82 .nil .nil) .nil)) (.node o26 (.node (c_5_0_12 (ledOf P)) (.node o74 .nil .nil) (.node o106 .nil .nil)) (.node o58 (.node o90 .nil .nil) .nil))) (.node o14 (.node o22 (.node o38 (.node o70 .nil .nil) (.node o102 .nil .nil)) (.node o54 (.node o86 .nil .nil) .nil)) (.node (c_3_0_5 (ledOf P)) (.node o46 (.node o78 .nil .nil) .nil) (.node i_7_1_6 (.node o94 .nil .nil) .nil))))))
def S_14 (w : World) (os : OsState) : SharedT := ⟨tree_14 w.params, 109, life0, ⟨[]⟩, ⟨0, 0, 0, 0⟩, 539, os⟩
def partK (P : Params) : Frag := (nat_lit 2, (boot_o_2 P)) :: (nat_lit 3, (o3_14 P)) :: (nat_lit 6, (boot_o_6 P)) :: (nat_lit 15, o15) :: (nat_lit 17, o17) :: (nat_lit 18, o18) :: (nat_lit 20, o20) :: (nat_lit 21, o21) :: (nat_lit 22, o22) :: (nat_lit 24, o24) :: (nat_lit 25, o25) :: (nat_lit 27, o27) :: (nat_lit 28, o28) :: (nat_lit 30, (c_3_0_5 (ledOf P))) :: (nat_lit 34, o34) :: (nat_lit 36, o36) :: (nat_lit 37, o37) :: (nat_lit 39, o39) :: (nat_lit 40, o40) :: (nat_lit 42, (c_5_0_12 (ledOf P))) :: (nat_lit 46, o46) :: (nat_lit 48, o48) :: (nat_lit 49, o49) :: (nat_lit 51, o51) :: (nat_lit 52, o52) :: (nat_lit 66, (c_7_2_15 (ledOf P))) :: (nat_lit 70, o70) :: (nat_lit 72, o72) :: (nat_lit 73, o73) :: (nat_lit 75, o75) :: (nat_lit 76, o76) :: (nat_lit 84, (c_9_1_97 (ledOf P))) :: (nat_lit 88, o88) :: (nat_lit 90, o90) :: (nat_lit 91, o91) :: (nat_lit 93, o93) :: (nat_lit 94, o94) :: (nat_lit 95, o95) :: (nat_lit 97, o97) :: (nat_lit 98, o98) :: (nat_lit 100, o100) :: (nat_lit 101, o101) :: (nat_lit 102, o102) :: (nat_lit 104, o104) :: (nat_lit 105, o105) :: (nat_lit 107, o107) :: (nat_lit 108, o108) :: []
def partA : List Addr := nat_lit 2 :: nat_lit 3 :: nat_lit 6 :: nat_lit 15 :: nat_lit 17 :: nat_lit 18 :: nat_lit 20 :: nat_lit 21 :: nat_lit 22 :: nat_lit 24 :: nat_lit 25 :: nat_lit 27 :: nat_lit 28 :: nat_lit 30 :: nat_lit 34 :: nat_lit 36 :: nat_lit 37 :: nat_lit 39 :: nat_lit 40 :: nat_lit 42 :: nat_lit 46 :: nat_lit 48 :: nat_lit 49 :: nat_lit 51 :: nat_lit 52 :: nat_lit 66 :: nat_lit 70 :: nat_lit 72 :: nat_lit 73 :: nat_lit 75 :: nat_lit 76 :: nat_lit 84 :: nat_lit 88 :: nat_lit 90 :: nat_lit 91 :: nat_lit 93 :: nat_lit 94 :: nat_lit 95 :: nat_lit 97 :: nat_lit 98 :: nat_lit 100 :: nat_lit 101 :: nat_lit 102 :: nat_lit 104 :: nat_lit 105 :: nat_lit 107 :: nat_lit 108 :: []
def heapZ (P : Params) : Heap := ⟨⟨[(boot_o_0 P), (boot_o_1 P), (boot_o_2 P), (o3_14 P), (boot_o_4 P), (boot_o_5 P), (boot_o_6 P), (boot_o_7 P), (boot_o_8 P), (boot_o_9 P), (boot_o_10 P), o11, o12_8, o13, o14, o15, o16, o17, o18, o19, o20, o21, o22, o23, o24, o25, o26, o27, o28, o29, (c_3_0_5 (ledOf P)), i_3_0_5, o32, o33, o34, o35, o36, o37, o38, o39, o40, o41, (c_5_0_12 (ledOf P)), i_5_0_12, o44, o45, o46, o47, o48, o49, o50, o51, o52, o53, o54, (c_7_0_5 (ledOf P)), i_7_0_5, o57, o58, o59, o60, (c_7_1_6 (ledOf P)), i_7_1_6, o63, o64, o65, (c_7_2_15 (ledOf P)), o67_1, o68, o69, o70, o71, o72, o73, o74, o75, o76, o77, o78, (c_9_0_96 (ledOf P)), i_9_0_96, o81, o82, o83, (c_9_1_97 (ledOf P)), o85_1, o86, o87, o88, o89, o90, o91, o92, o93, o94, o95, o96, o97, o98, o99, o100, o101, o102, o103, o104, o105, o106, o107, o108]⟩, life0⟩
end Wy70
end

end
section -- WzSeg

open PySem PySem.W PyProof.Rows
set_option maxRecDepth 100000
namespace Wy70
/-- the filled places of a table and what lies in them, read in one pass -/
def liveGo : Nat → List (Option Nat) → List (Nat × Nat)
  | _, [] => []
  | i, none :: r => liveGo (i + 1) r
  | i, some k :: r => (i, k) :: liveGo (i + 1) r
theorem live_go (g : Nat → Option Nat) : ∀ (n i : Nat) (l : List (Option Nat)), (∀ j, g (i + j) = (l[j]?).getD none) →
    ((List.range n).map (i + ·)).filterMap (fun j => (g j).map (j, ·)) = liveGo i (l.take n)
  | 0, i, l, _ => by simp [liveGo]
  | n + 1, i, [], h => by
    rw [List.take_nil]
    show _ = []
    rw [List.filterMap_eq_nil_iff]
    intro a ha
    obtain ⟨j, _, rfl⟩ := List.mem_map.mp ha
    rw [h j]; rfl
  | n + 1, i, x :: l, h => by
    have ih := live_go g n (i + 1) l (fun j => by
      have := h (j + 1)
      rw [show i + 1 + j = i + (j + 1) by omega, this]; rfl)
    have e : ((List.range (n + 1)).map (i + ·)) = i :: ((List.range n).map (i + 1 + ·)) := by
      rw [List.range_succ_eq_map, List.map_cons, List.map_map]
      congr 1
      apply List.map_congr_left
      intro a _
      show i + (a + 1) = i + 1 + a
      omega
    have h0 : g i = x := h 0
    rw [e, List.take_succ_cons, List.filterMap_cons, h0, ih]
    cases x <;> rfl
theorem live_eq (a : Array (Option Nat)) (n : Nat) : ((List.range n).filterMap fun j => (a.getD j none).map (j, ·)) = liveGo 0 (a.toList.take n) := by
  have := live_go (fun j => a.getD j none) n 0 a.toList (fun j => by
    rw [Nat.zero_add, Array.getD_eq_getD_getElem?, Array.getElem?_toList])
  rw [← this]
  congr 1
  simp
noncomputable def laidQ (mask finger moves : Nat) (led plain : Bool) (hashes : Array Int) : Option (SetTable × Array Nat) :=
  (PySem.W.Fast.tw7819970700801150999 mask hashes).map fun o => (fun l : List (Nat × Nat) => (⟨mask, (l.map (·.1)).toArray, #[], finger, led, moves, plain⟩, (l.map (·.2)).toArray)) (liveGo 0 (o.toList.take (mask + 1)))
theorem laid_eq : PySem.W.Fast.tw15858942944536088197 = laidQ := by
  rw [← PySem.W.Fast.te15858942944536088197]
  funext mask finger moves led plain hashes
  unfold SetTable.laid laidQ
  rw [PySem.W.Fast.te7819970700801150999]
  cases PySem.W.Fast.tw7819970700801150999 mask hashes with
  | none => rfl
  | some o =>
    show some _ = some _
    rw [live_eq]
theorem loop_cur (s i : Addr) (pos : Pos) (st : List Frame) : loopAt PySem.W.SL.s10534883147002075979x15 ⟨[(.ref s), (.ref i)], []⟩ pos st = ⟨PySem.W.Fast.tw14453038532278432606 ⟨[(.ref s), (.ref i)], []⟩, .builtin PySem.W.SL.s10534883147002075979x15 ⟨[(.ref s), (.ref i)], []⟩, pos, st⟩ := by kernel_rfl
noncomputable def belowQ (a : Addr) (x : Value) (h : Int) := (Nat.brecOn.go 100000 (PySem.W.Fast.tw4328697075774883827 a x h)).2
theorem hashed_eq : PySem.W.Fast.tw16065284519293194179 = fun a x h => PySem.W.Fast.tw17359229931016689406 [x] (PySem.W.Fast.tw4328697075774883827 a x h 100000 (belowQ a x h)) := by
  funext a x h
  delta PySem.W.Fast.tw16065284519293194179 PySem.W.Fast.tw1802229478528348949
  rw [Nat.brecOn.eq]
  rfl
theorem scan_eq : @byScan = fun x es => x.scannable && decide (es.toList.length < scanBound) && es.toList.all (fun e => e.2.scannable) := by
  funext x es
  unfold byScan
  rw [Array.all_toList]
  rfl
theorem ins_eq : @PySem.W.Fast.tw6250550593420942560 = fun _ xs p x => ⟨xs.toList.take p ++ x :: xs.toList.drop p⟩ := by
  rw [← PySem.W.Fast.te6250550593420942560]
  funext α xs p x
  unfold SetTable.insertAt
  apply Array.toList_inj.mp
  simp
  exact List.take_of_length_le (by simp)
theorem rowed {P : World → Prop} (hf : ∀ w : World, P (w.withFollow "special-get-raises" false)) (ht : ∀ w : World, P (w.withFollow "special-get-raises" true)) : ∀ w : World, P w := fun w => byRow2 "special-get-raises" hf ht w
theorem turn_of {w : World} {n : Nat} {s : SharedT} {i j : Addr} {pos : Pos} {st : List Frame} {y : Option (SharedT × Thread)}
    (h : goQ w n s ⟨PySem.W.Fast.tw14453038532278432606 ⟨[(.ref i), (.ref j)], []⟩, .builtin PySem.W.SL.s10534883147002075979x15 ⟨[(.ref i), (.ref j)], []⟩, pos, st⟩ = y) :
    goQ w n s (loopAt PySem.W.SL.s10534883147002075979x15 ⟨[(.ref i), (.ref j)], []⟩ pos st) = y := (congrArg _ (loop_cur i j pos st)).trans h
theorem pc_0 (w : World) (os : OsState) : runQ w 10 (S_0 w os) (wholeAt 0 ⟨0, 0, 0, 0⟩) = some (.next, S_1 w os, cE, ⟨1, 0, 1, 8⟩) := by kernel_rfl
theorem pc_1 (w : World) (os : OsState) : runQ w 30 (S_1 w os) (wholeAt 1 ⟨1, 0, 1, 8⟩) = some (.next, S_2 w os, cE, ⟨2, 0, 3, 22⟩) := by kernel_rfl
theorem pc_2 (w : World) (os : OsState) : runQ w 31 (S_2 w os) (wholeAt 2 ⟨2, 0, 3, 22⟩) = some (.next, S_3 w os, cE, ⟨4, 0, 10, 46⟩) := by kernel_rfl
theorem go_3_0 (w : World) : ∀ (os : OsState), goQ w 58 (S_3 w os) (wholeAt 3 ⟨4, 0, 10, 46⟩) = some ((S_3_0_0 (ledOf w.params)) w os, (loopAt PySem.W.SL.s10534883147002075979x15 ⟨[(.ref 30), (.ref 31)], []⟩ ⟨11, 9, 11, 33⟩ (stk_3_0 w os))) := byRow2 "special-get-raises" (P := fun w => ∀ (os : OsState), goQ w 58 (S_3 w os) (wholeAt 3 ⟨4, 0, 10, 46⟩) = some ((S_3_0_0 (ledOf w.params)) w os, (loopAt PySem.W.SL.s10534883147002075979x15 ⟨[(.ref 30), (.ref 31)], []⟩ ⟨11, 9, 11, 33⟩ (stk_3_0 w os)))) (by intro w os; kernel_rfl) (by intro w os; kernel_rfl) w
theorem tn_3_0_0 (w : World) : ∀ (os : OsState) (f1 f2 : Frame) (r : List Frame) (b : Bool), goQ w 23 ((S_3_0_0 b) w os) (loopAt PySem.W.SL.s10534883147002075979x15 ⟨[(.ref 30), (.ref 31)], []⟩ ⟨11, 9, 11, 33⟩ (f1 :: f2 :: r)) = some ((S_3_0_1 b) w os, (loopAt PySem.W.SL.s10534883147002075979x15 ⟨[(.ref 30), (.ref 31)], []⟩ ⟨11, 9, 11, 33⟩ (f1 :: f2 :: r))) := byRow2 "special-get-raises" (P := fun w => ∀ (os : OsState) (f1 f2 : Frame) (r : List Frame) (b : Bool), goQ w 23 ((S_3_0_0 b) w os) (loopAt PySem.W.SL.s10534883147002075979x15 ⟨[(.ref 30), (.ref 31)], []⟩ ⟨11, 9, 11, 33⟩ (f1 :: f2 :: r)) = some ((S_3_0_1 b) w os, (loopAt PySem.W.SL.s10534883147002075979x15 ⟨[(.ref 30), (.ref 31)], []⟩ ⟨11, 9, 11, 33⟩ (f1 :: f2 :: r)))) (by intro w os f1 f2 r b; cases b <;> kernel_rfl) (by intro w os f1 f2 r b; cases b <;> kernel_rfl) w
theorem tn_3_0_1 (w : World) : ∀ (os : OsState) (f1 f2 : Frame) (r : List Frame) (b : Bool), goQ w 23 ((S_3_0_1 b) w os) (loopAt PySem.W.SL.s10534883147002075979x15 ⟨[(.ref 30), (.ref 31)], []⟩ ⟨11, 9, 11, 33⟩ (f1 :: f2 :: r)) = some ((S_3_0_2 b) w os, (loopAt PySem.W.SL.s10534883147002075979x15 ⟨[(.ref 30), (.ref 31)], []⟩ ⟨11, 9, 11, 33⟩ (f1 :: f2 :: r))) := byRow2 "special-get-raises" (P := fun w => ∀ (os : OsState) (f1 f2 : Frame) (r : List Frame) (b : Bool), goQ w 23 ((S_3_0_1 b) w os) (loopAt PySem.W.SL.s10534883147002075979x15 ⟨[(.ref 30), (.ref 31)], []⟩ ⟨11, 9, 11, 33⟩ (f1 :: f2 :: r)) = some ((S_3_0_2 b) w os, (loopAt PySem.W.SL.s10534883147002075979x15 ⟨[(.ref 30), (.ref 31)], []⟩ ⟨11, 9, 11, 33⟩ (f1 :: f2 :: r)))) (by intro w os f1 f2 r b; cases b <;> kernel_rfl) (by intro w os f1 f2 r b; cases b <;> kernel_rfl) w
theorem tn_3_0_2 (w : World) : ∀ (os : OsState) (f1 f2 : Frame) (r : List Frame) (b : Bool), goQ w 23 ((S_3_0_2 b) w os) (loopAt PySem.W.SL.s10534883147002075979x15 ⟨[(.ref 30), (.ref 31)], []⟩ ⟨11, 9, 11, 33⟩ (f1 :: f2 :: r)) = some ((S_3_0_3 b) w os, (loopAt PySem.W.SL.s10534883147002075979x15 ⟨[(.ref 30), (.ref 31)], []⟩ ⟨11, 9, 11, 33⟩ (f1 :: f2 :: r))) := byRow2 "special-get-raises" (P := fun w => ∀ (os : OsState) (f1 f2 : Frame) (r : List Frame) (b : Bool), goQ w 23 ((S_3_0_2 b) w os) (loopAt PySem.W.SL.s10534883147002075979x15 ⟨[(.ref 30), (.ref 31)], []⟩ ⟨11, 9, 11, 33⟩ (f1 :: f2 :: r)) = some ((S_3_0_3 b) w os, (loopAt PySem.W.SL.s10534883147002075979x15 ⟨[(.ref 30), (.ref 31)], []⟩ ⟨11, 9, 11, 33⟩ (f1 :: f2 :: r)))) (by intro w os f1 f2 r b; cases b <;> kernel_rfl) (by intro w os f1 f2 r b; cases b <;> kernel_rfl) w
theorem tn_3_0_3 (w : World) : ∀ (os : OsState) (f1 f2 : Frame) (r : List Frame) (b : Bool), goQ w 23 ((S_3_0_3 b) w os) (loopAt PySem.W.SL.s10534883147002075979x15 ⟨[(.ref 30), (.ref 31)], []⟩ ⟨11, 9, 11, 33⟩ (f1 :: f2 :: r)) = some ((S_3_0_4 b) w os, (loopAt PySem.W.SL.s10534883147002075979x15 ⟨[(.ref 30), (.ref 31)], []⟩ ⟨11, 9, 11, 33⟩ (f1 :: f2 :: r))) := byRow2 "special-get-raises" (P := fun w => ∀ (os : OsState) (f1 f2 : Frame) (r : List Frame) (b : Bool), goQ w 23 ((S_3_0_3 b) w os) (loopAt PySem.W.SL.s10534883147002075979x15 ⟨[(.ref 30), (.ref 31)], []⟩ ⟨11, 9, 11, 33⟩ (f1 :: f2 :: r)) = some ((S_3_0_4 b) w os, (loopAt PySem.W.SL.s10534883147002075979x15 ⟨[(.ref 30), (.ref 31)], []⟩ ⟨11, 9, 11, 33⟩ (f1 :: f2 :: r)))) (by intro w os f1 f2 r b; cases b <;> kernel_rfl) (by intro w os f1 f2 r b; cases b <;> kernel_rfl) w
theorem tn_3_0_4 (w : World) : ∀ (os : OsState) (f1 f2 : Frame) (r : List Frame) (b : Bool), goQ w 25 ((S_3_0_4 b) w os) (loopAt PySem.W.SL.s10534883147002075979x15 ⟨[(.ref 30), (.ref 31)], []⟩ ⟨11, 9, 11, 33⟩ (f1 :: f2 :: r)) = some ((S_3_0_5 b) w os, (loopAt PySem.W.SL.s10534883147002075979x15 ⟨[(.ref 30), (.ref 31)], []⟩ ⟨11, 9, 11, 33⟩ (f1 :: f2 :: r))) := byRow2 "special-get-raises" (P := fun w => ∀ (os : OsState) (f1 f2 : Frame) (r : List Frame) (b : Bool), goQ w 25 ((S_3_0_4 b) w os) (loopAt PySem.W.SL.s10534883147002075979x15 ⟨[(.ref 30), (.ref 31)], []⟩ ⟨11, 9, 11, 33⟩ (f1 :: f2 :: r)) = some ((S_3_0_5 b) w os, (loopAt PySem.W.SL.s10534883147002075979x15 ⟨[(.ref 30), (.ref 31)], []⟩ ⟨11, 9, 11, 33⟩ (f1 :: f2 :: r)))) (by intro w os f1 f2 r b; cases b <;> kernel_rfl) (by intro w os f1 f2 r b; cases b <;> kernel_rfl) w
theorem pc_3 (w : World) : ∀ (os : OsState), runQ w 25 ((S_3_0_5 (ledOf w.params)) w os) (loopAt PySem.W.SL.s10534883147002075979x15 ⟨[(.ref 30), (.ref 31)], []⟩ ⟨11, 9, 11, 33⟩ (stk_3_0 w os)) = some (.next, S_4 w os, cE, ⟨11, 0, 11, 6⟩) := byRow2 "special-get-raises" (P := fun w => ∀ (os : OsState), runQ w 25 ((S_3_0_5 (ledOf w.params)) w os) (loopAt PySem.W.SL.s10534883147002075979x15 ⟨[(.ref 30), (.ref 31)], []⟩ ⟨11, 9, 11, 33⟩ (stk_3_0 w os)) = some (.next, S_4 w os, cE, ⟨11, 0, 11, 6⟩)) (by intro w os; kernel_rfl) (by intro w os; kernel_rfl) w
theorem pc_4 (w : World) (os : OsState) : runQ w 30 (S_4 w os) (wholeAt 4 ⟨11, 0, 11, 6⟩) = some (.next, S_5 w os, cE, ⟨12, 0, 13, 30⟩) := by kernel_rfl
theorem go_5_0 (w : World) : ∀ (os : OsState), goQ w 58 (S_5 w os) (wholeAt 5 ⟨12, 0, 13, 30⟩) = some ((S_5_0_0 (ledOf w.params)) w os, (loopAt PySem.W.SL.s10534883147002075979x15 ⟨[(.ref 42), (.ref 43)], []⟩ ⟨14, 9, 14, 33⟩ (stk_5_0 w os))) := byRow2 "special-get-raises" (P := fun w => ∀ (os : OsState), goQ w 58 (S_5 w os) (wholeAt 5 ⟨12, 0, 13, 30⟩) = some ((S_5_0_0 (ledOf w.params)) w os, (loopAt PySem.W.SL.s10534883147002075979x15 ⟨[(.ref 42), (.ref 43)], []⟩ ⟨14, 9, 14, 33⟩ (stk_5_0 w os)))) (by intro w os; kernel_rfl) (by intro w os; kernel_rfl) w
theorem tn_5_0_0 (w : World) : ∀ (os : OsState) (f1 f2 : Frame) (r : List Frame) (b : Bool), goQ w 23 ((S_5_0_0 b) w os) (loopAt PySem.W.SL.s10534883147002075979x15 ⟨[(.ref 42), (.ref 43)], []⟩ ⟨14, 9, 14, 33⟩ (f1 :: f2 :: r)) = some ((S_5_0_1 b) w os, (loopAt PySem.W.SL.s10534883147002075979x15 ⟨[(.ref 42), (.ref 43)], []⟩ ⟨14, 9, 14, 33⟩ (f1 :: f2 :: r))) := byRow2 "special-get-raises" (P := fun w => ∀ (os : OsState) (f1 f2 : Frame) (r : List Frame) (b : Bool), goQ w 23 ((S_5_0_0 b) w os) (loopAt PySem.W.SL.s10534883147002075979x15 ⟨[(.ref 42), (.ref 43)], []⟩ ⟨14, 9, 14, 33⟩ (f1 :: f2 :: r)) = some ((S_5_0_1 b) w os, (loopAt PySem.W.SL.s10534883147002075979x15 ⟨[(.ref 42), (.ref 43)], []⟩ ⟨14, 9, 14, 33⟩ (f1 :: f2 :: r)))) (by intro w os f1 f2 r b; cases b <;> kernel_rfl) (by intro w os f1 f2 r b; cases b <;> kernel_rfl) w
theorem tn_5_0_1 (w : World) : ∀ (os : OsState) (f1 f2 : Frame) (r : List Frame) (b : Bool), goQ w 23 ((S_5_0_1 b) w os) (loopAt PySem.W.SL.s10534883147002075979x15 ⟨[(.ref 42), (.ref 43)], []⟩ ⟨14, 9, 14, 33⟩ (f1 :: f2 :: r)) = some ((S_5_0_2 b) w os, (loopAt PySem.W.SL.s10534883147002075979x15 ⟨[(.ref 42), (.ref 43)], []⟩ ⟨14, 9, 14, 33⟩ (f1 :: f2 :: r))) := byRow2 "special-get-raises" (P := fun w => ∀ (os : OsState) (f1 f2 : Frame) (r : List Frame) (b : Bool), goQ w 23 ((S_5_0_1 b) w os) (loopAt PySem.W.SL.s10534883147002075979x15 ⟨[(.ref 42), (.ref 43)], []⟩ ⟨14, 9, 14, 33⟩ (f1 :: f2 :: r)) = some ((S_5_0_2 b) w os, (loopAt PySem.W.SL.s10534883147002075979x15 ⟨[(.ref 42), (.ref 43)], []⟩ ⟨14, 9, 14, 33⟩ (f1 :: f2 :: r)))) (by intro w os f1 f2 r b; cases b <;> kernel_rfl) (by intro w os f1 f2 r b; cases b <;> kernel_rfl) w
theorem tn_5_0_2 (w : World) : ∀ (os : OsState) (f1 f2 : Frame) (r : List Frame) (b : Bool), goQ w 23 ((S_5_0_2 b) w os) (loopAt PySem.W.SL.s10534883147002075979x15 ⟨[(.ref 42), (.ref 43)], []⟩ ⟨14, 9, 14, 33⟩ (f1 :: f2 :: r)) = some ((S_5_0_3 b) w os, (loopAt PySem.W.SL.s10534883147002075979x15 ⟨[(.ref 42), (.ref 43)], []⟩ ⟨14, 9, 14, 33⟩ (f1 :: f2 :: r))) := byRow2 "special-get-raises" (P := fun w => ∀ (os : OsState) (f1 f2 : Frame) (r : List Frame) (b : Bool), goQ w 23 ((S_5_0_2 b) w os) (loopAt PySem.W.SL.s10534883147002075979x15 ⟨[(.ref 42), (.ref 43)], []⟩ ⟨14, 9, 14, 33⟩ (f1 :: f2 :: r)) = some ((S_5_0_3 b) w os, (loopAt PySem.W.SL.s10534883147002075979x15 ⟨[(.ref 42), (.ref 43)], []⟩ ⟨14, 9, 14, 33⟩ (f1 :: f2 :: r)))) (by intro w os f1 f2 r b; cases b <;> kernel_rfl) (by intro w os f1 f2 r b; cases b <;> kernel_rfl) w
theorem tn_5_0_3 (w : World) : ∀ (os : OsState) (f1 f2 : Frame) (r : List Frame) (b : Bool), goQ w 23 ((S_5_0_3 b) w os) (loopAt PySem.W.SL.s10534883147002075979x15 ⟨[(.ref 42), (.ref 43)], []⟩ ⟨14, 9, 14, 33⟩ (f1 :: f2 :: r)) = some ((S_5_0_4 b) w os, (loopAt PySem.W.SL.s10534883147002075979x15 ⟨[(.ref 42), (.ref 43)], []⟩ ⟨14, 9, 14, 33⟩ (f1 :: f2 :: r))) := byRow2 "special-get-raises" (P := fun w => ∀ (os : OsState) (f1 f2 : Frame) (r : List Frame) (b : Bool), goQ w 23 ((S_5_0_3 b) w os) (loopAt PySem.W.SL.s10534883147002075979x15 ⟨[(.ref 42), (.ref 43)], []⟩ ⟨14, 9, 14, 33⟩ (f1 :: f2 :: r)) = some ((S_5_0_4 b) w os, (loopAt PySem.W.SL.s10534883147002075979x15 ⟨[(.ref 42), (.ref 43)], []⟩ ⟨14, 9, 14, 33⟩ (f1 :: f2 :: r)))) (by intro w os f1 f2 r b; cases b <;> kernel_rfl) (by intro w os f1 f2 r b; cases b <;> kernel_rfl) w
theorem tn_5_0_4 (w : World) : ∀ (os : OsState) (f1 f2 : Frame) (r : List Frame) (b : Bool), goQ w 25 ((S_5_0_4 b) w os) (loopAt PySem.W.SL.s10534883147002075979x15 ⟨[(.ref 42), (.ref 43)], []⟩ ⟨14, 9, 14, 33⟩ (f1 :: f2 :: r)) = some ((S_5_0_5 b) w os, (loopAt PySem.W.SL.s10534883147002075979x15 ⟨[(.ref 42), (.ref 43)], []⟩ ⟨14, 9, 14, 33⟩ (f1 :: f2 :: r))) := byRow2 "special-get-raises" (P := fun w => ∀ (os : OsState) (f1 f2 : Frame) (r : List Frame) (b : Bool), goQ w 25 ((S_5_0_4 b) w os) (loopAt PySem.W.SL.s10534883147002075979x15 ⟨[(.ref 42), (.ref 43)], []⟩ ⟨14, 9, 14, 33⟩ (f1 :: f2 :: r)) = some ((S_5_0_5 b) w os, (loopAt PySem.W.SL.s10534883147002075979x15 ⟨[(.ref 42), (.ref 43)], []⟩ ⟨14, 9, 14, 33⟩ (f1 :: f2 :: r)))) (by intro w os f1 f2 r b; cases b <;> kernel_rfl) (by intro w os f1 f2 r b; cases b <;> kernel_rfl) w
theorem tn_5_0_5 (w : World) : ∀ (os : OsState) (f1 f2 : Frame) (r : List Frame) (b : Bool), goQ w 23 ((S_5_0_5 b) w os) (loopAt PySem.W.SL.s10534883147002075979x15 ⟨[(.ref 42), (.ref 43)], []⟩ ⟨14, 9, 14, 33⟩ (f1 :: f2 :: r)) = some ((S_5_0_6 b) w os, (loopAt PySem.W.SL.s10534883147002075979x15 ⟨[(.ref 42), (.ref 43)], []⟩ ⟨14, 9, 14, 33⟩ (f1 :: f2 :: r))) := byRow2 "special-get-raises" (P := fun w => ∀ (os : OsState) (f1 f2 : Frame) (r : List Frame) (b : Bool), goQ w 23 ((S_5_0_5 b) w os) (loopAt PySem.W.SL.s10534883147002075979x15 ⟨[(.ref 42), (.ref 43)], []⟩ ⟨14, 9, 14, 33⟩ (f1 :: f2 :: r)) = some ((S_5_0_6 b) w os, (loopAt PySem.W.SL.s10534883147002075979x15 ⟨[(.ref 42), (.ref 43)], []⟩ ⟨14, 9, 14, 33⟩ (f1 :: f2 :: r)))) (by intro w os f1 f2 r b; cases b <;> kernel_rfl) (by intro w os f1 f2 r b; cases b <;> kernel_rfl) w
theorem tn_5_0_6 (w : World) : ∀ (os : OsState) (f1 f2 : Frame) (r : List Frame) (b : Bool), goQ w 23 ((S_5_0_6 b) w os) (loopAt PySem.W.SL.s10534883147002075979x15 ⟨[(.ref 42), (.ref 43)], []⟩ ⟨14, 9, 14, 33⟩ (f1 :: f2 :: r)) = some ((S_5_0_7 b) w os, (loopAt PySem.W.SL.s10534883147002075979x15 ⟨[(.ref 42), (.ref 43)], []⟩ ⟨14, 9, 14, 33⟩ (f1 :: f2 :: r))) := byRow2 "special-get-raises" (P := fun w => ∀ (os : OsState) (f1 f2 : Frame) (r : List Frame) (b : Bool), goQ w 23 ((S_5_0_6 b) w os) (loopAt PySem.W.SL.s10534883147002075979x15 ⟨[(.ref 42), (.ref 43)], []⟩ ⟨14, 9, 14, 33⟩ (f1 :: f2 :: r)) = some ((S_5_0_7 b) w os, (loopAt PySem.W.SL.s10534883147002075979x15 ⟨[(.ref 42), (.ref 43)], []⟩ ⟨14, 9, 14, 33⟩ (f1 :: f2 :: r)))) (by intro w os f1 f2 r b; cases b <;> kernel_rfl) (by intro w os f1 f2 r b; cases b <;> kernel_rfl) w
theorem tn_5_0_7 (w : World) : ∀ (os : OsState) (f1 f2 : Frame) (r : List Frame) (b : Bool), goQ w 23 ((S_5_0_7 b) w os) (loopAt PySem.W.SL.s10534883147002075979x15 ⟨[(.ref 42), (.ref 43)], []⟩ ⟨14, 9, 14, 33⟩ (f1 :: f2 :: r)) = some ((S_5_0_8 b) w os, (loopAt PySem.W.SL.s10534883147002075979x15 ⟨[(.ref 42), (.ref 43)], []⟩ ⟨14, 9, 14, 33⟩ (f1 :: f2 :: r))) := byRow2 "special-get-raises" (P := fun w => ∀ (os : OsState) (f1 f2 : Frame) (r : List Frame) (b : Bool), goQ w 23 ((S_5_0_7 b) w os) (loopAt PySem.W.SL.s10534883147002075979x15 ⟨[(.ref 42), (.ref 43)], []⟩ ⟨14, 9, 14, 33⟩ (f1 :: f2 :: r)) = some ((S_5_0_8 b) w os, (loopAt PySem.W.SL.s10534883147002075979x15 ⟨[(.ref 42), (.ref 43)], []⟩ ⟨14, 9, 14, 33⟩ (f1 :: f2 :: r)))) (by intro w os f1 f2 r b; cases b <;> kernel_rfl) (by intro w os f1 f2 r b; cases b <;> kernel_rfl) w
theorem tn_5_0_8 (w : World) : ∀ (os : OsState) (f1 f2 : Frame) (r : List Frame) (b : Bool), goQ w 23 ((S_5_0_8 b) w os) (loopAt PySem.W.SL.s10534883147002075979x15 ⟨[(.ref 42), (.ref 43)], []⟩ ⟨14, 9, 14, 33⟩ (f1 :: f2 :: r)) = some ((S_5_0_9 b) w os, (loopAt PySem.W.SL.s10534883147002075979x15 ⟨[(.ref 42), (.ref 43)], []⟩ ⟨14, 9, 14, 33⟩ (f1 :: f2 :: r))) := byRow2 "special-get-raises" (P := fun w => ∀ (os : OsState) (f1 f2 : Frame) (r : List Frame) (b : Bool), goQ w 23 ((S_5_0_8 b) w os) (loopAt PySem.W.SL.s10534883147002075979x15 ⟨[(.ref 42), (.ref 43)], []⟩ ⟨14, 9, 14, 33⟩ (f1 :: f2 :: r)) = some ((S_5_0_9 b) w os, (loopAt PySem.W.SL.s10534883147002075979x15 ⟨[(.ref 42), (.ref 43)], []⟩ ⟨14, 9, 14, 33⟩ (f1 :: f2 :: r)))) (by intro w os f1 f2 r b; cases b <;> kernel_rfl) (by intro w os f1 f2 r b; cases b <;> kernel_rfl) w
theorem tn_5_0_9 (w : World) : ∀ (os : OsState) (f1 f2 : Frame) (r : List Frame) (b : Bool), goQ w 23 ((S_5_0_9 b) w os) (loopAt PySem.W.SL.s10534883147002075979x15 ⟨[(.ref 42), (.ref 43)], []⟩ ⟨14, 9, 14, 33⟩ (f1 :: f2 :: r)) = some ((S_5_0_10 b) w os, (loopAt PySem.W.SL.s10534883147002075979x15 ⟨[(.ref 42), (.ref 43)], []⟩ ⟨14, 9, 14, 33⟩ (f1 :: f2 :: r))) := byRow2 "special-get-raises" (P := fun w => ∀ (os : OsState) (f1 f2 : Frame) (r : List Frame) (b : Bool), goQ w 23 ((S_5_0_9 b) w os) (loopAt PySem.W.SL.s10534883147002075979x15 ⟨[(.ref 42), (.ref 43)], []⟩ ⟨14, 9, 14, 33⟩ (f1 :: f2 :: r)) = some ((S_5_0_10 b) w os, (loopAt PySem.W.SL.s10534883147002075979x15 ⟨[(.ref 42), (.ref 43)], []⟩ ⟨14, 9, 14, 33⟩ (f1 :: f2 :: r)))) (by intro w os f1 f2 r b; cases b <;> kernel_rfl) (by intro w os f1 f2 r b; cases b <;> kernel_rfl) w
theorem tn_5_0_10 (w : World) : ∀ (os : OsState) (f1 f2 : Frame) (r : List Frame) (b : Bool), goQ w 23 ((S_5_0_10 b) w os) (loopAt PySem.W.SL.s10534883147002075979x15 ⟨[(.ref 42), (.ref 43)], []⟩ ⟨14, 9, 14, 33⟩ (f1 :: f2 :: r)) = some ((S_5_0_11 b) w os, (loopAt PySem.W.SL.s10534883147002075979x15 ⟨[(.ref 42), (.ref 43)], []⟩ ⟨14, 9, 14, 33⟩ (f1 :: f2 :: r))) := byRow2 "special-get-raises" (P := fun w => ∀ (os : OsState) (f1 f2 : Frame) (r : List Frame) (b : Bool), goQ w 23 ((S_5_0_10 b) w os) (loopAt PySem.W.SL.s10534883147002075979x15 ⟨[(.ref 42), (.ref 43)], []⟩ ⟨14, 9, 14, 33⟩ (f1 :: f2 :: r)) = some ((S_5_0_11 b) w os, (loopAt PySem.W.SL.s10534883147002075979x15 ⟨[(.ref 42), (.ref 43)], []⟩ ⟨14, 9, 14, 33⟩ (f1 :: f2 :: r)))) (by intro w os f1 f2 r b; cases b <;> kernel_rfl) (by intro w os f1 f2 r b; cases b <;> kernel_rfl) w
theorem tn_5_0_11 (w : World) : ∀ (os : OsState) (f1 f2 : Frame) (r : List Frame) (b : Bool), goQ w 23 ((S_5_0_11 b) w os) (loopAt PySem.W.SL.s10534883147002075979x15 ⟨[(.ref 42), (.ref 43)], []⟩ ⟨14, 9, 14, 33⟩ (f1 :: f2 :: r)) = some ((S_5_0_12 b) w os, (loopAt PySem.W.SL.s10534883147002075979x15 ⟨[(.ref 42), (.ref 43)], []⟩ ⟨14, 9, 14, 33⟩ (f1 :: f2 :: r))) := byRow2 "special-get-raises" (P := fun w => ∀ (os : OsState) (f1 f2 : Frame) (r : List Frame) (b : Bool), goQ w 23 ((S_5_0_11 b) w os) (loopAt PySem.W.SL.s10534883147002075979x15 ⟨[(.ref 42), (.ref 43)], []⟩ ⟨14, 9, 14, 33⟩ (f1 :: f2 :: r)) = some ((S_5_0_12 b) w os, (loopAt PySem.W.SL.s10534883147002075979x15 ⟨[(.ref 42), (.ref 43)], []⟩ ⟨14, 9, 14, 33⟩ (f1 :: f2 :: r)))) (by intro w os f1 f2 r b; cases b <;> kernel_rfl) (by intro w os f1 f2 r b; cases b <;> kernel_rfl) w
theorem pc_5 (w : World) : ∀ (os : OsState), runQ w 25 ((S_5_0_12 (ledOf w.params)) w os) (loopAt PySem.W.SL.s10534883147002075979x15 ⟨[(.ref 42), (.ref 43)], []⟩ ⟨14, 9, 14, 33⟩ (stk_5_0 w os)) = some (.next, S_6 w os, cE, ⟨14, 0, 14, 6⟩) := byRow2 "special-get-raises" (P := fun w => ∀ (os : OsState), runQ w 25 ((S_5_0_12 (ledOf w.params)) w os) (loopAt PySem.W.SL.s10534883147002075979x15 ⟨[(.ref 42), (.ref 43)], []⟩ ⟨14, 9, 14, 33⟩ (stk_5_0 w os)) = some (.next, S_6 w os, cE, ⟨14, 0, 14, 6⟩)) (by intro w os; kernel_rfl) (by intro w os; kernel_rfl) w
theorem pc_6 (w : World) (os : OsState) : runQ w 30 (S_6 w os) (wholeAt 6 ⟨14, 0, 14, 6⟩) = some (.next, S_7 w os, cE, ⟨15, 0, 16, 30⟩) := by kernel_rfl
theorem go_7_0 (w : World) : ∀ (os : OsState), goQ w 90 (S_7 w os) (wholeAt 7 ⟨15, 0, 16, 30⟩) = some ((S_7_0_0 (ledOf w.params)) w os, (loopAt PySem.W.SL.s9316426964554523096x16 ⟨[(.ref 55), (.ref 56), .none], []⟩ ⟨17, 38, 17, 61⟩ (stk_7_0 w os))) := byRow2 "special-get-raises" (P := fun w => ∀ (os : OsState), goQ w 90 (S_7 w os) (wholeAt 7 ⟨15, 0, 16, 30⟩) = some ((S_7_0_0 (ledOf w.params)) w os, (loopAt PySem.W.SL.s9316426964554523096x16 ⟨[(.ref 55), (.ref 56), .none], []⟩ ⟨17, 38, 17, 61⟩ (stk_7_0 w os)))) (by intro w os; kernel_rfl) (by intro w os; kernel_rfl) w
theorem tn_7_0_0 (w : World) : ∀ (os : OsState) (f1 f2 : Frame) (r : List Frame) (b : Bool), goQ w 17 ((S_7_0_0 b) w os) (loopAt PySem.W.SL.s9316426964554523096x16 ⟨[(.ref 55), (.ref 56), .none], []⟩ ⟨17, 38, 17, 61⟩ (f1 :: f2 :: r)) = some ((S_7_0_1 b) w os, (loopAt PySem.W.SL.s9316426964554523096x16 ⟨[(.ref 55), (.ref 56), .none], []⟩ ⟨17, 38, 17, 61⟩ (f1 :: f2 :: r))) := byRow2 "special-get-raises" (P := fun w => ∀ (os : OsState) (f1 f2 : Frame) (r : List Frame) (b : Bool), goQ w 17 ((S_7_0_0 b) w os) (loopAt PySem.W.SL.s9316426964554523096x16 ⟨[(.ref 55), (.ref 56), .none], []⟩ ⟨17, 38, 17, 61⟩ (f1 :: f2 :: r)) = some ((S_7_0_1 b) w os, (loopAt PySem.W.SL.s9316426964554523096x16 ⟨[(.ref 55), (.ref 56), .none], []⟩ ⟨17, 38, 17, 61⟩ (f1 :: f2 :: r)))) (by intro w os f1 f2 r b; cases b <;> kernel_rfl) (by intro w os f1 f2 r b; cases b <;> kernel_rfl) w
theorem tn_7_0_1 (w : World) : ∀ (os : OsState) (f1 f2 : Frame) (r : List Frame) (b : Bool), goQ w 17 ((S_7_0_1 b) w os) (loopAt PySem.W.SL.s9316426964554523096x16 ⟨[(.ref 55), (.ref 56), .none], []⟩ ⟨17, 38, 17, 61⟩ (f1 :: f2 :: r)) = some ((S_7_0_2 b) w os, (loopAt PySem.W.SL.s9316426964554523096x16 ⟨[(.ref 55), (.ref 56), .none], []⟩ ⟨17, 38, 17, 61⟩ (f1 :: f2 :: r))) := byRow2 "special-get-raises" (P := fun w => ∀ (os : OsState) (f1 f2 : Frame) (r : List Frame) (b : Bool), goQ w 17 ((S_7_0_1 b) w os) (loopAt PySem.W.SL.s9316426964554523096x16 ⟨[(.ref 55), (.ref 56), .none], []⟩ ⟨17, 38, 17, 61⟩ (f1 :: f2 :: r)) = some ((S_7_0_2 b) w os, (loopAt PySem.W.SL.s9316426964554523096x16 ⟨[(.ref 55), (.ref 56), .none], []⟩ ⟨17, 38, 17, 61⟩ (f1 :: f2 :: r)))) (by intro w os f1 f2 r b; cases b <;> kernel_rfl) (by intro w os f1 f2 r b; cases b <;> kernel_rfl) w
theorem tn_7_0_2 (w : World) : ∀ (os : OsState) (f1 f2 : Frame) (r : List Frame) (b : Bool), goQ w 17 ((S_7_0_2 b) w os) (loopAt PySem.W.SL.s9316426964554523096x16 ⟨[(.ref 55), (.ref 56), .none], []⟩ ⟨17, 38, 17, 61⟩ (f1 :: f2 :: r)) = some ((S_7_0_3 b) w os, (loopAt PySem.W.SL.s9316426964554523096x16 ⟨[(.ref 55), (.ref 56), .none], []⟩ ⟨17, 38, 17, 61⟩ (f1 :: f2 :: r))) := byRow2 "special-get-raises" (P := fun w => ∀ (os : OsState) (f1 f2 : Frame) (r : List Frame) (b : Bool), goQ w 17 ((S_7_0_2 b) w os) (loopAt PySem.W.SL.s9316426964554523096x16 ⟨[(.ref 55), (.ref 56), .none], []⟩ ⟨17, 38, 17, 61⟩ (f1 :: f2 :: r)) = some ((S_7_0_3 b) w os, (loopAt PySem.W.SL.s9316426964554523096x16 ⟨[(.ref 55), (.ref 56), .none], []⟩ ⟨17, 38, 17, 61⟩ (f1 :: f2 :: r)))) (by intro w os f1 f2 r b; cases b <;> kernel_rfl) (by intro w os f1 f2 r b; cases b <;> kernel_rfl) w
theorem tn_7_0_3 (w : World) : ∀ (os : OsState) (f1 f2 : Frame) (r : List Frame) (b : Bool), goQ w 17 ((S_7_0_3 b) w os) (loopAt PySem.W.SL.s9316426964554523096x16 ⟨[(.ref 55), (.ref 56), .none], []⟩ ⟨17, 38, 17, 61⟩ (f1 :: f2 :: r)) = some ((S_7_0_4 b) w os, (loopAt PySem.W.SL.s9316426964554523096x16 ⟨[(.ref 55), (.ref 56), .none], []⟩ ⟨17, 38, 17, 61⟩ (f1 :: f2 :: r))) := byRow2 "special-get-raises" (P := fun w => ∀ (os : OsState) (f1 f2 : Frame) (r : List Frame) (b : Bool), goQ w 17 ((S_7_0_3 b) w os) (loopAt PySem.W.SL.s9316426964554523096x16 ⟨[(.ref 55), (.ref 56), .none], []⟩ ⟨17, 38, 17, 61⟩ (f1 :: f2 :: r)) = some ((S_7_0_4 b) w os, (loopAt PySem.W.SL.s9316426964554523096x16 ⟨[(.ref 55), (.ref 56), .none], []⟩ ⟨17, 38, 17, 61⟩ (f1 :: f2 :: r)))) (by intro w os f1 f2 r b; cases b <;> kernel_rfl) (by intro w os f1 f2 r b; cases b <;> kernel_rfl) w
theorem tn_7_0_4 (w : World) : ∀ (os : OsState) (f1 f2 : Frame) (r : List Frame) (b : Bool), goQ w 17 ((S_7_0_4 b) w os) (loopAt PySem.W.SL.s9316426964554523096x16 ⟨[(.ref 55), (.ref 56), .none], []⟩ ⟨17, 38, 17, 61⟩ (f1 :: f2 :: r)) = some ((S_7_0_5 b) w os, (loopAt PySem.W.SL.s9316426964554523096x16 ⟨[(.ref 55), (.ref 56), .none], []⟩ ⟨17, 38, 17, 61⟩ (f1 :: f2 :: r))) := byRow2 "special-get-raises" (P := fun w => ∀ (os : OsState) (f1 f2 : Frame) (r : List Frame) (b : Bool), goQ w 17 ((S_7_0_4 b) w os) (loopAt PySem.W.SL.s9316426964554523096x16 ⟨[(.ref 55), (.ref 56), .none], []⟩ ⟨17, 38, 17, 61⟩ (f1 :: f2 :: r)) = some ((S_7_0_5 b) w os, (loopAt PySem.W.SL.s9316426964554523096x16 ⟨[(.ref 55), (.ref 56), .none], []⟩ ⟨17, 38, 17, 61⟩ (f1 :: f2 :: r)))) (by intro w os f1 f2 r b; cases b <;> kernel_rfl) (by intro w os f1 f2 r b; cases b <;> kernel_rfl) w
theorem go_7_1 (w : World) : ∀ (os : OsState), goQ w 110 ((S_7_0_5 (ledOf w.params)) w os) (loopAt PySem.W.SL.s9316426964554523096x16 ⟨[(.ref 55), (.ref 56), .none], []⟩ ⟨17, 38, 17, 61⟩ (stk_7_0 w os)) = some ((S_7_1_0 (ledOf w.params)) w os, (loopAt PySem.W.SL.s9316426964554523096x16 ⟨[(.ref 61), (.ref 62), .none], []⟩ ⟨17, 64, 17, 87⟩ (stk_7_1 w os))) := byRow2 "special-get-raises" (P := fun w => ∀ (os : OsState), goQ w 110 ((S_7_0_5 (ledOf w.params)) w os) (loopAt PySem.W.SL.s9316426964554523096x16 ⟨[(.ref 55), (.ref 56), .none], []⟩ ⟨17, 38, 17, 61⟩ (stk_7_0 w os)) = some ((S_7_1_0 (ledOf w.params)) w os, (loopAt PySem.W.SL.s9316426964554523096x16 ⟨[(.ref 61), (.ref 62), .none], []⟩ ⟨17, 64, 17, 87⟩ (stk_7_1 w os)))) (by intro w os; kernel_rfl) (by intro w os; kernel_rfl) w
theorem tn_7_1_0 (w : World) : ∀ (os : OsState) (f1 f2 : Frame) (r : List Frame) (b : Bool), goQ w 17 ((S_7_1_0 b) w os) (loopAt PySem.W.SL.s9316426964554523096x16 ⟨[(.ref 61), (.ref 62), .none], []⟩ ⟨17, 64, 17, 87⟩ (f1 :: f2 :: r)) = some ((S_7_1_1 b) w os, (loopAt PySem.W.SL.s9316426964554523096x16 ⟨[(.ref 61), (.ref 62), .none], []⟩ ⟨17, 64, 17, 87⟩ (f1 :: f2 :: r))) := byRow2 "special-get-raises" (P := fun w => ∀ (os : OsState) (f1 f2 : Frame) (r : List Frame) (b : Bool), goQ w 17 ((S_7_1_0 b) w os) (loopAt PySem.W.SL.s9316426964554523096x16 ⟨[(.ref 61), (.ref 62), .none], []⟩ ⟨17, 64, 17, 87⟩ (f1 :: f2 :: r)) = some ((S_7_1_1 b) w os, (loopAt PySem.W.SL.s9316426964554523096x16 ⟨[(.ref 61), (.ref 62), .none], []⟩ ⟨17, 64, 17, 87⟩ (f1 :: f2 :: r)))) (by intro w os f1 f2 r b; cases b <;> kernel_rfl) (by intro w os f1 f2 r b; cases b <;> kernel_rfl) w
theorem tn_7_1_1 (w : World) : ∀ (os : OsState) (f1 f2 : Frame) (r : List Frame) (b : Bool), goQ w 17 ((S_7_1_1 b) w os) (loopAt PySem.W.SL.s9316426964554523096x16 ⟨[(.ref 61), (.ref 62), .none], []⟩ ⟨17, 64, 17, 87⟩ (f1 :: f2 :: r)) = some ((S_7_1_2 b) w os, (loopAt PySem.W.SL.s9316426964554523096x16 ⟨[(.ref 61), (.ref 62), .none], []⟩ ⟨17, 64, 17, 87⟩ (f1 :: f2 :: r))) := byRow2 "special-get-raises" (P := fun w => ∀ (os : OsState) (f1 f2 : Frame) (r : List Frame) (b : Bool), goQ w 17 ((S_7_1_1 b) w os) (loopAt PySem.W.SL.s9316426964554523096x16 ⟨[(.ref 61), (.ref 62), .none], []⟩ ⟨17, 64, 17, 87⟩ (f1 :: f2 :: r)) = some ((S_7_1_2 b) w os, (loopAt PySem.W.SL.s9316426964554523096x16 ⟨[(.ref 61), (.ref 62), .none], []⟩ ⟨17, 64, 17, 87⟩ (f1 :: f2 :: r)))) (by intro w os f1 f2 r b; cases b <;> kernel_rfl) (by intro w os f1 f2 r b; cases b <;> kernel_rfl) w
theorem tn_7_1_2 (w : World) : ∀ (os : OsState) (f1 f2 : Frame) (r : List Frame) (b : Bool), goQ w 17 ((S_7_1_2 b) w os) (loopAt PySem.W.SL.s9316426964554523096x16 ⟨[(.ref 61), (.ref 62), .none], []⟩ ⟨17, 64, 17, 87⟩ (f1 :: f2 :: r)) = some ((S_7_1_3 b) w os, (loopAt PySem.W.SL.s9316426964554523096x16 ⟨[(.ref 61), (.ref 62), .none], []⟩ ⟨17, 64, 17, 87⟩ (f1 :: f2 :: r))) := byRow2 "special-get-raises" (P := fun w => ∀ (os : OsState) (f1 f2 : Frame) (r : List Frame) (b : Bool), goQ w 17 ((S_7_1_2 b) w os) (loopAt PySem.W.SL.s9316426964554523096x16 ⟨[(.ref 61), (.ref 62), .none], []⟩ ⟨17, 64, 17, 87⟩ (f1 :: f2 :: r)) = some ((S_7_1_3 b) w os, (loopAt PySem.W.SL.s9316426964554523096x16 ⟨[(.ref 61), (.ref 62), .none], []⟩ ⟨17, 64, 17, 87⟩ (f1 :: f2 :: r)))) (by intro w os f1 f2 r b; cases b <;> kernel_rfl) (by intro w os f1 f2 r b; cases b <;> kernel_rfl) w
theorem tn_7_1_3 (w : World) : ∀ (os : OsState) (f1 f2 : Frame) (r : List Frame) (b : Bool), goQ w 17 ((S_7_1_3 b) w os) (loopAt PySem.W.SL.s9316426964554523096x16 ⟨[(.ref 61), (.ref 62), .none], []⟩ ⟨17, 64, 17, 87⟩ (f1 :: f2 :: r)) = some ((S_7_1_4 b) w os, (loopAt PySem.W.SL.s9316426964554523096x16 ⟨[(.ref 61), (.ref 62), .none], []⟩ ⟨17, 64, 17, 87⟩ (f1 :: f2 :: r))) := byRow2 "special-get-raises" (P := fun w => ∀ (os : OsState) (f1 f2 : Frame) (r : List Frame) (b : Bool), goQ w 17 ((S_7_1_3 b) w os) (loopAt PySem.W.SL.s9316426964554523096x16 ⟨[(.ref 61), (.ref 62), .none], []⟩ ⟨17, 64, 17, 87⟩ (f1 :: f2 :: r)) = some ((S_7_1_4 b) w os, (loopAt PySem.W.SL.s9316426964554523096x16 ⟨[(.ref 61), (.ref 62), .none], []⟩ ⟨17, 64, 17, 87⟩ (f1 :: f2 :: r)))) (by intro w os f1 f2 r b; cases b <;> kernel_rfl) (by intro w os f1 f2 r b; cases b <;> kernel_rfl) w
theorem tn_7_1_4 (w : World) : ∀ (os : OsState) (f1 f2 : Frame) (r : List Frame) (b : Bool), goQ w 17 ((S_7_1_4 b) w os) (loopAt PySem.W.SL.s9316426964554523096x16 ⟨[(.ref 61), (.ref 62), .none], []⟩ ⟨17, 64, 17, 87⟩ (f1 :: f2 :: r)) = some ((S_7_1_5 b) w os, (loopAt PySem.W.SL.s9316426964554523096x16 ⟨[(.ref 61), (.ref 62), .none], []⟩ ⟨17, 64, 17, 87⟩ (f1 :: f2 :: r))) := byRow2 "special-get-raises" (P := fun w => ∀ (os : OsState) (f1 f2 : Frame) (r : List Frame) (b : Bool), goQ w 17 ((S_7_1_4 b) w os) (loopAt PySem.W.SL.s9316426964554523096x16 ⟨[(.ref 61), (.ref 62), .none], []⟩ ⟨17, 64, 17, 87⟩ (f1 :: f2 :: r)) = some ((S_7_1_5 b) w os, (loopAt PySem.W.SL.s9316426964554523096x16 ⟨[(.ref 61), (.ref 62), .none], []⟩ ⟨17, 64, 17, 87⟩ (f1 :: f2 :: r)))) (by intro w os f1 f2 r b; cases b <;> kernel_rfl) (by intro w os f1 f2 r b; cases b <;> kernel_rfl) w
theorem tn_7_1_5 (w : World) : ∀ (os : OsState) (f1 f2 : Frame) (r : List Frame) (b : Bool), goQ w 17 ((S_7_1_5 b) w os) (loopAt PySem.W.SL.s9316426964554523096x16 ⟨[(.ref 61), (.ref 62), .none], []⟩ ⟨17, 64, 17, 87⟩ (f1 :: f2 :: r)) = some ((S_7_1_6 b) w os, (loopAt PySem.W.SL.s9316426964554523096x16 ⟨[(.ref 61), (.ref 62), .none], []⟩ ⟨17, 64, 17, 87⟩ (f1 :: f2 :: r))) := byRow2 "special-get-raises" (P := fun w => ∀ (os : OsState) (f1 f2 : Frame) (r : List Frame) (b : Bool), goQ w 17 ((S_7_1_5 b) w os) (loopAt PySem.W.SL.s9316426964554523096x16 ⟨[(.ref 61), (.ref 62), .none], []⟩ ⟨17, 64, 17, 87⟩ (f1 :: f2 :: r)) = some ((S_7_1_6 b) w os, (loopAt PySem.W.SL.s9316426964554523096x16 ⟨[(.ref 61), (.ref 62), .none], []⟩ ⟨17, 64, 17, 87⟩ (f1 :: f2 :: r)))) (by intro w os f1 f2 r b; cases b <;> kernel_rfl) (by intro w os f1 f2 r b; cases b <;> kernel_rfl) w
theorem go_7_2 (w : World) : ∀ (os : OsState), goQ w 59 ((S_7_1_6 (ledOf w.params)) w os) (loopAt PySem.W.SL.s9316426964554523096x16 ⟨[(.ref 61), (.ref 62), .none], []⟩ ⟨17, 64, 17, 87⟩ (stk_7_1 w os)) = some ((S_7_2_0 (ledOf w.params)) w os, (loopAt PySem.W.SL.s10534883147002075979x15 ⟨[(.ref 66), (.ref 67)], []⟩ ⟨17, 9, 17, 88⟩ (stk_7_2 w os))) := byRow2 "special-get-raises" (P := fun w => ∀ (os : OsState), goQ w 59 ((S_7_1_6 (ledOf w.params)) w os) (loopAt PySem.W.SL.s9316426964554523096x16 ⟨[(.ref 61), (.ref 62), .none], []⟩ ⟨17, 64, 17, 87⟩ (stk_7_1 w os)) = some ((S_7_2_0 (ledOf w.params)) w os, (loopAt PySem.W.SL.s10534883147002075979x15 ⟨[(.ref 66), (.ref 67)], []⟩ ⟨17, 9, 17, 88⟩ (stk_7_2 w os)))) (by intro w os; kernel_rfl) (by intro w os; kernel_rfl) w
theorem tn_7_2_0 (w : World) : ∀ (os : OsState) (f1 f2 : Frame) (r : List Frame) (b : Bool), goQ w 20 ((S_7_2_0 b) w os) (loopAt PySem.W.SL.s10534883147002075979x15 ⟨[(.ref 66), (.ref 67)], []⟩ ⟨17, 9, 17, 88⟩ (f1 :: f2 :: r)) = some ((S_7_2_1 b) w os, (loopAt PySem.W.SL.s10534883147002075979x15 ⟨[(.ref 66), (.ref 67)], []⟩ ⟨17, 9, 17, 88⟩ (f1 :: f2 :: r))) := byRow2 "special-get-raises" (P := fun w => ∀ (os : OsState) (f1 f2 : Frame) (r : List Frame) (b : Bool), goQ w 20 ((S_7_2_0 b) w os) (loopAt PySem.W.SL.s10534883147002075979x15 ⟨[(.ref 66), (.ref 67)], []⟩ ⟨17, 9, 17, 88⟩ (f1 :: f2 :: r)) = some ((S_7_2_1 b) w os, (loopAt PySem.W.SL.s10534883147002075979x15 ⟨[(.ref 66), (.ref 67)], []⟩ ⟨17, 9, 17, 88⟩ (f1 :: f2 :: r)))) (by intro w os f1 f2 r b; cases b <;> kernel_rfl) (by intro w os f1 f2 r b; cases b <;> kernel_rfl) w
theorem tn_7_2_1 (w : World) : ∀ (os : OsState) (f1 f2 : Frame) (r : List Frame) (b : Bool), goQ w 20 ((S_7_2_1 b) w os) (loopAt PySem.W.SL.s10534883147002075979x15 ⟨[(.ref 66), (.ref 67)], []⟩ ⟨17, 9, 17, 88⟩ (f1 :: f2 :: r)) = some ((S_7_2_2 b) w os, (loopAt PySem.W.SL.s10534883147002075979x15 ⟨[(.ref 66), (.ref 67)], []⟩ ⟨17, 9, 17, 88⟩ (f1 :: f2 :: r))) := byRow2 "special-get-raises" (P := fun w => ∀ (os : OsState) (f1 f2 : Frame) (r : List Frame) (b : Bool), goQ w 20 ((S_7_2_1 b) w os) (loopAt PySem.W.SL.s10534883147002075979x15 ⟨[(.ref 66), (.ref 67)], []⟩ ⟨17, 9, 17, 88⟩ (f1 :: f2 :: r)) = some ((S_7_2_2 b) w os, (loopAt PySem.W.SL.s10534883147002075979x15 ⟨[(.ref 66), (.ref 67)], []⟩ ⟨17, 9, 17, 88⟩ (f1 :: f2 :: r)))) (by intro w os f1 f2 r b; cases b <;> kernel_rfl) (by intro w os f1 f2 r b; cases b <;> kernel_rfl) w
theorem tn_7_2_2 (w : World) : ∀ (os : OsState) (f1 f2 : Frame) (r : List Frame) (b : Bool), goQ w 20 ((S_7_2_2 b) w os) (loopAt PySem.W.SL.s10534883147002075979x15 ⟨[(.ref 66), (.ref 67)], []⟩ ⟨17, 9, 17, 88⟩ (f1 :: f2 :: r)) = some ((S_7_2_3 b) w os, (loopAt PySem.W.SL.s10534883147002075979x15 ⟨[(.ref 66), (.ref 67)], []⟩ ⟨17, 9, 17, 88⟩ (f1 :: f2 :: r))) := byRow2 "special-get-raises" (P := fun w => ∀ (os : OsState) (f1 f2 : Frame) (r : List Frame) (b : Bool), goQ w 20 ((S_7_2_2 b) w os) (loopAt PySem.W.SL.s10534883147002075979x15 ⟨[(.ref 66), (.ref 67)], []⟩ ⟨17, 9, 17, 88⟩ (f1 :: f2 :: r)) = some ((S_7_2_3 b) w os, (loopAt PySem.W.SL.s10534883147002075979x15 ⟨[(.ref 66), (.ref 67)], []⟩ ⟨17, 9, 17, 88⟩ (f1 :: f2 :: r)))) (by intro w os f1 f2 r b; cases b <;> kernel_rfl) (by intro w os f1 f2 r b; cases b <;> kernel_rfl) w
theorem tn_7_2_3 (w : World) : ∀ (os : OsState) (f1 f2 : Frame) (r : List Frame) (b : Bool), goQ w 20 ((S_7_2_3 b) w os) (loopAt PySem.W.SL.s10534883147002075979x15 ⟨[(.ref 66), (.ref 67)], []⟩ ⟨17, 9, 17, 88⟩ (f1 :: f2 :: r)) = some ((S_7_2_4 b) w os, (loopAt PySem.W.SL.s10534883147002075979x15 ⟨[(.ref 66), (.ref 67)], []⟩ ⟨17, 9, 17, 88⟩ (f1 :: f2 :: r))) := byRow2 "special-get-raises" (P := fun w => ∀ (os : OsState) (f1 f2 : Frame) (r : List Frame) (b : Bool), goQ w 20 ((S_7_2_3 b) w os) (loopAt PySem.W.SL.s10534883147002075979x15 ⟨[(.ref 66), (.ref 67)], []⟩ ⟨17, 9, 17, 88⟩ (f1 :: f2 :: r)) = some ((S_7_2_4 b) w os, (loopAt PySem.W.SL.s10534883147002075979x15 ⟨[(.ref 66), (.ref 67)], []⟩ ⟨17, 9, 17, 88⟩ (f1 :: f2 :: r)))) (by intro w os f1 f2 r b; cases b <;> kernel_rfl) (by intro w os f1 f2 r b; cases b <;> kernel_rfl) w
theorem tn_7_2_4 (w : World) : ∀ (os : OsState) (f1 f2 : Frame) (r : List Frame) (b : Bool), goQ w 22 ((S_7_2_4 b) w os) (loopAt PySem.W.SL.s10534883147002075979x15 ⟨[(.ref 66), (.ref 67)], []⟩ ⟨17, 9, 17, 88⟩ (f1 :: f2 :: r)) = some ((S_7_2_5 b) w os, (loopAt PySem.W.SL.s10534883147002075979x15 ⟨[(.ref 66), (.ref 67)], []⟩ ⟨17, 9, 17, 88⟩ (f1 :: f2 :: r))) := byRow2 "special-get-raises" (P := fun w => ∀ (os : OsState) (f1 f2 : Frame) (r : List Frame) (b : Bool), goQ w 22 ((S_7_2_4 b) w os) (loopAt PySem.W.SL.s10534883147002075979x15 ⟨[(.ref 66), (.ref 67)], []⟩ ⟨17, 9, 17, 88⟩ (f1 :: f2 :: r)) = some ((S_7_2_5 b) w os, (loopAt PySem.W.SL.s10534883147002075979x15 ⟨[(.ref 66), (.ref 67)], []⟩ ⟨17, 9, 17, 88⟩ (f1 :: f2 :: r)))) (by intro w os f1 f2 r b; cases b <;> kernel_rfl) (by intro w os f1 f2 r b; cases b <;> kernel_rfl) w
theorem tn_7_2_5 (w : World) : ∀ (os : OsState) (f1 f2 : Frame) (r : List Frame) (b : Bool), goQ w 20 ((S_7_2_5 b) w os) (loopAt PySem.W.SL.s10534883147002075979x15 ⟨[(.ref 66), (.ref 67)], []⟩ ⟨17, 9, 17, 88⟩ (f1 :: f2 :: r)) = some ((S_7_2_6 b) w os, (loopAt PySem.W.SL.s10534883147002075979x15 ⟨[(.ref 66), (.ref 67)], []⟩ ⟨17, 9, 17, 88⟩ (f1 :: f2 :: r))) := byRow2 "special-get-raises" (P := fun w => ∀ (os : OsState) (f1 f2 : Frame) (r : List Frame) (b : Bool), goQ w 20 ((S_7_2_5 b) w os) (loopAt PySem.W.SL.s10534883147002075979x15 ⟨[(.ref 66), (.ref 67)], []⟩ ⟨17, 9, 17, 88⟩ (f1 :: f2 :: r)) = some ((S_7_2_6 b) w os, (loopAt PySem.W.SL.s10534883147002075979x15 ⟨[(.ref 66), (.ref 67)], []⟩ ⟨17, 9, 17, 88⟩ (f1 :: f2 :: r)))) (by intro w os f1 f2 r b; cases b <;> kernel_rfl) (by intro w os f1 f2 r b; cases b <;> kernel_rfl) w
theorem tn_7_2_6 (w : World) : ∀ (os : OsState) (f1 f2 : Frame) (r : List Frame) (b : Bool), goQ w 20 ((S_7_2_6 b) w os) (loopAt PySem.W.SL.s10534883147002075979x15 ⟨[(.ref 66), (.ref 67)], []⟩ ⟨17, 9, 17, 88⟩ (f1 :: f2 :: r)) = some ((S_7_2_7 b) w os, (loopAt PySem.W.SL.s10534883147002075979x15 ⟨[(.ref 66), (.ref 67)], []⟩ ⟨17, 9, 17, 88⟩ (f1 :: f2 :: r))) := byRow2 "special-get-raises" (P := fun w => ∀ (os : OsState) (f1 f2 : Frame) (r : List Frame) (b : Bool), goQ w 20 ((S_7_2_6 b) w os) (loopAt PySem.W.SL.s10534883147002075979x15 ⟨[(.ref 66), (.ref 67)], []⟩ ⟨17, 9, 17, 88⟩ (f1 :: f2 :: r)) = some ((S_7_2_7 b) w os, (loopAt PySem.W.SL.s10534883147002075979x15 ⟨[(.ref 66), (.ref 67)], []⟩ ⟨17, 9, 17, 88⟩ (f1 :: f2 :: r)))) (by intro w os f1 f2 r b; cases b <;> kernel_rfl) (by intro w os f1 f2 r b; cases b <;> kernel_rfl) w
theorem tn_7_2_7 (w : World) : ∀ (os : OsState) (f1 f2 : Frame) (r : List Frame) (b : Bool), goQ w 20 ((S_7_2_7 b) w os) (loopAt PySem.W.SL.s10534883147002075979x15 ⟨[(.ref 66), (.ref 67)], []⟩ ⟨17, 9, 17, 88⟩ (f1 :: f2 :: r)) = some ((S_7_2_8 b) w os, (loopAt PySem.W.SL.s10534883147002075979x15 ⟨[(.ref 66), (.ref 67)], []⟩ ⟨17, 9, 17, 88⟩ (f1 :: f2 :: r))) := byRow2 "special-get-raises" (P := fun w => ∀ (os : OsState) (f1 f2 : Frame) (r : List Frame) (b : Bool), goQ w 20 ((S_7_2_7 b) w os) (loopAt PySem.W.SL.s10534883147002075979x15 ⟨[(.ref 66), (.ref 67)], []⟩ ⟨17, 9, 17, 88⟩ (f1 :: f2 :: r)) = some ((S_7_2_8 b) w os, (loopAt PySem.W.SL.s10534883147002075979x15 ⟨[(.ref 66), (.ref 67)], []⟩ ⟨17, 9, 17, 88⟩ (f1 :: f2 :: r)))) (by intro w os f1 f2 r b; cases b <;> kernel_rfl) (by intro w os f1 f2 r b; cases b <;> kernel_rfl) w
theorem tn_7_2_8 (w : World) : ∀ (os : OsState) (f1 f2 : Frame) (r : List Frame) (b : Bool), goQ w 20 ((S_7_2_8 b) w os) (loopAt PySem.W.SL.s10534883147002075979x15 ⟨[(.ref 66), (.ref 67)], []⟩ ⟨17, 9, 17, 88⟩ (f1 :: f2 :: r)) = some ((S_7_2_9 b) w os, (loopAt PySem.W.SL.s10534883147002075979x15 ⟨[(.ref 66), (.ref 67)], []⟩ ⟨17, 9, 17, 88⟩ (f1 :: f2 :: r))) := byRow2 "special-get-raises" (P := fun w => ∀ (os : OsState) (f1 f2 : Frame) (r : List Frame) (b : Bool), goQ w 20 ((S_7_2_8 b) w os) (loopAt PySem.W.SL.s10534883147002075979x15 ⟨[(.ref 66), (.ref 67)], []⟩ ⟨17, 9, 17, 88⟩ (f1 :: f2 :: r)) = some ((S_7_2_9 b) w os, (loopAt PySem.W.SL.s10534883147002075979x15 ⟨[(.ref 66), (.ref 67)], []⟩ ⟨17, 9, 17, 88⟩ (f1 :: f2 :: r)))) (by intro w os f1 f2 r b; cases b <;> kernel_rfl) (by intro w os f1 f2 r b; cases b <;> kernel_rfl) w
theorem tn_7_2_9 (w : World) : ∀ (os : OsState) (f1 f2 : Frame) (r : List Frame) (b : Bool), goQ w 20 ((S_7_2_9 b) w os) (loopAt PySem.W.SL.s10534883147002075979x15 ⟨[(.ref 66), (.ref 67)], []⟩ ⟨17, 9, 17, 88⟩ (f1 :: f2 :: r)) = some ((S_7_2_10 b) w os, (loopAt PySem.W.SL.s10534883147002075979x15 ⟨[(.ref 66), (.ref 67)], []⟩ ⟨17, 9, 17, 88⟩ (f1 :: f2 :: r))) := byRow2 "special-get-raises" (P := fun w => ∀ (os : OsState) (f1 f2 : Frame) (r : List Frame) (b : Bool), goQ w 20 ((S_7_2_9 b) w os) (loopAt PySem.W.SL.s10534883147002075979x15 ⟨[(.ref 66), (.ref 67)], []⟩ ⟨17, 9, 17, 88⟩ (f1 :: f2 :: r)) = some ((S_7_2_10 b) w os, (loopAt PySem.W.SL.s10534883147002075979x15 ⟨[(.ref 66), (.ref 67)], []⟩ ⟨17, 9, 17, 88⟩ (f1 :: f2 :: r)))) (by intro w os f1 f2 r b; cases b <;> kernel_rfl) (by intro w os f1 f2 r b; cases b <;> kernel_rfl) w
theorem tn_7_2_10 (w : World) : ∀ (os : OsState) (f1 f2 : Frame) (r : List Frame) (b : Bool), goQ w 20 ((S_7_2_10 b) w os) (loopAt PySem.W.SL.s10534883147002075979x15 ⟨[(.ref 66), (.ref 67)], []⟩ ⟨17, 9, 17, 88⟩ (f1 :: f2 :: r)) = some ((S_7_2_11 b) w os, (loopAt PySem.W.SL.s10534883147002075979x15 ⟨[(.ref 66), (.ref 67)], []⟩ ⟨17, 9, 17, 88⟩ (f1 :: f2 :: r))) := byRow2 "special-get-raises" (P := fun w => ∀ (os : OsState) (f1 f2 : Frame) (r : List Frame) (b : Bool), goQ w 20 ((S_7_2_10 b) w os) (loopAt PySem.W.SL.s10534883147002075979x15 ⟨[(.ref 66), (.ref 67)], []⟩ ⟨17, 9, 17, 88⟩ (f1 :: f2 :: r)) = some ((S_7_2_11 b) w os, (loopAt PySem.W.SL.s10534883147002075979x15 ⟨[(.ref 66), (.ref 67)], []⟩ ⟨17, 9, 17, 88⟩ (f1 :: f2 :: r)))) (by intro w os f1 f2 r b; cases b <;> kernel_rfl) (by intro w os f1 f2 r b; cases b <;> kernel_rfl) w
theorem tn_7_2_11 (w : World) : ∀ (os : OsState) (f1 f2 : Frame) (r : List Frame) (b : Bool), goQ w 20 ((S_7_2_11 b) w os) (loopAt PySem.W.SL.s10534883147002075979x15 ⟨[(.ref 66), (.ref 67)], []⟩ ⟨17, 9, 17, 88⟩ (f1 :: f2 :: r)) = some ((S_7_2_12 b) w os, (loopAt PySem.W.SL.s10534883147002075979x15 ⟨[(.ref 66), (.ref 67)], []⟩ ⟨17, 9, 17, 88⟩ (f1 :: f2 :: r))) := byRow2 "special-get-raises" (P := fun w => ∀ (os : OsState) (f1 f2 : Frame) (r : List Frame) (b : Bool), goQ w 20 ((S_7_2_11 b) w os) (loopAt PySem.W.SL.s10534883147002075979x15 ⟨[(.ref 66), (.ref 67)], []⟩ ⟨17, 9, 17, 88⟩ (f1 :: f2 :: r)) = some ((S_7_2_12 b) w os, (loopAt PySem.W.SL.s10534883147002075979x15 ⟨[(.ref 66), (.ref 67)], []⟩ ⟨17, 9, 17, 88⟩ (f1 :: f2 :: r)))) (by intro w os f1 f2 r b; cases b <;> kernel_rfl) (by intro w os f1 f2 r b; cases b <;> kernel_rfl) w
theorem tn_7_2_12 (w : World) : ∀ (os : OsState) (f1 f2 : Frame) (r : List Frame) (b : Bool), goQ w 20 ((S_7_2_12 b) w os) (loopAt PySem.W.SL.s10534883147002075979x15 ⟨[(.ref 66), (.ref 67)], []⟩ ⟨17, 9, 17, 88⟩ (f1 :: f2 :: r)) = some ((S_7_2_13 b) w os, (loopAt PySem.W.SL.s10534883147002075979x15 ⟨[(.ref 66), (.ref 67)], []⟩ ⟨17, 9, 17, 88⟩ (f1 :: f2 :: r))) := byRow2 "special-get-raises" (P := fun w => ∀ (os : OsState) (f1 f2 : Frame) (r : List Frame) (b : Bool), goQ w 20 ((S_7_2_12 b) w os) (loopAt PySem.W.SL.s10534883147002075979x15 ⟨[(.ref 66), (.ref 67)], []⟩ ⟨17, 9, 17, 88⟩ (f1 :: f2 :: r)) = some ((S_7_2_13 b) w os, (loopAt PySem.W.SL.s10534883147002075979x15 ⟨[(.ref 66), (.ref 67)], []⟩ ⟨17, 9, 17, 88⟩ (f1 :: f2 :: r)))) (by intro w os f1 f2 r b; cases b <;> kernel_rfl) (by intro w os f1 f2 r b; cases b <;> kernel_rfl) w
theorem tn_7_2_13 (w : World) : ∀ (os : OsState) (f1 f2 : Frame) (r : List Frame) (b : Bool), goQ w 20 ((S_7_2_13 b) w os) (loopAt PySem.W.SL.s10534883147002075979x15 ⟨[(.ref 66), (.ref 67)], []⟩ ⟨17, 9, 17, 88⟩ (f1 :: f2 :: r)) = some ((S_7_2_14 b) w os, (loopAt PySem.W.SL.s10534883147002075979x15 ⟨[(.ref 66), (.ref 67)], []⟩ ⟨17, 9, 17, 88⟩ (f1 :: f2 :: r))) := byRow2 "special-get-raises" (P := fun w => ∀ (os : OsState) (f1 f2 : Frame) (r : List Frame) (b : Bool), goQ w 20 ((S_7_2_13 b) w os) (loopAt PySem.W.SL.s10534883147002075979x15 ⟨[(.ref 66), (.ref 67)], []⟩ ⟨17, 9, 17, 88⟩ (f1 :: f2 :: r)) = some ((S_7_2_14 b) w os, (loopAt PySem.W.SL.s10534883147002075979x15 ⟨[(.ref 66), (.ref 67)], []⟩ ⟨17, 9, 17, 88⟩ (f1 :: f2 :: r)))) (by intro w os f1 f2 r b; cases b <;> kernel_rfl) (by intro w os f1 f2 r b; cases b <;> kernel_rfl) w
theorem tn_7_2_14 (w : World) : ∀ (os : OsState) (f1 f2 : Frame) (r : List Frame) (b : Bool), goQ w 20 ((S_7_2_14 b) w os) (loopAt PySem.W.SL.s10534883147002075979x15 ⟨[(.ref 66), (.ref 67)], []⟩ ⟨17, 9, 17, 88⟩ (f1 :: f2 :: r)) = some ((S_7_2_15 b) w os, (loopAt PySem.W.SL.s10534883147002075979x15 ⟨[(.ref 66), (.ref 67)], []⟩ ⟨17, 9, 17, 88⟩ (f1 :: f2 :: r))) := byRow2 "special-get-raises" (P := fun w => ∀ (os : OsState) (f1 f2 : Frame) (r : List Frame) (b : Bool), goQ w 20 ((S_7_2_14 b) w os) (loopAt PySem.W.SL.s10534883147002075979x15 ⟨[(.ref 66), (.ref 67)], []⟩ ⟨17, 9, 17, 88⟩ (f1 :: f2 :: r)) = some ((S_7_2_15 b) w os, (loopAt PySem.W.SL.s10534883147002075979x15 ⟨[(.ref 66), (.ref 67)], []⟩ ⟨17, 9, 17, 88⟩ (f1 :: f2 :: r)))) (by intro w os f1 f2 r b; cases b <;> kernel_rfl) (by intro w os f1 f2 r b; cases b <;> kernel_rfl) w
theorem pc_7 (w : World) : ∀ (os : OsState), runQ w 27 ((S_7_2_15 (ledOf w.params)) w os) (loopAt PySem.W.SL.s10534883147002075979x15 ⟨[(.ref 66), (.ref 67)], []⟩ ⟨17, 9, 17, 88⟩ (stk_7_2 w os)) = some (.next, S_8 w os, cE, ⟨17, 0, 17, 6⟩) := byRow2 "special-get-raises" (P := fun w => ∀ (os : OsState), runQ w 27 ((S_7_2_15 (ledOf w.params)) w os) (loopAt PySem.W.SL.s10534883147002075979x15 ⟨[(.ref 66), (.ref 67)], []⟩ ⟨17, 9, 17, 88⟩ (stk_7_2 w os)) = some (.next, S_8 w os, cE, ⟨17, 0, 17, 6⟩)) (by intro w os; kernel_rfl) (by intro w os; kernel_rfl) w
theorem pc_8 (w : World) (os : OsState) : runQ w 30 (S_8 w os) (wholeAt 8 ⟨17, 0, 17, 6⟩) = some (.next, S_9 w os, cE, ⟨18, 0, 19, 30⟩) := by kernel_rfl
theorem go_9_0 (w : World) : ∀ (os : OsState), goQ w 87 (S_9 w os) (wholeAt 9 ⟨18, 0, 19, 30⟩) = some ((S_9_0_0 (ledOf w.params)) w os, (loopAt PySem.W.SL.s9316426964554523096x16 ⟨[(.ref 79), (.ref 80), .none], []⟩ ⟨20, 24, 20, 51⟩ (stk_9_0 w os))) := byRow2 "special-get-raises" (P := fun w => ∀ (os : OsState), goQ w 87 (S_9 w os) (wholeAt 9 ⟨18, 0, 19, 30⟩) = some ((S_9_0_0 (ledOf w.params)) w os, (loopAt PySem.W.SL.s9316426964554523096x16 ⟨[(.ref 79), (.ref 80), .none], []⟩ ⟨20, 24, 20, 51⟩ (stk_9_0 w os)))) (by intro w os; kernel_rfl) (by intro w os; kernel_rfl) w
theorem tn_9_0_0 (w : World) : ∀ (os : OsState) (f1 f2 : Frame) (r : List Frame) (b : Bool), goQ w 17 ((S_9_0_0 b) w os) (loopAt PySem.W.SL.s9316426964554523096x16 ⟨[(.ref 79), (.ref 80), .none], []⟩ ⟨20, 24, 20, 51⟩ (f1 :: f2 :: r)) = some ((S_9_0_1 b) w os, (loopAt PySem.W.SL.s9316426964554523096x16 ⟨[(.ref 79), (.ref 80), .none], []⟩ ⟨20, 24, 20, 51⟩ (f1 :: f2 :: r))) := byRow2 "special-get-raises" (P := fun w => ∀ (os : OsState) (f1 f2 : Frame) (r : List Frame) (b : Bool), goQ w 17 ((S_9_0_0 b) w os) (loopAt PySem.W.SL.s9316426964554523096x16 ⟨[(.ref 79), (.ref 80), .none], []⟩ ⟨20, 24, 20, 51⟩ (f1 :: f2 :: r)) = some ((S_9_0_1 b) w os, (loopAt PySem.W.SL.s9316426964554523096x16 ⟨[(.ref 79), (.ref 80), .none], []⟩ ⟨20, 24, 20, 51⟩ (f1 :: f2 :: r)))) (by intro w os f1 f2 r b; cases b <;> kernel_rfl) (by intro w os f1 f2 r b; cases b <;> kernel_rfl) w
theorem tn_9_0_1 (w : World) : ∀ (os : OsState) (f1 f2 : Frame) (r : List Frame) (b : Bool), goQ w 17 ((S_9_0_1 b) w os) (loopAt PySem.W.SL.s9316426964554523096x16 ⟨[(.ref 79), (.ref 80), .none], []⟩ ⟨20, 24, 20, 51⟩ (f1 :: f2 :: r)) = some ((S_9_0_2 b) w os, (loopAt PySem.W.SL.s9316426964554523096x16 ⟨[(.ref 79), (.ref 80), .none], []⟩ ⟨20, 24, 20, 51⟩ (f1 :: f2 :: r))) := byRow2 "special-get-raises" (P := fun w => ∀ (os : OsState) (f1 f2 : Frame) (r : List Frame) (b : Bool), goQ w 17 ((S_9_0_1 b) w os) (loopAt PySem.W.SL.s9316426964554523096x16 ⟨[(.ref 79), (.ref 80), .none], []⟩ ⟨20, 24, 20, 51⟩ (f1 :: f2 :: r)) = some ((S_9_0_2 b) w os, (loopAt PySem.W.SL.s9316426964554523096x16 ⟨[(.ref 79), (.ref 80), .none], []⟩ ⟨20, 24, 20, 51⟩ (f1 :: f2 :: r)))) (by intro w os f1 f2 r b; cases b <;> kernel_rfl) (by intro w os f1 f2 r b; cases b <;> kernel_rfl) w
theorem tn_9_0_2 (w : World) : ∀ (os : OsState) (f1 f2 : Frame) (r : List Frame) (b : Bool), goQ w 17 ((S_9_0_2 b) w os) (loopAt PySem.W.SL.s9316426964554523096x16 ⟨[(.ref 79), (.ref 80), .none], []⟩ ⟨20, 24, 20, 51⟩ (f1 :: f2 :: r)) = some ((S_9_0_3 b) w os, (loopAt PySem.W.SL.s9316426964554523096x16 ⟨[(.ref 79), (.ref 80), .none], []⟩ ⟨20, 24, 20, 51⟩ (f1 :: f2 :: r))) := byRow2 "special-get-raises" (P := fun w => ∀ (os : OsState) (f1 f2 : Frame) (r : List Frame) (b : Bool), goQ w 17 ((S_9_0_2 b) w os) (loopAt PySem.W.SL.s9316426964554523096x16 ⟨[(.ref 79), (.ref 80), .none], []⟩ ⟨20, 24, 20, 51⟩ (f1 :: f2 :: r)) = some ((S_9_0_3 b) w os, (loopAt PySem.W.SL.s9316426964554523096x16 ⟨[(.ref 79), (.ref 80), .none], []⟩ ⟨20, 24, 20, 51⟩ (f1 :: f2 :: r)))) (by intro w os f1 f2 r b; cases b <;> kernel_rfl) (by intro w os f1 f2 r b; cases b <;> kernel_rfl) w
theorem tn_9_0_3 (w : World) : ∀ (os : OsState) (f1 f2 : Frame) (r : List Frame) (b : Bool), goQ w 17 ((S_9_0_3 b) w os) (loopAt PySem.W.SL.s9316426964554523096x16 ⟨[(.ref 79), (.ref 80), .none], []⟩ ⟨20, 24, 20, 51⟩ (f1 :: f2 :: r)) = some ((S_9_0_4 b) w os, (loopAt PySem.W.SL.s9316426964554523096x16 ⟨[(.ref 79), (.ref 80), .none], []⟩ ⟨20, 24, 20, 51⟩ (f1 :: f2 :: r))) := byRow2 "special-get-raises" (P := fun w => ∀ (os : OsState) (f1 f2 : Frame) (r : List Frame) (b : Bool), goQ w 17 ((S_9_0_3 b) w os) (loopAt PySem.W.SL.s9316426964554523096x16 ⟨[(.ref 79), (.ref 80), .none], []⟩ ⟨20, 24, 20, 51⟩ (f1 :: f2 :: r)) = some ((S_9_0_4 b) w os, (loopAt PySem.W.SL.s9316426964554523096x16 ⟨[(.ref 79), (.ref 80), .none], []⟩ ⟨20, 24, 20, 51⟩ (f1 :: f2 :: r)))) (by intro w os f1 f2 r b; cases b <;> kernel_rfl) (by intro w os f1 f2 r b; cases b <;> kernel_rfl) w
theorem tn_9_0_4 (w : World) : ∀ (os : OsState) (f1 f2 : Frame) (r : List Frame) (b : Bool), goQ w 17 ((S_9_0_4 b) w os) (loopAt PySem.W.SL.s9316426964554523096x16 ⟨[(.ref 79), (.ref 80), .none], []⟩ ⟨20, 24, 20, 51⟩ (f1 :: f2 :: r)) = some ((S_9_0_5 b) w os, (loopAt PySem.W.SL.s9316426964554523096x16 ⟨[(.ref 79), (.ref 80), .none], []⟩ ⟨20, 24, 20, 51⟩ (f1 :: f2 :: r))) := byRow2 "special-get-raises" (P := fun w => ∀ (os : OsState) (f1 f2 : Frame) (r : List Frame) (b : Bool), goQ w 17 ((S_9_0_4 b) w os) (loopAt PySem.W.SL.s9316426964554523096x16 ⟨[(.ref 79), (.ref 80), .none], []⟩ ⟨20, 24, 20, 51⟩ (f1 :: f2 :: r)) = some ((S_9_0_5 b) w os, (loopAt PySem.W.SL.s9316426964554523096x16 ⟨[(.ref 79), (.ref 80), .none], []⟩ ⟨20, 24, 20, 51⟩ (f1 :: f2 :: r)))) (by intro w os f1 f2 r b; cases b <;> kernel_rfl) (by intro w os f1 f2 r b; cases b <;> kernel_rfl) w
theorem tn_9_0_5 (w : World) : ∀ (os : OsState) (f1 f2 : Frame) (r : List Frame) (b : Bool), goQ w 17 ((S_9_0_5 b) w os) (loopAt PySem.W.SL.s9316426964554523096x16 ⟨[(.ref 79), (.ref 80), .none], []⟩ ⟨20, 24, 20, 51⟩ (f1 :: f2 :: r)) = some ((S_9_0_6 b) w os, (loopAt PySem.W.SL.s9316426964554523096x16 ⟨[(.ref 79), (.ref 80), .none], []⟩ ⟨20, 24, 20, 51⟩ (f1 :: f2 :: r))) := byRow2 "special-get-raises" (P := fun w => ∀ (os : OsState) (f1 f2 : Frame) (r : List Frame) (b : Bool), goQ w 17 ((S_9_0_5 b) w os) (loopAt PySem.W.SL.s9316426964554523096x16 ⟨[(.ref 79), (.ref 80), .none], []⟩ ⟨20, 24, 20, 51⟩ (f1 :: f2 :: r)) = some ((S_9_0_6 b) w os, (loopAt PySem.W.SL.s9316426964554523096x16 ⟨[(.ref 79), (.ref 80), .none], []⟩ ⟨20, 24, 20, 51⟩ (f1 :: f2 :: r)))) (by intro w os f1 f2 r b; cases b <;> kernel_rfl) (by intro w os f1 f2 r b; cases b <;> kernel_rfl) w
theorem tn_9_0_6 (w : World) : ∀ (os : OsState) (f1 f2 : Frame) (r : List Frame) (b : Bool), goQ w 17 ((S_9_0_6 b) w os) (loopAt PySem.W.SL.s9316426964554523096x16 ⟨[(.ref 79), (.ref 80), .none], []⟩ ⟨20, 24, 20, 51⟩ (f1 :: f2 :: r)) = some ((S_9_0_7 b) w os, (loopAt PySem.W.SL.s9316426964554523096x16 ⟨[(.ref 79), (.ref 80), .none], []⟩ ⟨20, 24, 20, 51⟩ (f1 :: f2 :: r))) := byRow2 "special-get-raises" (P := fun w => ∀ (os : OsState) (f1 f2 : Frame) (r : List Frame) (b : Bool), goQ w 17 ((S_9_0_6 b) w os) (loopAt PySem.W.SL.s9316426964554523096x16 ⟨[(.ref 79), (.ref 80), .none], []⟩ ⟨20, 24, 20, 51⟩ (f1 :: f2 :: r)) = some ((S_9_0_7 b) w os, (loopAt PySem.W.SL.s9316426964554523096x16 ⟨[(.ref 79), (.ref 80), .none], []⟩ ⟨20, 24, 20, 51⟩ (f1 :: f2 :: r)))) (by intro w os f1 f2 r b; cases b <;> kernel_rfl) (by intro w os f1 f2 r b; cases b <;> kernel_rfl) w
theorem tn_9_0_7 (w : World) : ∀ (os : OsState) (f1 f2 : Frame) (r : List Frame) (b : Bool), goQ w 17 ((S_9_0_7 b) w os) (loopAt PySem.W.SL.s9316426964554523096x16 ⟨[(.ref 79), (.ref 80), .none], []⟩ ⟨20, 24, 20, 51⟩ (f1 :: f2 :: r)) = some ((S_9_0_8 b) w os, (loopAt PySem.W.SL.s9316426964554523096x16 ⟨[(.ref 79), (.ref 80), .none], []⟩ ⟨20, 24, 20, 51⟩ (f1 :: f2 :: r))) := byRow2 "special-get-raises" (P := fun w => ∀ (os : OsState) (f1 f2 : Frame) (r : List Frame) (b : Bool), goQ w 17 ((S_9_0_7 b) w os) (loopAt PySem.W.SL.s9316426964554523096x16 ⟨[(.ref 79), (.ref 80), .none], []⟩ ⟨20, 24, 20, 51⟩ (f1 :: f2 :: r)) = some ((S_9_0_8 b) w os, (loopAt PySem.W.SL.s9316426964554523096x16 ⟨[(.ref 79), (.ref 80), .none], []⟩ ⟨20, 24, 20, 51⟩ (f1 :: f2 :: r)))) (by intro w os f1 f2 r b; cases b <;> kernel_rfl) (by intro w os f1 f2 r b; cases b <;> kernel_rfl) w
theorem tn_9_0_8 (w : World) : ∀ (os : OsState) (f1 f2 : Frame) (r : List Frame) (b : Bool), goQ w 17 ((S_9_0_8 b) w os) (loopAt PySem.W.SL.s9316426964554523096x16 ⟨[(.ref 79), (.ref 80), .none], []⟩ ⟨20, 24, 20, 51⟩ (f1 :: f2 :: r)) = some ((S_9_0_9 b) w os, (loopAt PySem.W.SL.s9316426964554523096x16 ⟨[(.ref 79), (.ref 80), .none], []⟩ ⟨20, 24, 20, 51⟩ (f1 :: f2 :: r))) := byRow2 "special-get-raises" (P := fun w => ∀ (os : OsState) (f1 f2 : Frame) (r : List Frame) (b : Bool), goQ w 17 ((S_9_0_8 b) w os) (loopAt PySem.W.SL.s9316426964554523096x16 ⟨[(.ref 79), (.ref 80), .none], []⟩ ⟨20, 24, 20, 51⟩ (f1 :: f2 :: r)) = some ((S_9_0_9 b) w os, (loopAt PySem.W.SL.s9316426964554523096x16 ⟨[(.ref 79), (.ref 80), .none], []⟩ ⟨20, 24, 20, 51⟩ (f1 :: f2 :: r)))) (by intro w os f1 f2 r b; cases b <;> kernel_rfl) (by intro w os f1 f2 r b; cases b <;> kernel_rfl) w
theorem tn_9_0_9 (w : World) : ∀ (os : OsState) (f1 f2 : Frame) (r : List Frame) (b : Bool), goQ w 17 ((S_9_0_9 b) w os) (loopAt PySem.W.SL.s9316426964554523096x16 ⟨[(.ref 79), (.ref 80), .none], []⟩ ⟨20, 24, 20, 51⟩ (f1 :: f2 :: r)) = some ((S_9_0_10 b) w os, (loopAt PySem.W.SL.s9316426964554523096x16 ⟨[(.ref 79), (.ref 80), .none], []⟩ ⟨20, 24, 20, 51⟩ (f1 :: f2 :: r))) := byRow2 "special-get-raises" (P := fun w => ∀ (os : OsState) (f1 f2 : Frame) (r : List Frame) (b : Bool), goQ w 17 ((S_9_0_9 b) w os) (loopAt PySem.W.SL.s9316426964554523096x16 ⟨[(.ref 79), (.ref 80), .none], []⟩ ⟨20, 24, 20, 51⟩ (f1 :: f2 :: r)) = some ((S_9_0_10 b) w os, (loopAt PySem.W.SL.s9316426964554523096x16 ⟨[(.ref 79), (.ref 80), .none], []⟩ ⟨20, 24, 20, 51⟩ (f1 :: f2 :: r)))) (by intro w os f1 f2 r b; cases b <;> kernel_rfl) (by intro w os f1 f2 r b; cases b <;> kernel_rfl) w
theorem tn_9_0_10 (w : World) : ∀ (os : OsState) (f1 f2 : Frame) (r : List Frame) (b : Bool), goQ w 17 ((S_9_0_10 b) w os) (loopAt PySem.W.SL.s9316426964554523096x16 ⟨[(.ref 79), (.ref 80), .none], []⟩ ⟨20, 24, 20, 51⟩ (f1 :: f2 :: r)) = some ((S_9_0_11 b) w os, (loopAt PySem.W.SL.s9316426964554523096x16 ⟨[(.ref 79), (.ref 80), .none], []⟩ ⟨20, 24, 20, 51⟩ (f1 :: f2 :: r))) := byRow2 "special-get-raises" (P := fun w => ∀ (os : OsState) (f1 f2 : Frame) (r : List Frame) (b : Bool), goQ w 17 ((S_9_0_10 b) w os) (loopAt PySem.W.SL.s9316426964554523096x16 ⟨[(.ref 79), (.ref 80), .none], []⟩ ⟨20, 24, 20, 51⟩ (f1 :: f2 :: r)) = some ((S_9_0_11 b) w os, (loopAt PySem.W.SL.s9316426964554523096x16 ⟨[(.ref 79), (.ref 80), .none], []⟩ ⟨20, 24, 20, 51⟩ (f1 :: f2 :: r)))) (by intro w os f1 f2 r b; cases b <;> kernel_rfl) (by intro w os f1 f2 r b; cases b <;> kernel_rfl) w
theorem tn_9_0_11 (w : World) : ∀ (os : OsState) (f1 f2 : Frame) (r : List Frame) (b : Bool), goQ w 17 ((S_9_0_11 b) w os) (loopAt PySem.W.SL.s9316426964554523096x16 ⟨[(.ref 79), (.ref 80), .none], []⟩ ⟨20, 24, 20, 51⟩ (f1 :: f2 :: r)) = some ((S_9_0_12 b) w os, (loopAt PySem.W.SL.s9316426964554523096x16 ⟨[(.ref 79), (.ref 80), .none], []⟩ ⟨20, 24, 20, 51⟩ (f1 :: f2 :: r))) := byRow2 "special-get-raises" (P := fun w => ∀ (os : OsState) (f1 f2 : Frame) (r : List Frame) (b : Bool), goQ w 17 ((S_9_0_11 b) w os) (loopAt PySem.W.SL.s9316426964554523096x16 ⟨[(.ref 79), (.ref 80), .none], []⟩ ⟨20, 24, 20, 51⟩ (f1 :: f2 :: r)) = some ((S_9_0_12 b) w os, (loopAt PySem.W.SL.s9316426964554523096x16 ⟨[(.ref 79), (.ref 80), .none], []⟩ ⟨20, 24, 20, 51⟩ (f1 :: f2 :: r)))) (by intro w os f1 f2 r b; cases b <;> kernel_rfl) (by intro w os f1 f2 r b; cases b <;> kernel_rfl) w
theorem tn_9_0_12 (w : World) : ∀ (os : OsState) (f1 f2 : Frame) (r : List Frame) (b : Bool), goQ w 17 ((S_9_0_12 b) w os) (loopAt PySem.W.SL.s9316426964554523096x16 ⟨[(.ref 79), (.ref 80), .none], []⟩ ⟨20, 24, 20, 51⟩ (f1 :: f2 :: r)) = some ((S_9_0_13 b) w os, (loopAt PySem.W.SL.s9316426964554523096x16 ⟨[(.ref 79), (.ref 80), .none], []⟩ ⟨20, 24, 20, 51⟩ (f1 :: f2 :: r))) := byRow2 "special-get-raises" (P := fun w => ∀ (os : OsState) (f1 f2 : Frame) (r : List Frame) (b : Bool), goQ w 17 ((S_9_0_12 b) w os) (loopAt PySem.W.SL.s9316426964554523096x16 ⟨[(.ref 79), (.ref 80), .none], []⟩ ⟨20, 24, 20, 51⟩ (f1 :: f2 :: r)) = some ((S_9_0_13 b) w os, (loopAt PySem.W.SL.s9316426964554523096x16 ⟨[(.ref 79), (.ref 80), .none], []⟩ ⟨20, 24, 20, 51⟩ (f1 :: f2 :: r)))) (by intro w os f1 f2 r b; cases b <;> kernel_rfl) (by intro w os f1 f2 r b; cases b <;> kernel_rfl) w
theorem tn_9_0_13 (w : World) : ∀ (os : OsState) (f1 f2 : Frame) (r : List Frame) (b : Bool), goQ w 17 ((S_9_0_13 b) w os) (loopAt PySem.W.SL.s9316426964554523096x16 ⟨[(.ref 79), (.ref 80), .none], []⟩ ⟨20, 24, 20, 51⟩ (f1 :: f2 :: r)) = some ((S_9_0_14 b) w os, (loopAt PySem.W.SL.s9316426964554523096x16 ⟨[(.ref 79), (.ref 80), .none], []⟩ ⟨20, 24, 20, 51⟩ (f1 :: f2 :: r))) := byRow2 "special-get-raises" (P := fun w => ∀ (os : OsState) (f1 f2 : Frame) (r : List Frame) (b : Bool), goQ w 17 ((S_9_0_13 b) w os) (loopAt PySem.W.SL.s9316426964554523096x16 ⟨[(.ref 79), (.ref 80), .none], []⟩ ⟨20, 24, 20, 51⟩ (f1 :: f2 :: r)) = some ((S_9_0_14 b) w os, (loopAt PySem.W.SL.s9316426964554523096x16 ⟨[(.ref 79), (.ref 80), .none], []⟩ ⟨20, 24, 20, 51⟩ (f1 :: f2 :: r)))) (by intro w os f1 f2 r b; cases b <;> kernel_rfl) (by intro w os f1 f2 r b; cases b <;> kernel_rfl) w
theorem tn_9_0_14 (w : World) : ∀ (os : OsState) (f1 f2 : Frame) (r : List Frame) (b : Bool), goQ w 17 ((S_9_0_14 b) w os) (loopAt PySem.W.SL.s9316426964554523096x16 ⟨[(.ref 79), (.ref 80), .none], []⟩ ⟨20, 24, 20, 51⟩ (f1 :: f2 :: r)) = some ((S_9_0_15 b) w os, (loopAt PySem.W.SL.s9316426964554523096x16 ⟨[(.ref 79), (.ref 80), .none], []⟩ ⟨20, 24, 20, 51⟩ (f1 :: f2 :: r))) := byRow2 "special-get-raises" (P := fun w => ∀ (os : OsState) (f1 f2 : Frame) (r : List Frame) (b : Bool), goQ w 17 ((S_9_0_14 b) w os) (loopAt PySem.W.SL.s9316426964554523096x16 ⟨[(.ref 79), (.ref 80), .none], []⟩ ⟨20, 24, 20, 51⟩ (f1 :: f2 :: r)) = some ((S_9_0_15 b) w os, (loopAt PySem.W.SL.s9316426964554523096x16 ⟨[(.ref 79), (.ref 80), .none], []⟩ ⟨20, 24, 20, 51⟩ (f1 :: f2 :: r)))) (by intro w os f1 f2 r b; cases b <;> kernel_rfl) (by intro w os f1 f2 r b; cases b <;> kernel_rfl) w
theorem tn_9_0_15 (w : World) : ∀ (os : OsState) (f1 f2 : Frame) (r : List Frame) (b : Bool), goQ w 17 ((S_9_0_15 b) w os) (loopAt PySem.W.SL.s9316426964554523096x16 ⟨[(.ref 79), (.ref 80), .none], []⟩ ⟨20, 24, 20, 51⟩ (f1 :: f2 :: r)) = some ((S_9_0_16 b) w os, (loopAt PySem.W.SL.s9316426964554523096x16 ⟨[(.ref 79), (.ref 80), .none], []⟩ ⟨20, 24, 20, 51⟩ (f1 :: f2 :: r))) := byRow2 "special-get-raises" (P := fun w => ∀ (os : OsState) (f1 f2 : Frame) (r : List Frame) (b : Bool), goQ w 17 ((S_9_0_15 b) w os) (loopAt PySem.W.SL.s9316426964554523096x16 ⟨[(.ref 79), (.ref 80), .none], []⟩ ⟨20, 24, 20, 51⟩ (f1 :: f2 :: r)) = some ((S_9_0_16 b) w os, (loopAt PySem.W.SL.s9316426964554523096x16 ⟨[(.ref 79), (.ref 80), .none], []⟩ ⟨20, 24, 20, 51⟩ (f1 :: f2 :: r)))) (by intro w os f1 f2 r b; cases b <;> kernel_rfl) (by intro w os f1 f2 r b; cases b <;> kernel_rfl) w
theorem tn_9_0_16 (w : World) : ∀ (os : OsState) (f1 f2 : Frame) (r : List Frame) (b : Bool), goQ w 17 ((S_9_0_16 b) w os) (loopAt PySem.W.SL.s9316426964554523096x16 ⟨[(.ref 79), (.ref 80), .none], []⟩ ⟨20, 24, 20, 51⟩ (f1 :: f2 :: r)) = some ((S_9_0_17 b) w os, (loopAt PySem.W.SL.s9316426964554523096x16 ⟨[(.ref 79), (.ref 80), .none], []⟩ ⟨20, 24, 20, 51⟩ (f1 :: f2 :: r))) := byRow2 "special-get-raises" (P := fun w => ∀ (os : OsState) (f1 f2 : Frame) (r : List Frame) (b : Bool), goQ w 17 ((S_9_0_16 b) w os) (loopAt PySem.W.SL.s9316426964554523096x16 ⟨[(.ref 79), (.ref 80), .none], []⟩ ⟨20, 24, 20, 51⟩ (f1 :: f2 :: r)) = some ((S_9_0_17 b) w os, (loopAt PySem.W.SL.s9316426964554523096x16 ⟨[(.ref 79), (.ref 80), .none], []⟩ ⟨20, 24, 20, 51⟩ (f1 :: f2 :: r)))) (by intro w os f1 f2 r b; cases b <;> kernel_rfl) (by intro w os f1 f2 r b; cases b <;> kernel_rfl) w
theorem tn_9_0_17 (w : World) : ∀ (os : OsState) (f1 f2 : Frame) (r : List Frame) (b : Bool), goQ w 17 ((S_9_0_17 b) w os) (loopAt PySem.W.SL.s9316426964554523096x16 ⟨[(.ref 79), (.ref 80), .none], []⟩ ⟨20, 24, 20, 51⟩ (f1 :: f2 :: r)) = some ((S_9_0_18 b) w os, (loopAt PySem.W.SL.s9316426964554523096x16 ⟨[(.ref 79), (.ref 80), .none], []⟩ ⟨20, 24, 20, 51⟩ (f1 :: f2 :: r))) := byRow2 "special-get-raises" (P := fun w => ∀ (os : OsState) (f1 f2 : Frame) (r : List Frame) (b : Bool), goQ w 17 ((S_9_0_17 b) w os) (loopAt PySem.W.SL.s9316426964554523096x16 ⟨[(.ref 79), (.ref 80), .none], []⟩ ⟨20, 24, 20, 51⟩ (f1 :: f2 :: r)) = some ((S_9_0_18 b) w os, (loopAt PySem.W.SL.s9316426964554523096x16 ⟨[(.ref 79), (.ref 80), .none], []⟩ ⟨20, 24, 20, 51⟩ (f1 :: f2 :: r)))) (by intro w os f1 f2 r b; cases b <;> kernel_rfl) (by intro w os f1 f2 r b; cases b <;> kernel_rfl) w
theorem tn_9_0_18 (w : World) : ∀ (os : OsState) (f1 f2 : Frame) (r : List Frame) (b : Bool), goQ w 17 ((S_9_0_18 b) w os) (loopAt PySem.W.SL.s9316426964554523096x16 ⟨[(.ref 79), (.ref 80), .none], []⟩ ⟨20, 24, 20, 51⟩ (f1 :: f2 :: r)) = some ((S_9_0_19 b) w os, (loopAt PySem.W.SL.s9316426964554523096x16 ⟨[(.ref 79), (.ref 80), .none], []⟩ ⟨20, 24, 20, 51⟩ (f1 :: f2 :: r))) := byRow2 "special-get-raises" (P := fun w => ∀ (os : OsState) (f1 f2 : Frame) (r : List Frame) (b : Bool), goQ w 17 ((S_9_0_18 b) w os) (loopAt PySem.W.SL.s9316426964554523096x16 ⟨[(.ref 79), (.ref 80), .none], []⟩ ⟨20, 24, 20, 51⟩ (f1 :: f2 :: r)) = some ((S_9_0_19 b) w os, (loopAt PySem.W.SL.s9316426964554523096x16 ⟨[(.ref 79), (.ref 80), .none], []⟩ ⟨20, 24, 20, 51⟩ (f1 :: f2 :: r)))) (by intro w os f1 f2 r b; cases b <;> kernel_rfl) (by intro w os f1 f2 r b; cases b <;> kernel_rfl) w
theorem tn_9_0_19 (w : World) : ∀ (os : OsState) (f1 f2 : Frame) (r : List Frame) (b : Bool), goQ w 17 ((S_9_0_19 b) w os) (loopAt PySem.W.SL.s9316426964554523096x16 ⟨[(.ref 79), (.ref 80), .none], []⟩ ⟨20, 24, 20, 51⟩ (f1 :: f2 :: r)) = some ((S_9_0_20 b) w os, (loopAt PySem.W.SL.s9316426964554523096x16 ⟨[(.ref 79), (.ref 80), .none], []⟩ ⟨20, 24, 20, 51⟩ (f1 :: f2 :: r))) := byRow2 "special-get-raises" (P := fun w => ∀ (os : OsState) (f1 f2 : Frame) (r : List Frame) (b : Bool), goQ w 17 ((S_9_0_19 b) w os) (loopAt PySem.W.SL.s9316426964554523096x16 ⟨[(.ref 79), (.ref 80), .none], []⟩ ⟨20, 24, 20, 51⟩ (f1 :: f2 :: r)) = some ((S_9_0_20 b) w os, (loopAt PySem.W.SL.s9316426964554523096x16 ⟨[(.ref 79), (.ref 80), .none], []⟩ ⟨20, 24, 20, 51⟩ (f1 :: f2 :: r)))) (by intro w os f1 f2 r b; cases b <;> kernel_rfl) (by intro w os f1 f2 r b; cases b <;> kernel_rfl) w
theorem tn_9_0_20 (w : World) : ∀ (os : OsState) (f1 f2 : Frame) (r : List Frame) (b : Bool), goQ w 17 ((S_9_0_20 b) w os) (loopAt PySem.W.SL.s9316426964554523096x16 ⟨[(.ref 79), (.ref 80), .none], []⟩ ⟨20, 24, 20, 51⟩ (f1 :: f2 :: r)) = some ((S_9_0_21 b) w os, (loopAt PySem.W.SL.s9316426964554523096x16 ⟨[(.ref 79), (.ref 80), .none], []⟩ ⟨20, 24, 20, 51⟩ (f1 :: f2 :: r))) := byRow2 "special-get-raises" (P := fun w => ∀ (os : OsState) (f1 f2 : Frame) (r : List Frame) (b : Bool), goQ w 17 ((S_9_0_20 b) w os) (loopAt PySem.W.SL.s9316426964554523096x16 ⟨[(.ref 79), (.ref 80), .none], []⟩ ⟨20, 24, 20, 51⟩ (f1 :: f2 :: r)) = some ((S_9_0_21 b) w os, (loopAt PySem.W.SL.s9316426964554523096x16 ⟨[(.ref 79), (.ref 80), .none], []⟩ ⟨20, 24, 20, 51⟩ (f1 :: f2 :: r)))) (by intro w os f1 f2 r b; cases b <;> kernel_rfl) (by intro w os f1 f2 r b; cases b <;> kernel_rfl) w
theorem tn_9_0_21 (w : World) : ∀ (os : OsState) (f1 f2 : Frame) (r : List Frame) (b : Bool), goQ w 17 ((S_9_0_21 b) w os) (loopAt PySem.W.SL.s9316426964554523096x16 ⟨[(.ref 79), (.ref 80), .none], []⟩ ⟨20, 24, 20, 51⟩ (f1 :: f2 :: r)) = some ((S_9_0_22 b) w os, (loopAt PySem.W.SL.s9316426964554523096x16 ⟨[(.ref 79), (.ref 80), .none], []⟩ ⟨20, 24, 20, 51⟩ (f1 :: f2 :: r))) := byRow2 "special-get-raises" (P := fun w => ∀ (os : OsState) (f1 f2 : Frame) (r : List Frame) (b : Bool), goQ w 17 ((S_9_0_21 b) w os) (loopAt PySem.W.SL.s9316426964554523096x16 ⟨[(.ref 79), (.ref 80), .none], []⟩ ⟨20, 24, 20, 51⟩ (f1 :: f2 :: r)) = some ((S_9_0_22 b) w os, (loopAt PySem.W.SL.s9316426964554523096x16 ⟨[(.ref 79), (.ref 80), .none], []⟩ ⟨20, 24, 20, 51⟩ (f1 :: f2 :: r)))) (by intro w os f1 f2 r b; cases b <;> kernel_rfl) (by intro w os f1 f2 r b; cases b <;> kernel_rfl) w
theorem tn_9_0_22 (w : World) : ∀ (os : OsState) (f1 f2 : Frame) (r : List Frame) (b : Bool), goQ w 17 ((S_9_0_22 b) w os) (loopAt PySem.W.SL.s9316426964554523096x16 ⟨[(.ref 79), (.ref 80), .none], []⟩ ⟨20, 24, 20, 51⟩ (f1 :: f2 :: r)) = some ((S_9_0_23 b) w os, (loopAt PySem.W.SL.s9316426964554523096x16 ⟨[(.ref 79), (.ref 80), .none], []⟩ ⟨20, 24, 20, 51⟩ (f1 :: f2 :: r))) := byRow2 "special-get-raises" (P := fun w => ∀ (os : OsState) (f1 f2 : Frame) (r : List Frame) (b : Bool), goQ w 17 ((S_9_0_22 b) w os) (loopAt PySem.W.SL.s9316426964554523096x16 ⟨[(.ref 79), (.ref 80), .none], []⟩ ⟨20, 24, 20, 51⟩ (f1 :: f2 :: r)) = some ((S_9_0_23 b) w os, (loopAt PySem.W.SL.s9316426964554523096x16 ⟨[(.ref 79), (.ref 80), .none], []⟩ ⟨20, 24, 20, 51⟩ (f1 :: f2 :: r)))) (by intro w os f1 f2 r b; cases b <;> kernel_rfl) (by intro w os f1 f2 r b; cases b <;> kernel_rfl) w
theorem tn_9_0_23 (w : World) : ∀ (os : OsState) (f1 f2 : Frame) (r : List Frame) (b : Bool), goQ w 17 ((S_9_0_23 b) w os) (loopAt PySem.W.SL.s9316426964554523096x16 ⟨[(.ref 79), (.ref 80), .none], []⟩ ⟨20, 24, 20, 51⟩ (f1 :: f2 :: r)) = some ((S_9_0_24 b) w os, (loopAt PySem.W.SL.s9316426964554523096x16 ⟨[(.ref 79), (.ref 80), .none], []⟩ ⟨20, 24, 20, 51⟩ (f1 :: f2 :: r))) := byRow2 "special-get-raises" (P := fun w => ∀ (os : OsState) (f1 f2 : Frame) (r : List Frame) (b : Bool), goQ w 17 ((S_9_0_23 b) w os) (loopAt PySem.W.SL.s9316426964554523096x16 ⟨[(.ref 79), (.ref 80), .none], []⟩ ⟨20, 24, 20, 51⟩ (f1 :: f2 :: r)) = some ((S_9_0_24 b) w os, (loopAt PySem.W.SL.s9316426964554523096x16 ⟨[(.ref 79), (.ref 80), .none], []⟩ ⟨20, 24, 20, 51⟩ (f1 :: f2 :: r)))) (by intro w os f1 f2 r b; cases b <;> kernel_rfl) (by intro w os f1 f2 r b; cases b <;> kernel_rfl) w
theorem tn_9_0_24 (w : World) : ∀ (os : OsState) (f1 f2 : Frame) (r : List Frame) (b : Bool), goQ w 17 ((S_9_0_24 b) w os) (loopAt PySem.W.SL.s9316426964554523096x16 ⟨[(.ref 79), (.ref 80), .none], []⟩ ⟨20, 24, 20, 51⟩ (f1 :: f2 :: r)) = some ((S_9_0_25 b) w os, (loopAt PySem.W.SL.s9316426964554523096x16 ⟨[(.ref 79), (.ref 80), .none], []⟩ ⟨20, 24, 20, 51⟩ (f1 :: f2 :: r))) := byRow2 "special-get-raises" (P := fun w => ∀ (os : OsState) (f1 f2 : Frame) (r : List Frame) (b : Bool), goQ w 17 ((S_9_0_24 b) w os) (loopAt PySem.W.SL.s9316426964554523096x16 ⟨[(.ref 79), (.ref 80), .none], []⟩ ⟨20, 24, 20, 51⟩ (f1 :: f2 :: r)) = some ((S_9_0_25 b) w os, (loopAt PySem.W.SL.s9316426964554523096x16 ⟨[(.ref 79), (.ref 80), .none], []⟩ ⟨20, 24, 20, 51⟩ (f1 :: f2 :: r)))) (by intro w os f1 f2 r b; cases b <;> kernel_rfl) (by intro w os f1 f2 r b; cases b <;> kernel_rfl) w
theorem tn_9_0_25 (w : World) : ∀ (os : OsState) (f1 f2 : Frame) (r : List Frame) (b : Bool), goQ w 17 ((S_9_0_25 b) w os) (loopAt PySem.W.SL.s9316426964554523096x16 ⟨[(.ref 79), (.ref 80), .none], []⟩ ⟨20, 24, 20, 51⟩ (f1 :: f2 :: r)) = some ((S_9_0_26 b) w os, (loopAt PySem.W.SL.s9316426964554523096x16 ⟨[(.ref 79), (.ref 80), .none], []⟩ ⟨20, 24, 20, 51⟩ (f1 :: f2 :: r))) := byRow2 "special-get-raises" (P := fun w => ∀ (os : OsState) (f1 f2 : Frame) (r : List Frame) (b : Bool), goQ w 17 ((S_9_0_25 b) w os) (loopAt PySem.W.SL.s9316426964554523096x16 ⟨[(.ref 79), (.ref 80), .none], []⟩ ⟨20, 24, 20, 51⟩ (f1 :: f2 :: r)) = some ((S_9_0_26 b) w os, (loopAt PySem.W.SL.s9316426964554523096x16 ⟨[(.ref 79), (.ref 80), .none], []⟩ ⟨20, 24, 20, 51⟩ (f1 :: f2 :: r)))) (by intro w os f1 f2 r b; cases b <;> kernel_rfl) (by intro w os f1 f2 r b; cases b <;> kernel_rfl) w
theorem tn_9_0_26 (w : World) : ∀ (os : OsState) (f1 f2 : Frame) (r : List Frame) (b : Bool), goQ w 17 ((S_9_0_26 b) w os) (loopAt PySem.W.SL.s9316426964554523096x16 ⟨[(.ref 79), (.ref 80), .none], []⟩ ⟨20, 24, 20, 51⟩ (f1 :: f2 :: r)) = some ((S_9_0_27 b) w os, (loopAt PySem.W.SL.s9316426964554523096x16 ⟨[(.ref 79), (.ref 80), .none], []⟩ ⟨20, 24, 20, 51⟩ (f1 :: f2 :: r))) := byRow2 "special-get-raises" (P := fun w => ∀ (os : OsState) (f1 f2 : Frame) (r : List Frame) (b : Bool), goQ w 17 ((S_9_0_26 b) w os) (loopAt PySem.W.SL.s9316426964554523096x16 ⟨[(.ref 79), (.ref 80), .none], []⟩ ⟨20, 24, 20, 51⟩ (f1 :: f2 :: r)) = some ((S_9_0_27 b) w os, (loopAt PySem.W.SL.s9316426964554523096x16 ⟨[(.ref 79), (.ref 80), .none], []⟩ ⟨20, 24, 20, 51⟩ (f1 :: f2 :: r)))) (by intro w os f1 f2 r b; cases b <;> kernel_rfl) (by intro w os f1 f2 r b; cases b <;> kernel_rfl) w
theorem tn_9_0_27 (w : World) : ∀ (os : OsState) (f1 f2 : Frame) (r : List Frame) (b : Bool), goQ w 17 ((S_9_0_27 b) w os) (loopAt PySem.W.SL.s9316426964554523096x16 ⟨[(.ref 79), (.ref 80), .none], []⟩ ⟨20, 24, 20, 51⟩ (f1 :: f2 :: r)) = some ((S_9_0_28 b) w os, (loopAt PySem.W.SL.s9316426964554523096x16 ⟨[(.ref 79), (.ref 80), .none], []⟩ ⟨20, 24, 20, 51⟩ (f1 :: f2 :: r))) := byRow2 "special-get-raises" (P := fun w => ∀ (os : OsState) (f1 f2 : Frame) (r : List Frame) (b : Bool), goQ w 17 ((S_9_0_27 b) w os) (loopAt PySem.W.SL.s9316426964554523096x16 ⟨[(.ref 79), (.ref 80), .none], []⟩ ⟨20, 24, 20, 51⟩ (f1 :: f2 :: r)) = some ((S_9_0_28 b) w os, (loopAt PySem.W.SL.s9316426964554523096x16 ⟨[(.ref 79), (.ref 80), .none], []⟩ ⟨20, 24, 20, 51⟩ (f1 :: f2 :: r)))) (by intro w os f1 f2 r b; cases b <;> kernel_rfl) (by intro w os f1 f2 r b; cases b <;> kernel_rfl) w
theorem tn_9_0_28 (w : World) : ∀ (os : OsState) (f1 f2 : Frame) (r : List Frame) (b : Bool), goQ w 17 ((S_9_0_28 b) w os) (loopAt PySem.W.SL.s9316426964554523096x16 ⟨[(.ref 79), (.ref 80), .none], []⟩ ⟨20, 24, 20, 51⟩ (f1 :: f2 :: r)) = some ((S_9_0_29 b) w os, (loopAt PySem.W.SL.s9316426964554523096x16 ⟨[(.ref 79), (.ref 80), .none], []⟩ ⟨20, 24, 20, 51⟩ (f1 :: f2 :: r))) := byRow2 "special-get-raises" (P := fun w => ∀ (os : OsState) (f1 f2 : Frame) (r : List Frame) (b : Bool), goQ w 17 ((S_9_0_28 b) w os) (loopAt PySem.W.SL.s9316426964554523096x16 ⟨[(.ref 79), (.ref 80), .none], []⟩ ⟨20, 24, 20, 51⟩ (f1 :: f2 :: r)) = some ((S_9_0_29 b) w os, (loopAt PySem.W.SL.s9316426964554523096x16 ⟨[(.ref 79), (.ref 80), .none], []⟩ ⟨20, 24, 20, 51⟩ (f1 :: f2 :: r)))) (by intro w os f1 f2 r b; cases b <;> kernel_rfl) (by intro w os f1 f2 r b; cases b <;> kernel_rfl) w
theorem tn_9_0_29 (w : World) : ∀ (os : OsState) (f1 f2 : Frame) (r : List Frame) (b : Bool), goQ w 17 ((S_9_0_29 b) w os) (loopAt PySem.W.SL.s9316426964554523096x16 ⟨[(.ref 79), (.ref 80), .none], []⟩ ⟨20, 24, 20, 51⟩ (f1 :: f2 :: r)) = some ((S_9_0_30 b) w os, (loopAt PySem.W.SL.s9316426964554523096x16 ⟨[(.ref 79), (.ref 80), .none], []⟩ ⟨20, 24, 20, 51⟩ (f1 :: f2 :: r))) := byRow2 "special-get-raises" (P := fun w => ∀ (os : OsState) (f1 f2 : Frame) (r : List Frame) (b : Bool), goQ w 17 ((S_9_0_29 b) w os) (loopAt PySem.W.SL.s9316426964554523096x16 ⟨[(.ref 79), (.ref 80), .none], []⟩ ⟨20, 24, 20, 51⟩ (f1 :: f2 :: r)) = some ((S_9_0_30 b) w os, (loopAt PySem.W.SL.s9316426964554523096x16 ⟨[(.ref 79), (.ref 80), .none], []⟩ ⟨20, 24, 20, 51⟩ (f1 :: f2 :: r)))) (by intro w os f1 f2 r b; cases b <;> kernel_rfl) (by intro w os f1 f2 r b; cases b <;> kernel_rfl) w
theorem tn_9_0_30 (w : World) : ∀ (os : OsState) (f1 f2 : Frame) (r : List Frame) (b : Bool), goQ w 17 ((S_9_0_30 b) w os) (loopAt PySem.W.SL.s9316426964554523096x16 ⟨[(.ref 79), (.ref 80), .none], []⟩ ⟨20, 24, 20, 51⟩ (f1 :: f2 :: r)) = some ((S_9_0_31 b) w os, (loopAt PySem.W.SL.s9316426964554523096x16 ⟨[(.ref 79), (.ref 80), .none], []⟩ ⟨20, 24, 20, 51⟩ (f1 :: f2 :: r))) := byRow2 "special-get-raises" (P := fun w => ∀ (os : OsState) (f1 f2 : Frame) (r : List Frame) (b : Bool), goQ w 17 ((S_9_0_30 b) w os) (loopAt PySem.W.SL.s9316426964554523096x16 ⟨[(.ref 79), (.ref 80), .none], []⟩ ⟨20, 24, 20, 51⟩ (f1 :: f2 :: r)) = some ((S_9_0_31 b) w os, (loopAt PySem.W.SL.s9316426964554523096x16 ⟨[(.ref 79), (.ref 80), .none], []⟩ ⟨20, 24, 20, 51⟩ (f1 :: f2 :: r)))) (by intro w os f1 f2 r b; cases b <;> kernel_rfl) (by intro w os f1 f2 r b; cases b <;> kernel_rfl) w
theorem tn_9_0_31 (w : World) : ∀ (os : OsState) (f1 f2 : Frame) (r : List Frame) (b : Bool), goQ w 17 ((S_9_0_31 b) w os) (loopAt PySem.W.SL.s9316426964554523096x16 ⟨[(.ref 79), (.ref 80), .none], []⟩ ⟨20, 24, 20, 51⟩ (f1 :: f2 :: r)) = some ((S_9_0_32 b) w os, (loopAt PySem.W.SL.s9316426964554523096x16 ⟨[(.ref 79), (.ref 80), .none], []⟩ ⟨20, 24, 20, 51⟩ (f1 :: f2 :: r))) := byRow2 "special-get-raises" (P := fun w => ∀ (os : OsState) (f1 f2 : Frame) (r : List Frame) (b : Bool), goQ w 17 ((S_9_0_31 b) w os) (loopAt PySem.W.SL.s9316426964554523096x16 ⟨[(.ref 79), (.ref 80), .none], []⟩ ⟨20, 24, 20, 51⟩ (f1 :: f2 :: r)) = some ((S_9_0_32 b) w os, (loopAt PySem.W.SL.s9316426964554523096x16 ⟨[(.ref 79), (.ref 80), .none], []⟩ ⟨20, 24, 20, 51⟩ (f1 :: f2 :: r)))) (by intro w os f1 f2 r b; cases b <;> kernel_rfl) (by intro w os f1 f2 r b; cases b <;> kernel_rfl) w
theorem tn_9_0_32 (w : World) : ∀ (os : OsState) (f1 f2 : Frame) (r : List Frame) (b : Bool), goQ w 17 ((S_9_0_32 b) w os) (loopAt PySem.W.SL.s9316426964554523096x16 ⟨[(.ref 79), (.ref 80), .none], []⟩ ⟨20, 24, 20, 51⟩ (f1 :: f2 :: r)) = some ((S_9_0_33 b) w os, (loopAt PySem.W.SL.s9316426964554523096x16 ⟨[(.ref 79), (.ref 80), .none], []⟩ ⟨20, 24, 20, 51⟩ (f1 :: f2 :: r))) := byRow2 "special-get-raises" (P := fun w => ∀ (os : OsState) (f1 f2 : Frame) (r : List Frame) (b : Bool), goQ w 17 ((S_9_0_32 b) w os) (loopAt PySem.W.SL.s9316426964554523096x16 ⟨[(.ref 79), (.ref 80), .none], []⟩ ⟨20, 24, 20, 51⟩ (f1 :: f2 :: r)) = some ((S_9_0_33 b) w os, (loopAt PySem.W.SL.s9316426964554523096x16 ⟨[(.ref 79), (.ref 80), .none], []⟩ ⟨20, 24, 20, 51⟩ (f1 :: f2 :: r)))) (by intro w os f1 f2 r b; cases b <;> kernel_rfl) (by intro w os f1 f2 r b; cases b <;> kernel_rfl) w
theorem tn_9_0_33 (w : World) : ∀ (os : OsState) (f1 f2 : Frame) (r : List Frame) (b : Bool), goQ w 17 ((S_9_0_33 b) w os) (loopAt PySem.W.SL.s9316426964554523096x16 ⟨[(.ref 79), (.ref 80), .none], []⟩ ⟨20, 24, 20, 51⟩ (f1 :: f2 :: r)) = some ((S_9_0_34 b) w os, (loopAt PySem.W.SL.s9316426964554523096x16 ⟨[(.ref 79), (.ref 80), .none], []⟩ ⟨20, 24, 20, 51⟩ (f1 :: f2 :: r))) := byRow2 "special-get-raises" (P := fun w => ∀ (os : OsState) (f1 f2 : Frame) (r : List Frame) (b : Bool), goQ w 17 ((S_9_0_33 b) w os) (loopAt PySem.W.SL.s9316426964554523096x16 ⟨[(.ref 79), (.ref 80), .none], []⟩ ⟨20, 24, 20, 51⟩ (f1 :: f2 :: r)) = some ((S_9_0_34 b) w os, (loopAt PySem.W.SL.s9316426964554523096x16 ⟨[(.ref 79), (.ref 80), .none], []⟩ ⟨20, 24, 20, 51⟩ (f1 :: f2 :: r)))) (by intro w os f1 f2 r b; cases b <;> kernel_rfl) (by intro w os f1 f2 r b; cases b <;> kernel_rfl) w
theorem tn_9_0_34 (w : World) : ∀ (os : OsState) (f1 f2 : Frame) (r : List Frame) (b : Bool), goQ w 17 ((S_9_0_34 b) w os) (loopAt PySem.W.SL.s9316426964554523096x16 ⟨[(.ref 79), (.ref 80), .none], []⟩ ⟨20, 24, 20, 51⟩ (f1 :: f2 :: r)) = some ((S_9_0_35 b) w os, (loopAt PySem.W.SL.s9316426964554523096x16 ⟨[(.ref 79), (.ref 80), .none], []⟩ ⟨20, 24, 20, 51⟩ (f1 :: f2 :: r))) := byRow2 "special-get-raises" (P := fun w => ∀ (os : OsState) (f1 f2 : Frame) (r : List Frame) (b : Bool), goQ w 17 ((S_9_0_34 b) w os) (loopAt PySem.W.SL.s9316426964554523096x16 ⟨[(.ref 79), (.ref 80), .none], []⟩ ⟨20, 24, 20, 51⟩ (f1 :: f2 :: r)) = some ((S_9_0_35 b) w os, (loopAt PySem.W.SL.s9316426964554523096x16 ⟨[(.ref 79), (.ref 80), .none], []⟩ ⟨20, 24, 20, 51⟩ (f1 :: f2 :: r)))) (by intro w os f1 f2 r b; cases b <;> kernel_rfl) (by intro w os f1 f2 r b; cases b <;> kernel_rfl) w
theorem tn_9_0_35 (w : World) : ∀ (os : OsState) (f1 f2 : Frame) (r : List Frame) (b : Bool), goQ w 17 ((S_9_0_35 b) w os) (loopAt PySem.W.SL.s9316426964554523096x16 ⟨[(.ref 79), (.ref 80), .none], []⟩ ⟨20, 24, 20, 51⟩ (f1 :: f2 :: r)) = some ((S_9_0_36 b) w os, (loopAt PySem.W.SL.s9316426964554523096x16 ⟨[(.ref 79), (.ref 80), .none], []⟩ ⟨20, 24, 20, 51⟩ (f1 :: f2 :: r))) := byRow2 "special-get-raises" (P := fun w => ∀ (os : OsState) (f1 f2 : Frame) (r : List Frame) (b : Bool), goQ w 17 ((S_9_0_35 b) w os) (loopAt PySem.W.SL.s9316426964554523096x16 ⟨[(.ref 79), (.ref 80), .none], []⟩ ⟨20, 24, 20, 51⟩ (f1 :: f2 :: r)) = some ((S_9_0_36 b) w os, (loopAt PySem.W.SL.s9316426964554523096x16 ⟨[(.ref 79), (.ref 80), .none], []⟩ ⟨20, 24, 20, 51⟩ (f1 :: f2 :: r)))) (by intro w os f1 f2 r b; cases b <;> kernel_rfl) (by intro w os f1 f2 r b; cases b <;> kernel_rfl) w
theorem tn_9_0_36 (w : World) : ∀ (os : OsState) (f1 f2 : Frame) (r : List Frame) (b : Bool), goQ w 17 ((S_9_0_36 b) w os) (loopAt PySem.W.SL.s9316426964554523096x16 ⟨[(.ref 79), (.ref 80), .none], []⟩ ⟨20, 24, 20, 51⟩ (f1 :: f2 :: r)) = some ((S_9_0_37 b) w os, (loopAt PySem.W.SL.s9316426964554523096x16 ⟨[(.ref 79), (.ref 80), .none], []⟩ ⟨20, 24, 20, 51⟩ (f1 :: f2 :: r))) := byRow2 "special-get-raises" (P := fun w => ∀ (os : OsState) (f1 f2 : Frame) (r : List Frame) (b : Bool), goQ w 17 ((S_9_0_36 b) w os) (loopAt PySem.W.SL.s9316426964554523096x16 ⟨[(.ref 79), (.ref 80), .none], []⟩ ⟨20, 24, 20, 51⟩ (f1 :: f2 :: r)) = some ((S_9_0_37 b) w os, (loopAt PySem.W.SL.s9316426964554523096x16 ⟨[(.ref 79), (.ref 80), .none], []⟩ ⟨20, 24, 20, 51⟩ (f1 :: f2 :: r)))) (by intro w os f1 f2 r b; cases b <;> kernel_rfl) (by intro w os f1 f2 r b; cases b <;> kernel_rfl) w
theorem tn_9_0_37 (w : World) : ∀ (os : OsState) (f1 f2 : Frame) (r : List Frame) (b : Bool), goQ w 17 ((S_9_0_37 b) w os) (loopAt PySem.W.SL.s9316426964554523096x16 ⟨[(.ref 79), (.ref 80), .none], []⟩ ⟨20, 24, 20, 51⟩ (f1 :: f2 :: r)) = some ((S_9_0_38 b) w os, (loopAt PySem.W.SL.s9316426964554523096x16 ⟨[(.ref 79), (.ref 80), .none], []⟩ ⟨20, 24, 20, 51⟩ (f1 :: f2 :: r))) := byRow2 "special-get-raises" (P := fun w => ∀ (os : OsState) (f1 f2 : Frame) (r : List Frame) (b : Bool), goQ w 17 ((S_9_0_37 b) w os) (loopAt PySem.W.SL.s9316426964554523096x16 ⟨[(.ref 79), (.ref 80), .none], []⟩ ⟨20, 24, 20, 51⟩ (f1 :: f2 :: r)) = some ((S_9_0_38 b) w os, (loopAt PySem.W.SL.s9316426964554523096x16 ⟨[(.ref 79), (.ref 80), .none], []⟩ ⟨20, 24, 20, 51⟩ (f1 :: f2 :: r)))) (by intro w os f1 f2 r b; cases b <;> kernel_rfl) (by intro w os f1 f2 r b; cases b <;> kernel_rfl) w
theorem tn_9_0_38 (w : World) : ∀ (os : OsState) (f1 f2 : Frame) (r : List Frame) (b : Bool), goQ w 17 ((S_9_0_38 b) w os) (loopAt PySem.W.SL.s9316426964554523096x16 ⟨[(.ref 79), (.ref 80), .none], []⟩ ⟨20, 24, 20, 51⟩ (f1 :: f2 :: r)) = some ((S_9_0_39 b) w os, (loopAt PySem.W.SL.s9316426964554523096x16 ⟨[(.ref 79), (.ref 80), .none], []⟩ ⟨20, 24, 20, 51⟩ (f1 :: f2 :: r))) := byRow2 "special-get-raises" (P := fun w => ∀ (os : OsState) (f1 f2 : Frame) (r : List Frame) (b : Bool), goQ w 17 ((S_9_0_38 b) w os) (loopAt PySem.W.SL.s9316426964554523096x16 ⟨[(.ref 79), (.ref 80), .none], []⟩ ⟨20, 24, 20, 51⟩ (f1 :: f2 :: r)) = some ((S_9_0_39 b) w os, (loopAt PySem.W.SL.s9316426964554523096x16 ⟨[(.ref 79), (.ref 80), .none], []⟩ ⟨20, 24, 20, 51⟩ (f1 :: f2 :: r)))) (by intro w os f1 f2 r b; cases b <;> kernel_rfl) (by intro w os f1 f2 r b; cases b <;> kernel_rfl) w
theorem tn_9_0_39 (w : World) : ∀ (os : OsState) (f1 f2 : Frame) (r : List Frame) (b : Bool), goQ w 17 ((S_9_0_39 b) w os) (loopAt PySem.W.SL.s9316426964554523096x16 ⟨[(.ref 79), (.ref 80), .none], []⟩ ⟨20, 24, 20, 51⟩ (f1 :: f2 :: r)) = some ((S_9_0_40 b) w os, (loopAt PySem.W.SL.s9316426964554523096x16 ⟨[(.ref 79), (.ref 80), .none], []⟩ ⟨20, 24, 20, 51⟩ (f1 :: f2 :: r))) := byRow2 "special-get-raises" (P := fun w => ∀ (os : OsState) (f1 f2 : Frame) (r : List Frame) (b : Bool), goQ w 17 ((S_9_0_39 b) w os) (loopAt PySem.W.SL.s9316426964554523096x16 ⟨[(.ref 79), (.ref 80), .none], []⟩ ⟨20, 24, 20, 51⟩ (f1 :: f2 :: r)) = some ((S_9_0_40 b) w os, (loopAt PySem.W.SL.s9316426964554523096x16 ⟨[(.ref 79), (.ref 80), .none], []⟩ ⟨20, 24, 20, 51⟩ (f1 :: f2 :: r)))) (by intro w os f1 f2 r b; cases b <;> kernel_rfl) (by intro w os f1 f2 r b; cases b <;> kernel_rfl) w
theorem tn_9_0_40 (w : World) : ∀ (os : OsState) (f1 f2 : Frame) (r : List Frame) (b : Bool), goQ w 17 ((S_9_0_40 b) w os) (loopAt PySem.W.SL.s9316426964554523096x16 ⟨[(.ref 79), (.ref 80), .none], []⟩ ⟨20, 24, 20, 51⟩ (f1 :: f2 :: r)) = some ((S_9_0_41 b) w os, (loopAt PySem.W.SL.s9316426964554523096x16 ⟨[(.ref 79), (.ref 80), .none], []⟩ ⟨20, 24, 20, 51⟩ (f1 :: f2 :: r))) := byRow2 "special-get-raises" (P := fun w => ∀ (os : OsState) (f1 f2 : Frame) (r : List Frame) (b : Bool), goQ w 17 ((S_9_0_40 b) w os) (loopAt PySem.W.SL.s9316426964554523096x16 ⟨[(.ref 79), (.ref 80), .none], []⟩ ⟨20, 24, 20, 51⟩ (f1 :: f2 :: r)) = some ((S_9_0_41 b) w os, (loopAt PySem.W.SL.s9316426964554523096x16 ⟨[(.ref 79), (.ref 80), .none], []⟩ ⟨20, 24, 20, 51⟩ (f1 :: f2 :: r)))) (by intro w os f1 f2 r b; cases b <;> kernel_rfl) (by intro w os f1 f2 r b; cases b <;> kernel_rfl) w
theorem tn_9_0_41 (w : World) : ∀ (os : OsState) (f1 f2 : Frame) (r : List Frame) (b : Bool), goQ w 17 ((S_9_0_41 b) w os) (loopAt PySem.W.SL.s9316426964554523096x16 ⟨[(.ref 79), (.ref 80), .none], []⟩ ⟨20, 24, 20, 51⟩ (f1 :: f2 :: r)) = some ((S_9_0_42 b) w os, (loopAt PySem.W.SL.s9316426964554523096x16 ⟨[(.ref 79), (.ref 80), .none], []⟩ ⟨20, 24, 20, 51⟩ (f1 :: f2 :: r))) := byRow2 "special-get-raises" (P := fun w => ∀ (os : OsState) (f1 f2 : Frame) (r : List Frame) (b : Bool), goQ w 17 ((S_9_0_41 b) w os) (loopAt PySem.W.SL.s9316426964554523096x16 ⟨[(.ref 79), (.ref 80), .none], []⟩ ⟨20, 24, 20, 51⟩ (f1 :: f2 :: r)) = some ((S_9_0_42 b) w os, (loopAt PySem.W.SL.s9316426964554523096x16 ⟨[(.ref 79), (.ref 80), .none], []⟩ ⟨20, 24, 20, 51⟩ (f1 :: f2 :: r)))) (by intro w os f1 f2 r b; cases b <;> kernel_rfl) (by intro w os f1 f2 r b; cases b <;> kernel_rfl) w
theorem tn_9_0_42 (w : World) : ∀ (os : OsState) (f1 f2 : Frame) (r : List Frame) (b : Bool), goQ w 17 ((S_9_0_42 b) w os) (loopAt PySem.W.SL.s9316426964554523096x16 ⟨[(.ref 79), (.ref 80), .none], []⟩ ⟨20, 24, 20, 51⟩ (f1 :: f2 :: r)) = some ((S_9_0_43 b) w os, (loopAt PySem.W.SL.s9316426964554523096x16 ⟨[(.ref 79), (.ref 80), .none], []⟩ ⟨20, 24, 20, 51⟩ (f1 :: f2 :: r))) := byRow2 "special-get-raises" (P := fun w => ∀ (os : OsState) (f1 f2 : Frame) (r : List Frame) (b : Bool), goQ w 17 ((S_9_0_42 b) w os) (loopAt PySem.W.SL.s9316426964554523096x16 ⟨[(.ref 79), (.ref 80), .none], []⟩ ⟨20, 24, 20, 51⟩ (f1 :: f2 :: r)) = some ((S_9_0_43 b) w os, (loopAt PySem.W.SL.s9316426964554523096x16 ⟨[(.ref 79), (.ref 80), .none], []⟩ ⟨20, 24, 20, 51⟩ (f1 :: f2 :: r)))) (by intro w os f1 f2 r b; cases b <;> kernel_rfl) (by intro w os f1 f2 r b; cases b <;> kernel_rfl) w
theorem tn_9_0_43 (w : World) : ∀ (os : OsState) (f1 f2 : Frame) (r : List Frame) (b : Bool), goQ w 17 ((S_9_0_43 b) w os) (loopAt PySem.W.SL.s9316426964554523096x16 ⟨[(.ref 79), (.ref 80), .none], []⟩ ⟨20, 24, 20, 51⟩ (f1 :: f2 :: r)) = some ((S_9_0_44 b) w os, (loopAt PySem.W.SL.s9316426964554523096x16 ⟨[(.ref 79), (.ref 80), .none], []⟩ ⟨20, 24, 20, 51⟩ (f1 :: f2 :: r))) := byRow2 "special-get-raises" (P := fun w => ∀ (os : OsState) (f1 f2 : Frame) (r : List Frame) (b : Bool), goQ w 17 ((S_9_0_43 b) w os) (loopAt PySem.W.SL.s9316426964554523096x16 ⟨[(.ref 79), (.ref 80), .none], []⟩ ⟨20, 24, 20, 51⟩ (f1 :: f2 :: r)) = some ((S_9_0_44 b) w os, (loopAt PySem.W.SL.s9316426964554523096x16 ⟨[(.ref 79), (.ref 80), .none], []⟩ ⟨20, 24, 20, 51⟩ (f1 :: f2 :: r)))) (by intro w os f1 f2 r b; cases b <;> kernel_rfl) (by intro w os f1 f2 r b; cases b <;> kernel_rfl) w
theorem tn_9_0_44 (w : World) : ∀ (os : OsState) (f1 f2 : Frame) (r : List Frame) (b : Bool), goQ w 17 ((S_9_0_44 b) w os) (loopAt PySem.W.SL.s9316426964554523096x16 ⟨[(.ref 79), (.ref 80), .none], []⟩ ⟨20, 24, 20, 51⟩ (f1 :: f2 :: r)) = some ((S_9_0_45 b) w os, (loopAt PySem.W.SL.s9316426964554523096x16 ⟨[(.ref 79), (.ref 80), .none], []⟩ ⟨20, 24, 20, 51⟩ (f1 :: f2 :: r))) := byRow2 "special-get-raises" (P := fun w => ∀ (os : OsState) (f1 f2 : Frame) (r : List Frame) (b : Bool), goQ w 17 ((S_9_0_44 b) w os) (loopAt PySem.W.SL.s9316426964554523096x16 ⟨[(.ref 79), (.ref 80), .none], []⟩ ⟨20, 24, 20, 51⟩ (f1 :: f2 :: r)) = some ((S_9_0_45 b) w os, (loopAt PySem.W.SL.s9316426964554523096x16 ⟨[(.ref 79), (.ref 80), .none], []⟩ ⟨20, 24, 20, 51⟩ (f1 :: f2 :: r)))) (by intro w os f1 f2 r b; cases b <;> kernel_rfl) (by intro w os f1 f2 r b; cases b <;> kernel_rfl) w
theorem tn_9_0_45 (w : World) : ∀ (os : OsState) (f1 f2 : Frame) (r : List Frame) (b : Bool), goQ w 17 ((S_9_0_45 b) w os) (loopAt PySem.W.SL.s9316426964554523096x16 ⟨[(.ref 79), (.ref 80), .none], []⟩ ⟨20, 24, 20, 51⟩ (f1 :: f2 :: r)) = some ((S_9_0_46 b) w os, (loopAt PySem.W.SL.s9316426964554523096x16 ⟨[(.ref 79), (.ref 80), .none], []⟩ ⟨20, 24, 20, 51⟩ (f1 :: f2 :: r))) := byRow2 "special-get-raises" (P := fun w => ∀ (os : OsState) (f1 f2 : Frame) (r : List Frame) (b : Bool), goQ w 17 ((S_9_0_45 b) w os) (loopAt PySem.W.SL.s9316426964554523096x16 ⟨[(.ref 79), (.ref 80), .none], []⟩ ⟨20, 24, 20, 51⟩ (f1 :: f2 :: r)) = some ((S_9_0_46 b) w os, (loopAt PySem.W.SL.s9316426964554523096x16 ⟨[(.ref 79), (.ref 80), .none], []⟩ ⟨20, 24, 20, 51⟩ (f1 :: f2 :: r)))) (by intro w os f1 f2 r b; cases b <;> kernel_rfl) (by intro w os f1 f2 r b; cases b <;> kernel_rfl) w
theorem tn_9_0_46 (w : World) : ∀ (os : OsState) (f1 f2 : Frame) (r : List Frame) (b : Bool), goQ w 17 ((S_9_0_46 b) w os) (loopAt PySem.W.SL.s9316426964554523096x16 ⟨[(.ref 79), (.ref 80), .none], []⟩ ⟨20, 24, 20, 51⟩ (f1 :: f2 :: r)) = some ((S_9_0_47 b) w os, (loopAt PySem.W.SL.s9316426964554523096x16 ⟨[(.ref 79), (.ref 80), .none], []⟩ ⟨20, 24, 20, 51⟩ (f1 :: f2 :: r))) := byRow2 "special-get-raises" (P := fun w => ∀ (os : OsState) (f1 f2 : Frame) (r : List Frame) (b : Bool), goQ w 17 ((S_9_0_46 b) w os) (loopAt PySem.W.SL.s9316426964554523096x16 ⟨[(.ref 79), (.ref 80), .none], []⟩ ⟨20, 24, 20, 51⟩ (f1 :: f2 :: r)) = some ((S_9_0_47 b) w os, (loopAt PySem.W.SL.s9316426964554523096x16 ⟨[(.ref 79), (.ref 80), .none], []⟩ ⟨20, 24, 20, 51⟩ (f1 :: f2 :: r)))) (by intro w os f1 f2 r b; cases b <;> kernel_rfl) (by intro w os f1 f2 r b; cases b <;> kernel_rfl) w
theorem tn_9_0_47 (w : World) : ∀ (os : OsState) (f1 f2 : Frame) (r : List Frame) (b : Bool), goQ w 17 ((S_9_0_47 b) w os) (loopAt PySem.W.SL.s9316426964554523096x16 ⟨[(.ref 79), (.ref 80), .none], []⟩ ⟨20, 24, 20, 51⟩ (f1 :: f2 :: r)) = some ((S_9_0_48 b) w os, (loopAt PySem.W.SL.s9316426964554523096x16 ⟨[(.ref 79), (.ref 80), .none], []⟩ ⟨20, 24, 20, 51⟩ (f1 :: f2 :: r))) := byRow2 "special-get-raises" (P := fun w => ∀ (os : OsState) (f1 f2 : Frame) (r : List Frame) (b : Bool), goQ w 17 ((S_9_0_47 b) w os) (loopAt PySem.W.SL.s9316426964554523096x16 ⟨[(.ref 79), (.ref 80), .none], []⟩ ⟨20, 24, 20, 51⟩ (f1 :: f2 :: r)) = some ((S_9_0_48 b) w os, (loopAt PySem.W.SL.s9316426964554523096x16 ⟨[(.ref 79), (.ref 80), .none], []⟩ ⟨20, 24, 20, 51⟩ (f1 :: f2 :: r)))) (by intro w os f1 f2 r b; cases b <;> kernel_rfl) (by intro w os f1 f2 r b; cases b <;> kernel_rfl) w
theorem tn_9_0_48 (w : World) : ∀ (os : OsState) (f1 f2 : Frame) (r : List Frame) (b : Bool), goQ w 17 ((S_9_0_48 b) w os) (loopAt PySem.W.SL.s9316426964554523096x16 ⟨[(.ref 79), (.ref 80), .none], []⟩ ⟨20, 24, 20, 51⟩ (f1 :: f2 :: r)) = some ((S_9_0_49 b) w os, (loopAt PySem.W.SL.s9316426964554523096x16 ⟨[(.ref 79), (.ref 80), .none], []⟩ ⟨20, 24, 20, 51⟩ (f1 :: f2 :: r))) := byRow2 "special-get-raises" (P := fun w => ∀ (os : OsState) (f1 f2 : Frame) (r : List Frame) (b : Bool), goQ w 17 ((S_9_0_48 b) w os) (loopAt PySem.W.SL.s9316426964554523096x16 ⟨[(.ref 79), (.ref 80), .none], []⟩ ⟨20, 24, 20, 51⟩ (f1 :: f2 :: r)) = some ((S_9_0_49 b) w os, (loopAt PySem.W.SL.s9316426964554523096x16 ⟨[(.ref 79), (.ref 80), .none], []⟩ ⟨20, 24, 20, 51⟩ (f1 :: f2 :: r)))) (by intro w os f1 f2 r b; cases b <;> kernel_rfl) (by intro w os f1 f2 r b; cases b <;> kernel_rfl) w
theorem tn_9_0_49 (w : World) : ∀ (os : OsState) (f1 f2 : Frame) (r : List Frame) (b : Bool), goQ w 17 ((S_9_0_49 b) w os) (loopAt PySem.W.SL.s9316426964554523096x16 ⟨[(.ref 79), (.ref 80), .none], []⟩ ⟨20, 24, 20, 51⟩ (f1 :: f2 :: r)) = some ((S_9_0_50 b) w os, (loopAt PySem.W.SL.s9316426964554523096x16 ⟨[(.ref 79), (.ref 80), .none], []⟩ ⟨20, 24, 20, 51⟩ (f1 :: f2 :: r))) := byRow2 "special-get-raises" (P := fun w => ∀ (os : OsState) (f1 f2 : Frame) (r : List Frame) (b : Bool), goQ w 17 ((S_9_0_49 b) w os) (loopAt PySem.W.SL.s9316426964554523096x16 ⟨[(.ref 79), (.ref 80), .none], []⟩ ⟨20, 24, 20, 51⟩ (f1 :: f2 :: r)) = some ((S_9_0_50 b) w os, (loopAt PySem.W.SL.s9316426964554523096x16 ⟨[(.ref 79), (.ref 80), .none], []⟩ ⟨20, 24, 20, 51⟩ (f1 :: f2 :: r)))) (by intro w os f1 f2 r b; cases b <;> kernel_rfl) (by intro w os f1 f2 r b; cases b <;> kernel_rfl) w
theorem tn_9_0_50 (w : World) : ∀ (os : OsState) (f1 f2 : Frame) (r : List Frame) (b : Bool), goQ w 17 ((S_9_0_50 b) w os) (loopAt PySem.W.SL.s9316426964554523096x16 ⟨[(.ref 79), (.ref 80), .none], []⟩ ⟨20, 24, 20, 51⟩ (f1 :: f2 :: r)) = some ((S_9_0_51 b) w os, (loopAt PySem.W.SL.s9316426964554523096x16 ⟨[(.ref 79), (.ref 80), .none], []⟩ ⟨20, 24, 20, 51⟩ (f1 :: f2 :: r))) := byRow2 "special-get-raises" (P := fun w => ∀ (os : OsState) (f1 f2 : Frame) (r : List Frame) (b : Bool), goQ w 17 ((S_9_0_50 b) w os) (loopAt PySem.W.SL.s9316426964554523096x16 ⟨[(.ref 79), (.ref 80), .none], []⟩ ⟨20, 24, 20, 51⟩ (f1 :: f2 :: r)) = some ((S_9_0_51 b) w os, (loopAt PySem.W.SL.s9316426964554523096x16 ⟨[(.ref 79), (.ref 80), .none], []⟩ ⟨20, 24, 20, 51⟩ (f1 :: f2 :: r)))) (by intro w os f1 f2 r b; cases b <;> kernel_rfl) (by intro w os f1 f2 r b; cases b <;> kernel_rfl) w
theorem tn_9_0_51 (w : World) : ∀ (os : OsState) (f1 f2 : Frame) (r : List Frame) (b : Bool), goQ w 17 ((S_9_0_51 b) w os) (loopAt PySem.W.SL.s9316426964554523096x16 ⟨[(.ref 79), (.ref 80), .none], []⟩ ⟨20, 24, 20, 51⟩ (f1 :: f2 :: r)) = some ((S_9_0_52 b) w os, (loopAt PySem.W.SL.s9316426964554523096x16 ⟨[(.ref 79), (.ref 80), .none], []⟩ ⟨20, 24, 20, 51⟩ (f1 :: f2 :: r))) := byRow2 "special-get-raises" (P := fun w => ∀ (os : OsState) (f1 f2 : Frame) (r : List Frame) (b : Bool), goQ w 17 ((S_9_0_51 b) w os) (loopAt PySem.W.SL.s9316426964554523096x16 ⟨[(.ref 79), (.ref 80), .none], []⟩ ⟨20, 24, 20, 51⟩ (f1 :: f2 :: r)) = some ((S_9_0_52 b) w os, (loopAt PySem.W.SL.s9316426964554523096x16 ⟨[(.ref 79), (.ref 80), .none], []⟩ ⟨20, 24, 20, 51⟩ (f1 :: f2 :: r)))) (by intro w os f1 f2 r b; cases b <;> kernel_rfl) (by intro w os f1 f2 r b; cases b <;> kernel_rfl) w
theorem tn_9_0_52 (w : World) : ∀ (os : OsState) (f1 f2 : Frame) (r : List Frame) (b : Bool), goQ w 17 ((S_9_0_52 b) w os) (loopAt PySem.W.SL.s9316426964554523096x16 ⟨[(.ref 79), (.ref 80), .none], []⟩ ⟨20, 24, 20, 51⟩ (f1 :: f2 :: r)) = some ((S_9_0_53 b) w os, (loopAt PySem.W.SL.s9316426964554523096x16 ⟨[(.ref 79), (.ref 80), .none], []⟩ ⟨20, 24, 20, 51⟩ (f1 :: f2 :: r))) := byRow2 "special-get-raises" (P := fun w => ∀ (os : OsState) (f1 f2 : Frame) (r : List Frame) (b : Bool), goQ w 17 ((S_9_0_52 b) w os) (loopAt PySem.W.SL.s9316426964554523096x16 ⟨[(.ref 79), (.ref 80), .none], []⟩ ⟨20, 24, 20, 51⟩ (f1 :: f2 :: r)) = some ((S_9_0_53 b) w os, (loopAt PySem.W.SL.s9316426964554523096x16 ⟨[(.ref 79), (.ref 80), .none], []⟩ ⟨20, 24, 20, 51⟩ (f1 :: f2 :: r)))) (by intro w os f1 f2 r b; cases b <;> kernel_rfl) (by intro w os f1 f2 r b; cases b <;> kernel_rfl) w
theorem tn_9_0_53 (w : World) : ∀ (os : OsState) (f1 f2 : Frame) (r : List Frame) (b : Bool), goQ w 17 ((S_9_0_53 b) w os) (loopAt PySem.W.SL.s9316426964554523096x16 ⟨[(.ref 79), (.ref 80), .none], []⟩ ⟨20, 24, 20, 51⟩ (f1 :: f2 :: r)) = some ((S_9_0_54 b) w os, (loopAt PySem.W.SL.s9316426964554523096x16 ⟨[(.ref 79), (.ref 80), .none], []⟩ ⟨20, 24, 20, 51⟩ (f1 :: f2 :: r))) := byRow2 "special-get-raises" (P := fun w => ∀ (os : OsState) (f1 f2 : Frame) (r : List Frame) (b : Bool), goQ w 17 ((S_9_0_53 b) w os) (loopAt PySem.W.SL.s9316426964554523096x16 ⟨[(.ref 79), (.ref 80), .none], []⟩ ⟨20, 24, 20, 51⟩ (f1 :: f2 :: r)) = some ((S_9_0_54 b) w os, (loopAt PySem.W.SL.s9316426964554523096x16 ⟨[(.ref 79), (.ref 80), .none], []⟩ ⟨20, 24, 20, 51⟩ (f1 :: f2 :: r)))) (by intro w os f1 f2 r b; cases b <;> kernel_rfl) (by intro w os f1 f2 r b; cases b <;> kernel_rfl) w
theorem tn_9_0_54 (w : World) : ∀ (os : OsState) (f1 f2 : Frame) (r : List Frame) (b : Bool), goQ w 17 ((S_9_0_54 b) w os) (loopAt PySem.W.SL.s9316426964554523096x16 ⟨[(.ref 79), (.ref 80), .none], []⟩ ⟨20, 24, 20, 51⟩ (f1 :: f2 :: r)) = some ((S_9_0_55 b) w os, (loopAt PySem.W.SL.s9316426964554523096x16 ⟨[(.ref 79), (.ref 80), .none], []⟩ ⟨20, 24, 20, 51⟩ (f1 :: f2 :: r))) := byRow2 "special-get-raises" (P := fun w => ∀ (os : OsState) (f1 f2 : Frame) (r : List Frame) (b : Bool), goQ w 17 ((S_9_0_54 b) w os) (loopAt PySem.W.SL.s9316426964554523096x16 ⟨[(.ref 79), (.ref 80), .none], []⟩ ⟨20, 24, 20, 51⟩ (f1 :: f2 :: r)) = some ((S_9_0_55 b) w os, (loopAt PySem.W.SL.s9316426964554523096x16 ⟨[(.ref 79), (.ref 80), .none], []⟩ ⟨20, 24, 20, 51⟩ (f1 :: f2 :: r)))) (by intro w os f1 f2 r b; cases b <;> kernel_rfl) (by intro w os f1 f2 r b; cases b <;> kernel_rfl) w
theorem tn_9_0_55 (w : World) : ∀ (os : OsState) (f1 f2 : Frame) (r : List Frame) (b : Bool), goQ w 17 ((S_9_0_55 b) w os) (loopAt PySem.W.SL.s9316426964554523096x16 ⟨[(.ref 79), (.ref 80), .none], []⟩ ⟨20, 24, 20, 51⟩ (f1 :: f2 :: r)) = some ((S_9_0_56 b) w os, (loopAt PySem.W.SL.s9316426964554523096x16 ⟨[(.ref 79), (.ref 80), .none], []⟩ ⟨20, 24, 20, 51⟩ (f1 :: f2 :: r))) := byRow2 "special-get-raises" (P := fun w => ∀ (os : OsState) (f1 f2 : Frame) (r : List Frame) (b : Bool), goQ w 17 ((S_9_0_55 b) w os) (loopAt PySem.W.SL.s9316426964554523096x16 ⟨[(.ref 79), (.ref 80), .none], []⟩ ⟨20, 24, 20, 51⟩ (f1 :: f2 :: r)) = some ((S_9_0_56 b) w os, (loopAt PySem.W.SL.s9316426964554523096x16 ⟨[(.ref 79), (.ref 80), .none], []⟩ ⟨20, 24, 20, 51⟩ (f1 :: f2 :: r)))) (by intro w os f1 f2 r b; cases b <;> kernel_rfl) (by intro w os f1 f2 r b; cases b <;> kernel_rfl) w
theorem tn_9_0_56 (w : World) : ∀ (os : OsState) (f1 f2 : Frame) (r : List Frame) (b : Bool), goQ w 17 ((S_9_0_56 b) w os) (loopAt PySem.W.SL.s9316426964554523096x16 ⟨[(.ref 79), (.ref 80), .none], []⟩ ⟨20, 24, 20, 51⟩ (f1 :: f2 :: r)) = some ((S_9_0_57 b) w os, (loopAt PySem.W.SL.s9316426964554523096x16 ⟨[(.ref 79), (.ref 80), .none], []⟩ ⟨20, 24, 20, 51⟩ (f1 :: f2 :: r))) := byRow2 "special-get-raises" (P := fun w => ∀ (os : OsState) (f1 f2 : Frame) (r : List Frame) (b : Bool), goQ w 17 ((S_9_0_56 b) w os) (loopAt PySem.W.SL.s9316426964554523096x16 ⟨[(.ref 79), (.ref 80), .none], []⟩ ⟨20, 24, 20, 51⟩ (f1 :: f2 :: r)) = some ((S_9_0_57 b) w os, (loopAt PySem.W.SL.s9316426964554523096x16 ⟨[(.ref 79), (.ref 80), .none], []⟩ ⟨20, 24, 20, 51⟩ (f1 :: f2 :: r)))) (by intro w os f1 f2 r b; cases b <;> kernel_rfl) (by intro w os f1 f2 r b; cases b <;> kernel_rfl) w
theorem tn_9_0_57 (w : World) : ∀ (os : OsState) (f1 f2 : Frame) (r : List Frame) (b : Bool), goQ w 17 ((S_9_0_57 b) w os) (loopAt PySem.W.SL.s9316426964554523096x16 ⟨[(.ref 79), (.ref 80), .none], []⟩ ⟨20, 24, 20, 51⟩ (f1 :: f2 :: r)) = some ((S_9_0_58 b) w os, (loopAt PySem.W.SL.s9316426964554523096x16 ⟨[(.ref 79), (.ref 80), .none], []⟩ ⟨20, 24, 20, 51⟩ (f1 :: f2 :: r))) := byRow2 "special-get-raises" (P := fun w => ∀ (os : OsState) (f1 f2 : Frame) (r : List Frame) (b : Bool), goQ w 17 ((S_9_0_57 b) w os) (loopAt PySem.W.SL.s9316426964554523096x16 ⟨[(.ref 79), (.ref 80), .none], []⟩ ⟨20, 24, 20, 51⟩ (f1 :: f2 :: r)) = some ((S_9_0_58 b) w os, (loopAt PySem.W.SL.s9316426964554523096x16 ⟨[(.ref 79), (.ref 80), .none], []⟩ ⟨20, 24, 20, 51⟩ (f1 :: f2 :: r)))) (by intro w os f1 f2 r b; cases b <;> kernel_rfl) (by intro w os f1 f2 r b; cases b <;> kernel_rfl) w
theorem tn_9_0_58 (w : World) : ∀ (os : OsState) (f1 f2 : Frame) (r : List Frame) (b : Bool), goQ w 17 ((S_9_0_58 b) w os) (loopAt PySem.W.SL.s9316426964554523096x16 ⟨[(.ref 79), (.ref 80), .none], []⟩ ⟨20, 24, 20, 51⟩ (f1 :: f2 :: r)) = some ((S_9_0_59 b) w os, (loopAt PySem.W.SL.s9316426964554523096x16 ⟨[(.ref 79), (.ref 80), .none], []⟩ ⟨20, 24, 20, 51⟩ (f1 :: f2 :: r))) := byRow2 "special-get-raises" (P := fun w => ∀ (os : OsState) (f1 f2 : Frame) (r : List Frame) (b : Bool), goQ w 17 ((S_9_0_58 b) w os) (loopAt PySem.W.SL.s9316426964554523096x16 ⟨[(.ref 79), (.ref 80), .none], []⟩ ⟨20, 24, 20, 51⟩ (f1 :: f2 :: r)) = some ((S_9_0_59 b) w os, (loopAt PySem.W.SL.s9316426964554523096x16 ⟨[(.ref 79), (.ref 80), .none], []⟩ ⟨20, 24, 20, 51⟩ (f1 :: f2 :: r)))) (by intro w os f1 f2 r b; cases b <;> kernel_rfl) (by intro w os f1 f2 r b; cases b <;> kernel_rfl) w
theorem tn_9_0_59 (w : World) : ∀ (os : OsState) (f1 f2 : Frame) (r : List Frame) (b : Bool), goQ w 17 ((S_9_0_59 b) w os) (loopAt PySem.W.SL.s9316426964554523096x16 ⟨[(.ref 79), (.ref 80), .none], []⟩ ⟨20, 24, 20, 51⟩ (f1 :: f2 :: r)) = some ((S_9_0_60 b) w os, (loopAt PySem.W.SL.s9316426964554523096x16 ⟨[(.ref 79), (.ref 80), .none], []⟩ ⟨20, 24, 20, 51⟩ (f1 :: f2 :: r))) := byRow2 "special-get-raises" (P := fun w => ∀ (os : OsState) (f1 f2 : Frame) (r : List Frame) (b : Bool), goQ w 17 ((S_9_0_59 b) w os) (loopAt PySem.W.SL.s9316426964554523096x16 ⟨[(.ref 79), (.ref 80), .none], []⟩ ⟨20, 24, 20, 51⟩ (f1 :: f2 :: r)) = some ((S_9_0_60 b) w os, (loopAt PySem.W.SL.s9316426964554523096x16 ⟨[(.ref 79), (.ref 80), .none], []⟩ ⟨20, 24, 20, 51⟩ (f1 :: f2 :: r)))) (by intro w os f1 f2 r b; cases b <;> kernel_rfl) (by intro w os f1 f2 r b; cases b <;> kernel_rfl) w
theorem tn_9_0_60 (w : World) : ∀ (os : OsState) (f1 f2 : Frame) (r : List Frame) (b : Bool), goQ w 17 ((S_9_0_60 b) w os) (loopAt PySem.W.SL.s9316426964554523096x16 ⟨[(.ref 79), (.ref 80), .none], []⟩ ⟨20, 24, 20, 51⟩ (f1 :: f2 :: r)) = some ((S_9_0_61 b) w os, (loopAt PySem.W.SL.s9316426964554523096x16 ⟨[(.ref 79), (.ref 80), .none], []⟩ ⟨20, 24, 20, 51⟩ (f1 :: f2 :: r))) := byRow2 "special-get-raises" (P := fun w => ∀ (os : OsState) (f1 f2 : Frame) (r : List Frame) (b : Bool), goQ w 17 ((S_9_0_60 b) w os) (loopAt PySem.W.SL.s9316426964554523096x16 ⟨[(.ref 79), (.ref 80), .none], []⟩ ⟨20, 24, 20, 51⟩ (f1 :: f2 :: r)) = some ((S_9_0_61 b) w os, (loopAt PySem.W.SL.s9316426964554523096x16 ⟨[(.ref 79), (.ref 80), .none], []⟩ ⟨20, 24, 20, 51⟩ (f1 :: f2 :: r)))) (by intro w os f1 f2 r b; cases b <;> kernel_rfl) (by intro w os f1 f2 r b; cases b <;> kernel_rfl) w
theorem tn_9_0_61 (w : World) : ∀ (os : OsState) (f1 f2 : Frame) (r : List Frame) (b : Bool), goQ w 17 ((S_9_0_61 b) w os) (loopAt PySem.W.SL.s9316426964554523096x16 ⟨[(.ref 79), (.ref 80), .none], []⟩ ⟨20, 24, 20, 51⟩ (f1 :: f2 :: r)) = some ((S_9_0_62 b) w os, (loopAt PySem.W.SL.s9316426964554523096x16 ⟨[(.ref 79), (.ref 80), .none], []⟩ ⟨20, 24, 20, 51⟩ (f1 :: f2 :: r))) := byRow2 "special-get-raises" (P := fun w => ∀ (os : OsState) (f1 f2 : Frame) (r : List Frame) (b : Bool), goQ w 17 ((S_9_0_61 b) w os) (loopAt PySem.W.SL.s9316426964554523096x16 ⟨[(.ref 79), (.ref 80), .none], []⟩ ⟨20, 24, 20, 51⟩ (f1 :: f2 :: r)) = some ((S_9_0_62 b) w os, (loopAt PySem.W.SL.s9316426964554523096x16 ⟨[(.ref 79), (.ref 80), .none], []⟩ ⟨20, 24, 20, 51⟩ (f1 :: f2 :: r)))) (by intro w os f1 f2 r b; cases b <;> kernel_rfl) (by intro w os f1 f2 r b; cases b <;> kernel_rfl) w
theorem tn_9_0_62 (w : World) : ∀ (os : OsState) (f1 f2 : Frame) (r : List Frame) (b : Bool), goQ w 17 ((S_9_0_62 b) w os) (loopAt PySem.W.SL.s9316426964554523096x16 ⟨[(.ref 79), (.ref 80), .none], []⟩ ⟨20, 24, 20, 51⟩ (f1 :: f2 :: r)) = some ((S_9_0_63 b) w os, (loopAt PySem.W.SL.s9316426964554523096x16 ⟨[(.ref 79), (.ref 80), .none], []⟩ ⟨20, 24, 20, 51⟩ (f1 :: f2 :: r))) := byRow2 "special-get-raises" (P := fun w => ∀ (os : OsState) (f1 f2 : Frame) (r : List Frame) (b : Bool), goQ w 17 ((S_9_0_62 b) w os) (loopAt PySem.W.SL.s9316426964554523096x16 ⟨[(.ref 79), (.ref 80), .none], []⟩ ⟨20, 24, 20, 51⟩ (f1 :: f2 :: r)) = some ((S_9_0_63 b) w os, (loopAt PySem.W.SL.s9316426964554523096x16 ⟨[(.ref 79), (.ref 80), .none], []⟩ ⟨20, 24, 20, 51⟩ (f1 :: f2 :: r)))) (by intro w os f1 f2 r b; cases b <;> kernel_rfl) (by intro w os f1 f2 r b; cases b <;> kernel_rfl) w
theorem tn_9_0_63 (w : World) : ∀ (os : OsState) (f1 f2 : Frame) (r : List Frame) (b : Bool), goQ w 17 ((S_9_0_63 b) w os) (loopAt PySem.W.SL.s9316426964554523096x16 ⟨[(.ref 79), (.ref 80), .none], []⟩ ⟨20, 24, 20, 51⟩ (f1 :: f2 :: r)) = some ((S_9_0_64 b) w os, (loopAt PySem.W.SL.s9316426964554523096x16 ⟨[(.ref 79), (.ref 80), .none], []⟩ ⟨20, 24, 20, 51⟩ (f1 :: f2 :: r))) := byRow2 "special-get-raises" (P := fun w => ∀ (os : OsState) (f1 f2 : Frame) (r : List Frame) (b : Bool), goQ w 17 ((S_9_0_63 b) w os) (loopAt PySem.W.SL.s9316426964554523096x16 ⟨[(.ref 79), (.ref 80), .none], []⟩ ⟨20, 24, 20, 51⟩ (f1 :: f2 :: r)) = some ((S_9_0_64 b) w os, (loopAt PySem.W.SL.s9316426964554523096x16 ⟨[(.ref 79), (.ref 80), .none], []⟩ ⟨20, 24, 20, 51⟩ (f1 :: f2 :: r)))) (by intro w os f1 f2 r b; cases b <;> kernel_rfl) (by intro w os f1 f2 r b; cases b <;> kernel_rfl) w
theorem tn_9_0_64 (w : World) : ∀ (os : OsState) (f1 f2 : Frame) (r : List Frame) (b : Bool), goQ w 17 ((S_9_0_64 b) w os) (loopAt PySem.W.SL.s9316426964554523096x16 ⟨[(.ref 79), (.ref 80), .none], []⟩ ⟨20, 24, 20, 51⟩ (f1 :: f2 :: r)) = some ((S_9_0_65 b) w os, (loopAt PySem.W.SL.s9316426964554523096x16 ⟨[(.ref 79), (.ref 80), .none], []⟩ ⟨20, 24, 20, 51⟩ (f1 :: f2 :: r))) := byRow2 "special-get-raises" (P := fun w => ∀ (os : OsState) (f1 f2 : Frame) (r : List Frame) (b : Bool), goQ w 17 ((S_9_0_64 b) w os) (loopAt PySem.W.SL.s9316426964554523096x16 ⟨[(.ref 79), (.ref 80), .none], []⟩ ⟨20, 24, 20, 51⟩ (f1 :: f2 :: r)) = some ((S_9_0_65 b) w os, (loopAt PySem.W.SL.s9316426964554523096x16 ⟨[(.ref 79), (.ref 80), .none], []⟩ ⟨20, 24, 20, 51⟩ (f1 :: f2 :: r)))) (by intro w os f1 f2 r b; cases b <;> kernel_rfl) (by intro w os f1 f2 r b; cases b <;> kernel_rfl) w
theorem tn_9_0_65 (w : World) : ∀ (os : OsState) (f1 f2 : Frame) (r : List Frame) (b : Bool), goQ w 17 ((S_9_0_65 b) w os) (loopAt PySem.W.SL.s9316426964554523096x16 ⟨[(.ref 79), (.ref 80), .none], []⟩ ⟨20, 24, 20, 51⟩ (f1 :: f2 :: r)) = some ((S_9_0_66 b) w os, (loopAt PySem.W.SL.s9316426964554523096x16 ⟨[(.ref 79), (.ref 80), .none], []⟩ ⟨20, 24, 20, 51⟩ (f1 :: f2 :: r))) := byRow2 "special-get-raises" (P := fun w => ∀ (os : OsState) (f1 f2 : Frame) (r : List Frame) (b : Bool), goQ w 17 ((S_9_0_65 b) w os) (loopAt PySem.W.SL.s9316426964554523096x16 ⟨[(.ref 79), (.ref 80), .none], []⟩ ⟨20, 24, 20, 51⟩ (f1 :: f2 :: r)) = some ((S_9_0_66 b) w os, (loopAt PySem.W.SL.s9316426964554523096x16 ⟨[(.ref 79), (.ref 80), .none], []⟩ ⟨20, 24, 20, 51⟩ (f1 :: f2 :: r)))) (by intro w os f1 f2 r b; cases b <;> kernel_rfl) (by intro w os f1 f2 r b; cases b <;> kernel_rfl) w
theorem tn_9_0_66 (w : World) : ∀ (os : OsState) (f1 f2 : Frame) (r : List Frame) (b : Bool), goQ w 17 ((S_9_0_66 b) w os) (loopAt PySem.W.SL.s9316426964554523096x16 ⟨[(.ref 79), (.ref 80), .none], []⟩ ⟨20, 24, 20, 51⟩ (f1 :: f2 :: r)) = some ((S_9_0_67 b) w os, (loopAt PySem.W.SL.s9316426964554523096x16 ⟨[(.ref 79), (.ref 80), .none], []⟩ ⟨20, 24, 20, 51⟩ (f1 :: f2 :: r))) := byRow2 "special-get-raises" (P := fun w => ∀ (os : OsState) (f1 f2 : Frame) (r : List Frame) (b : Bool), goQ w 17 ((S_9_0_66 b) w os) (loopAt PySem.W.SL.s9316426964554523096x16 ⟨[(.ref 79), (.ref 80), .none], []⟩ ⟨20, 24, 20, 51⟩ (f1 :: f2 :: r)) = some ((S_9_0_67 b) w os, (loopAt PySem.W.SL.s9316426964554523096x16 ⟨[(.ref 79), (.ref 80), .none], []⟩ ⟨20, 24, 20, 51⟩ (f1 :: f2 :: r)))) (by intro w os f1 f2 r b; cases b <;> kernel_rfl) (by intro w os f1 f2 r b; cases b <;> kernel_rfl) w
theorem tn_9_0_67 (w : World) : ∀ (os : OsState) (f1 f2 : Frame) (r : List Frame) (b : Bool), goQ w 17 ((S_9_0_67 b) w os) (loopAt PySem.W.SL.s9316426964554523096x16 ⟨[(.ref 79), (.ref 80), .none], []⟩ ⟨20, 24, 20, 51⟩ (f1 :: f2 :: r)) = some ((S_9_0_68 b) w os, (loopAt PySem.W.SL.s9316426964554523096x16 ⟨[(.ref 79), (.ref 80), .none], []⟩ ⟨20, 24, 20, 51⟩ (f1 :: f2 :: r))) := byRow2 "special-get-raises" (P := fun w => ∀ (os : OsState) (f1 f2 : Frame) (r : List Frame) (b : Bool), goQ w 17 ((S_9_0_67 b) w os) (loopAt PySem.W.SL.s9316426964554523096x16 ⟨[(.ref 79), (.ref 80), .none], []⟩ ⟨20, 24, 20, 51⟩ (f1 :: f2 :: r)) = some ((S_9_0_68 b) w os, (loopAt PySem.W.SL.s9316426964554523096x16 ⟨[(.ref 79), (.ref 80), .none], []⟩ ⟨20, 24, 20, 51⟩ (f1 :: f2 :: r)))) (by intro w os f1 f2 r b; cases b <;> kernel_rfl) (by intro w os f1 f2 r b; cases b <;> kernel_rfl) w
theorem tn_9_0_68 (w : World) : ∀ (os : OsState) (f1 f2 : Frame) (r : List Frame) (b : Bool), goQ w 17 ((S_9_0_68 b) w os) (loopAt PySem.W.SL.s9316426964554523096x16 ⟨[(.ref 79), (.ref 80), .none], []⟩ ⟨20, 24, 20, 51⟩ (f1 :: f2 :: r)) = some ((S_9_0_69 b) w os, (loopAt PySem.W.SL.s9316426964554523096x16 ⟨[(.ref 79), (.ref 80), .none], []⟩ ⟨20, 24, 20, 51⟩ (f1 :: f2 :: r))) := byRow2 "special-get-raises" (P := fun w => ∀ (os : OsState) (f1 f2 : Frame) (r : List Frame) (b : Bool), goQ w 17 ((S_9_0_68 b) w os) (loopAt PySem.W.SL.s9316426964554523096x16 ⟨[(.ref 79), (.ref 80), .none], []⟩ ⟨20, 24, 20, 51⟩ (f1 :: f2 :: r)) = some ((S_9_0_69 b) w os, (loopAt PySem.W.SL.s9316426964554523096x16 ⟨[(.ref 79), (.ref 80), .none], []⟩ ⟨20, 24, 20, 51⟩ (f1 :: f2 :: r)))) (by intro w os f1 f2 r b; cases b <;> kernel_rfl) (by intro w os f1 f2 r b; cases b <;> kernel_rfl) w
theorem tn_9_0_69 (w : World) : ∀ (os : OsState) (f1 f2 : Frame) (r : List Frame) (b : Bool), goQ w 17 ((S_9_0_69 b) w os) (loopAt PySem.W.SL.s9316426964554523096x16 ⟨[(.ref 79), (.ref 80), .none], []⟩ ⟨20, 24, 20, 51⟩ (f1 :: f2 :: r)) = some ((S_9_0_70 b) w os, (loopAt PySem.W.SL.s9316426964554523096x16 ⟨[(.ref 79), (.ref 80), .none], []⟩ ⟨20, 24, 20, 51⟩ (f1 :: f2 :: r))) := byRow2 "special-get-raises" (P := fun w => ∀ (os : OsState) (f1 f2 : Frame) (r : List Frame) (b : Bool), goQ w 17 ((S_9_0_69 b) w os) (loopAt PySem.W.SL.s9316426964554523096x16 ⟨[(.ref 79), (.ref 80), .none], []⟩ ⟨20, 24, 20, 51⟩ (f1 :: f2 :: r)) = some ((S_9_0_70 b) w os, (loopAt PySem.W.SL.s9316426964554523096x16 ⟨[(.ref 79), (.ref 80), .none], []⟩ ⟨20, 24, 20, 51⟩ (f1 :: f2 :: r)))) (by intro w os f1 f2 r b; cases b <;> kernel_rfl) (by intro w os f1 f2 r b; cases b <;> kernel_rfl) w
theorem tn_9_0_70 (w : World) : ∀ (os : OsState) (f1 f2 : Frame) (r : List Frame) (b : Bool), goQ w 17 ((S_9_0_70 b) w os) (loopAt PySem.W.SL.s9316426964554523096x16 ⟨[(.ref 79), (.ref 80), .none], []⟩ ⟨20, 24, 20, 51⟩ (f1 :: f2 :: r)) = some ((S_9_0_71 b) w os, (loopAt PySem.W.SL.s9316426964554523096x16 ⟨[(.ref 79), (.ref 80), .none], []⟩ ⟨20, 24, 20, 51⟩ (f1 :: f2 :: r))) := byRow2 "special-get-raises" (P := fun w => ∀ (os : OsState) (f1 f2 : Frame) (r : List Frame) (b : Bool), goQ w 17 ((S_9_0_70 b) w os) (loopAt PySem.W.SL.s9316426964554523096x16 ⟨[(.ref 79), (.ref 80), .none], []⟩ ⟨20, 24, 20, 51⟩ (f1 :: f2 :: r)) = some ((S_9_0_71 b) w os, (loopAt PySem.W.SL.s9316426964554523096x16 ⟨[(.ref 79), (.ref 80), .none], []⟩ ⟨20, 24, 20, 51⟩ (f1 :: f2 :: r)))) (by intro w os f1 f2 r b; cases b <;> kernel_rfl) (by intro w os f1 f2 r b; cases b <;> kernel_rfl) w
theorem tn_9_0_71 (w : World) : ∀ (os : OsState) (f1 f2 : Frame) (r : List Frame) (b : Bool), goQ w 17 ((S_9_0_71 b) w os) (loopAt PySem.W.SL.s9316426964554523096x16 ⟨[(.ref 79), (.ref 80), .none], []⟩ ⟨20, 24, 20, 51⟩ (f1 :: f2 :: r)) = some ((S_9_0_72 b) w os, (loopAt PySem.W.SL.s9316426964554523096x16 ⟨[(.ref 79), (.ref 80), .none], []⟩ ⟨20, 24, 20, 51⟩ (f1 :: f2 :: r))) := byRow2 "special-get-raises" (P := fun w => ∀ (os : OsState) (f1 f2 : Frame) (r : List Frame) (b : Bool), goQ w 17 ((S_9_0_71 b) w os) (loopAt PySem.W.SL.s9316426964554523096x16 ⟨[(.ref 79), (.ref 80), .none], []⟩ ⟨20, 24, 20, 51⟩ (f1 :: f2 :: r)) = some ((S_9_0_72 b) w os, (loopAt PySem.W.SL.s9316426964554523096x16 ⟨[(.ref 79), (.ref 80), .none], []⟩ ⟨20, 24, 20, 51⟩ (f1 :: f2 :: r)))) (by intro w os f1 f2 r b; cases b <;> kernel_rfl) (by intro w os f1 f2 r b; cases b <;> kernel_rfl) w
theorem tn_9_0_72 (w : World) : ∀ (os : OsState) (f1 f2 : Frame) (r : List Frame) (b : Bool), goQ w 17 ((S_9_0_72 b) w os) (loopAt PySem.W.SL.s9316426964554523096x16 ⟨[(.ref 79), (.ref 80), .none], []⟩ ⟨20, 24, 20, 51⟩ (f1 :: f2 :: r)) = some ((S_9_0_73 b) w os, (loopAt PySem.W.SL.s9316426964554523096x16 ⟨[(.ref 79), (.ref 80), .none], []⟩ ⟨20, 24, 20, 51⟩ (f1 :: f2 :: r))) := byRow2 "special-get-raises" (P := fun w => ∀ (os : OsState) (f1 f2 : Frame) (r : List Frame) (b : Bool), goQ w 17 ((S_9_0_72 b) w os) (loopAt PySem.W.SL.s9316426964554523096x16 ⟨[(.ref 79), (.ref 80), .none], []⟩ ⟨20, 24, 20, 51⟩ (f1 :: f2 :: r)) = some ((S_9_0_73 b) w os, (loopAt PySem.W.SL.s9316426964554523096x16 ⟨[(.ref 79), (.ref 80), .none], []⟩ ⟨20, 24, 20, 51⟩ (f1 :: f2 :: r)))) (by intro w os f1 f2 r b; cases b <;> kernel_rfl) (by intro w os f1 f2 r b; cases b <;> kernel_rfl) w
theorem tn_9_0_73 (w : World) : ∀ (os : OsState) (f1 f2 : Frame) (r : List Frame) (b : Bool), goQ w 17 ((S_9_0_73 b) w os) (loopAt PySem.W.SL.s9316426964554523096x16 ⟨[(.ref 79), (.ref 80), .none], []⟩ ⟨20, 24, 20, 51⟩ (f1 :: f2 :: r)) = some ((S_9_0_74 b) w os, (loopAt PySem.W.SL.s9316426964554523096x16 ⟨[(.ref 79), (.ref 80), .none], []⟩ ⟨20, 24, 20, 51⟩ (f1 :: f2 :: r))) := byRow2 "special-get-raises" (P := fun w => ∀ (os : OsState) (f1 f2 : Frame) (r : List Frame) (b : Bool), goQ w 17 ((S_9_0_73 b) w os) (loopAt PySem.W.SL.s9316426964554523096x16 ⟨[(.ref 79), (.ref 80), .none], []⟩ ⟨20, 24, 20, 51⟩ (f1 :: f2 :: r)) = some ((S_9_0_74 b) w os, (loopAt PySem.W.SL.s9316426964554523096x16 ⟨[(.ref 79), (.ref 80), .none], []⟩ ⟨20, 24, 20, 51⟩ (f1 :: f2 :: r)))) (by intro w os f1 f2 r b; cases b <;> kernel_rfl) (by intro w os f1 f2 r b; cases b <;> kernel_rfl) w
theorem tn_9_0_74 (w : World) : ∀ (os : OsState) (f1 f2 : Frame) (r : List Frame) (b : Bool), goQ w 17 ((S_9_0_74 b) w os) (loopAt PySem.W.SL.s9316426964554523096x16 ⟨[(.ref 79), (.ref 80), .none], []⟩ ⟨20, 24, 20, 51⟩ (f1 :: f2 :: r)) = some ((S_9_0_75 b) w os, (loopAt PySem.W.SL.s9316426964554523096x16 ⟨[(.ref 79), (.ref 80), .none], []⟩ ⟨20, 24, 20, 51⟩ (f1 :: f2 :: r))) := byRow2 "special-get-raises" (P := fun w => ∀ (os : OsState) (f1 f2 : Frame) (r : List Frame) (b : Bool), goQ w 17 ((S_9_0_74 b) w os) (loopAt PySem.W.SL.s9316426964554523096x16 ⟨[(.ref 79), (.ref 80), .none], []⟩ ⟨20, 24, 20, 51⟩ (f1 :: f2 :: r)) = some ((S_9_0_75 b) w os, (loopAt PySem.W.SL.s9316426964554523096x16 ⟨[(.ref 79), (.ref 80), .none], []⟩ ⟨20, 24, 20, 51⟩ (f1 :: f2 :: r)))) (by intro w os f1 f2 r b; cases b <;> kernel_rfl) (by intro w os f1 f2 r b; cases b <;> kernel_rfl) w
theorem tn_9_0_75 (w : World) : ∀ (os : OsState) (f1 f2 : Frame) (r : List Frame) (b : Bool), goQ w 17 ((S_9_0_75 b) w os) (loopAt PySem.W.SL.s9316426964554523096x16 ⟨[(.ref 79), (.ref 80), .none], []⟩ ⟨20, 24, 20, 51⟩ (f1 :: f2 :: r)) = some ((S_9_0_76 b) w os, (loopAt PySem.W.SL.s9316426964554523096x16 ⟨[(.ref 79), (.ref 80), .none], []⟩ ⟨20, 24, 20, 51⟩ (f1 :: f2 :: r))) := byRow2 "special-get-raises" (P := fun w => ∀ (os : OsState) (f1 f2 : Frame) (r : List Frame) (b : Bool), goQ w 17 ((S_9_0_75 b) w os) (loopAt PySem.W.SL.s9316426964554523096x16 ⟨[(.ref 79), (.ref 80), .none], []⟩ ⟨20, 24, 20, 51⟩ (f1 :: f2 :: r)) = some ((S_9_0_76 b) w os, (loopAt PySem.W.SL.s9316426964554523096x16 ⟨[(.ref 79), (.ref 80), .none], []⟩ ⟨20, 24, 20, 51⟩ (f1 :: f2 :: r)))) (by intro w os f1 f2 r b; cases b <;> kernel_rfl) (by intro w os f1 f2 r b; cases b <;> kernel_rfl) w
theorem tn_9_0_76 (w : World) : ∀ (os : OsState) (f1 f2 : Frame) (r : List Frame) (b : Bool), goQ w 17 ((S_9_0_76 b) w os) (loopAt PySem.W.SL.s9316426964554523096x16 ⟨[(.ref 79), (.ref 80), .none], []⟩ ⟨20, 24, 20, 51⟩ (f1 :: f2 :: r)) = some ((S_9_0_77 b) w os, (loopAt PySem.W.SL.s9316426964554523096x16 ⟨[(.ref 79), (.ref 80), .none], []⟩ ⟨20, 24, 20, 51⟩ (f1 :: f2 :: r))) := byRow2 "special-get-raises" (P := fun w => ∀ (os : OsState) (f1 f2 : Frame) (r : List Frame) (b : Bool), goQ w 17 ((S_9_0_76 b) w os) (loopAt PySem.W.SL.s9316426964554523096x16 ⟨[(.ref 79), (.ref 80), .none], []⟩ ⟨20, 24, 20, 51⟩ (f1 :: f2 :: r)) = some ((S_9_0_77 b) w os, (loopAt PySem.W.SL.s9316426964554523096x16 ⟨[(.ref 79), (.ref 80), .none], []⟩ ⟨20, 24, 20, 51⟩ (f1 :: f2 :: r)))) (by intro w os f1 f2 r b; cases b <;> kernel_rfl) (by intro w os f1 f2 r b; cases b <;> kernel_rfl) w
theorem tn_9_0_77 (w : World) : ∀ (os : OsState) (f1 f2 : Frame) (r : List Frame) (b : Bool), goQ w 17 ((S_9_0_77 b) w os) (loopAt PySem.W.SL.s9316426964554523096x16 ⟨[(.ref 79), (.ref 80), .none], []⟩ ⟨20, 24, 20, 51⟩ (f1 :: f2 :: r)) = some ((S_9_0_78 b) w os, (loopAt PySem.W.SL.s9316426964554523096x16 ⟨[(.ref 79), (.ref 80), .none], []⟩ ⟨20, 24, 20, 51⟩ (f1 :: f2 :: r))) := byRow2 "special-get-raises" (P := fun w => ∀ (os : OsState) (f1 f2 : Frame) (r : List Frame) (b : Bool), goQ w 17 ((S_9_0_77 b) w os) (loopAt PySem.W.SL.s9316426964554523096x16 ⟨[(.ref 79), (.ref 80), .none], []⟩ ⟨20, 24, 20, 51⟩ (f1 :: f2 :: r)) = some ((S_9_0_78 b) w os, (loopAt PySem.W.SL.s9316426964554523096x16 ⟨[(.ref 79), (.ref 80), .none], []⟩ ⟨20, 24, 20, 51⟩ (f1 :: f2 :: r)))) (by intro w os f1 f2 r b; cases b <;> kernel_rfl) (by intro w os f1 f2 r b; cases b <;> kernel_rfl) w
theorem tn_9_0_78 (w : World) : ∀ (os : OsState) (f1 f2 : Frame) (r : List Frame) (b : Bool), goQ w 17 ((S_9_0_78 b) w os) (loopAt PySem.W.SL.s9316426964554523096x16 ⟨[(.ref 79), (.ref 80), .none], []⟩ ⟨20, 24, 20, 51⟩ (f1 :: f2 :: r)) = some ((S_9_0_79 b) w os, (loopAt PySem.W.SL.s9316426964554523096x16 ⟨[(.ref 79), (.ref 80), .none], []⟩ ⟨20, 24, 20, 51⟩ (f1 :: f2 :: r))) := byRow2 "special-get-raises" (P := fun w => ∀ (os : OsState) (f1 f2 : Frame) (r : List Frame) (b : Bool), goQ w 17 ((S_9_0_78 b) w os) (loopAt PySem.W.SL.s9316426964554523096x16 ⟨[(.ref 79), (.ref 80), .none], []⟩ ⟨20, 24, 20, 51⟩ (f1 :: f2 :: r)) = some ((S_9_0_79 b) w os, (loopAt PySem.W.SL.s9316426964554523096x16 ⟨[(.ref 79), (.ref 80), .none], []⟩ ⟨20, 24, 20, 51⟩ (f1 :: f2 :: r)))) (by intro w os f1 f2 r b; cases b <;> kernel_rfl) (by intro w os f1 f2 r b; cases b <;> kernel_rfl) w
theorem tn_9_0_79 (w : World) : ∀ (os : OsState) (f1 f2 : Frame) (r : List Frame) (b : Bool), goQ w 17 ((S_9_0_79 b) w os) (loopAt PySem.W.SL.s9316426964554523096x16 ⟨[(.ref 79), (.ref 80), .none], []⟩ ⟨20, 24, 20, 51⟩ (f1 :: f2 :: r)) = some ((S_9_0_80 b) w os, (loopAt PySem.W.SL.s9316426964554523096x16 ⟨[(.ref 79), (.ref 80), .none], []⟩ ⟨20, 24, 20, 51⟩ (f1 :: f2 :: r))) := byRow2 "special-get-raises" (P := fun w => ∀ (os : OsState) (f1 f2 : Frame) (r : List Frame) (b : Bool), goQ w 17 ((S_9_0_79 b) w os) (loopAt PySem.W.SL.s9316426964554523096x16 ⟨[(.ref 79), (.ref 80), .none], []⟩ ⟨20, 24, 20, 51⟩ (f1 :: f2 :: r)) = some ((S_9_0_80 b) w os, (loopAt PySem.W.SL.s9316426964554523096x16 ⟨[(.ref 79), (.ref 80), .none], []⟩ ⟨20, 24, 20, 51⟩ (f1 :: f2 :: r)))) (by intro w os f1 f2 r b; cases b <;> kernel_rfl) (by intro w os f1 f2 r b; cases b <;> kernel_rfl) w
theorem tn_9_0_80 (w : World) : ∀ (os : OsState) (f1 f2 : Frame) (r : List Frame) (b : Bool), goQ w 17 ((S_9_0_80 b) w os) (loopAt PySem.W.SL.s9316426964554523096x16 ⟨[(.ref 79), (.ref 80), .none], []⟩ ⟨20, 24, 20, 51⟩ (f1 :: f2 :: r)) = some ((S_9_0_81 b) w os, (loopAt PySem.W.SL.s9316426964554523096x16 ⟨[(.ref 79), (.ref 80), .none], []⟩ ⟨20, 24, 20, 51⟩ (f1 :: f2 :: r))) := byRow2 "special-get-raises" (P := fun w => ∀ (os : OsState) (f1 f2 : Frame) (r : List Frame) (b : Bool), goQ w 17 ((S_9_0_80 b) w os) (loopAt PySem.W.SL.s9316426964554523096x16 ⟨[(.ref 79), (.ref 80), .none], []⟩ ⟨20, 24, 20, 51⟩ (f1 :: f2 :: r)) = some ((S_9_0_81 b) w os, (loopAt PySem.W.SL.s9316426964554523096x16 ⟨[(.ref 79), (.ref 80), .none], []⟩ ⟨20, 24, 20, 51⟩ (f1 :: f2 :: r)))) (by intro w os f1 f2 r b; cases b <;> kernel_rfl) (by intro w os f1 f2 r b; cases b <;> kernel_rfl) w
theorem tn_9_0_81 (w : World) : ∀ (os : OsState) (f1 f2 : Frame) (r : List Frame) (b : Bool), goQ w 17 ((S_9_0_81 b) w os) (loopAt PySem.W.SL.s9316426964554523096x16 ⟨[(.ref 79), (.ref 80), .none], []⟩ ⟨20, 24, 20, 51⟩ (f1 :: f2 :: r)) = some ((S_9_0_82 b) w os, (loopAt PySem.W.SL.s9316426964554523096x16 ⟨[(.ref 79), (.ref 80), .none], []⟩ ⟨20, 24, 20, 51⟩ (f1 :: f2 :: r))) := byRow2 "special-get-raises" (P := fun w => ∀ (os : OsState) (f1 f2 : Frame) (r : List Frame) (b : Bool), goQ w 17 ((S_9_0_81 b) w os) (loopAt PySem.W.SL.s9316426964554523096x16 ⟨[(.ref 79), (.ref 80), .none], []⟩ ⟨20, 24, 20, 51⟩ (f1 :: f2 :: r)) = some ((S_9_0_82 b) w os, (loopAt PySem.W.SL.s9316426964554523096x16 ⟨[(.ref 79), (.ref 80), .none], []⟩ ⟨20, 24, 20, 51⟩ (f1 :: f2 :: r)))) (by intro w os f1 f2 r b; cases b <;> kernel_rfl) (by intro w os f1 f2 r b; cases b <;> kernel_rfl) w
theorem tn_9_0_82 (w : World) : ∀ (os : OsState) (f1 f2 : Frame) (r : List Frame) (b : Bool), goQ w 17 ((S_9_0_82 b) w os) (loopAt PySem.W.SL.s9316426964554523096x16 ⟨[(.ref 79), (.ref 80), .none], []⟩ ⟨20, 24, 20, 51⟩ (f1 :: f2 :: r)) = some ((S_9_0_83 b) w os, (loopAt PySem.W.SL.s9316426964554523096x16 ⟨[(.ref 79), (.ref 80), .none], []⟩ ⟨20, 24, 20, 51⟩ (f1 :: f2 :: r))) := byRow2 "special-get-raises" (P := fun w => ∀ (os : OsState) (f1 f2 : Frame) (r : List Frame) (b : Bool), goQ w 17 ((S_9_0_82 b) w os) (loopAt PySem.W.SL.s9316426964554523096x16 ⟨[(.ref 79), (.ref 80), .none], []⟩ ⟨20, 24, 20, 51⟩ (f1 :: f2 :: r)) = some ((S_9_0_83 b) w os, (loopAt PySem.W.SL.s9316426964554523096x16 ⟨[(.ref 79), (.ref 80), .none], []⟩ ⟨20, 24, 20, 51⟩ (f1 :: f2 :: r)))) (by intro w os f1 f2 r b; cases b <;> kernel_rfl) (by intro w os f1 f2 r b; cases b <;> kernel_rfl) w
theorem tn_9_0_83 (w : World) : ∀ (os : OsState) (f1 f2 : Frame) (r : List Frame) (b : Bool), goQ w 17 ((S_9_0_83 b) w os) (loopAt PySem.W.SL.s9316426964554523096x16 ⟨[(.ref 79), (.ref 80), .none], []⟩ ⟨20, 24, 20, 51⟩ (f1 :: f2 :: r)) = some ((S_9_0_84 b) w os, (loopAt PySem.W.SL.s9316426964554523096x16 ⟨[(.ref 79), (.ref 80), .none], []⟩ ⟨20, 24, 20, 51⟩ (f1 :: f2 :: r))) := byRow2 "special-get-raises" (P := fun w => ∀ (os : OsState) (f1 f2 : Frame) (r : List Frame) (b : Bool), goQ w 17 ((S_9_0_83 b) w os) (loopAt PySem.W.SL.s9316426964554523096x16 ⟨[(.ref 79), (.ref 80), .none], []⟩ ⟨20, 24, 20, 51⟩ (f1 :: f2 :: r)) = some ((S_9_0_84 b) w os, (loopAt PySem.W.SL.s9316426964554523096x16 ⟨[(.ref 79), (.ref 80), .none], []⟩ ⟨20, 24, 20, 51⟩ (f1 :: f2 :: r)))) (by intro w os f1 f2 r b; cases b <;> kernel_rfl) (by intro w os f1 f2 r b; cases b <;> kernel_rfl) w
theorem tn_9_0_84 (w : World) : ∀ (os : OsState) (f1 f2 : Frame) (r : List Frame) (b : Bool), goQ w 17 ((S_9_0_84 b) w os) (loopAt PySem.W.SL.s9316426964554523096x16 ⟨[(.ref 79), (.ref 80), .none], []⟩ ⟨20, 24, 20, 51⟩ (f1 :: f2 :: r)) = some ((S_9_0_85 b) w os, (loopAt PySem.W.SL.s9316426964554523096x16 ⟨[(.ref 79), (.ref 80), .none], []⟩ ⟨20, 24, 20, 51⟩ (f1 :: f2 :: r))) := byRow2 "special-get-raises" (P := fun w => ∀ (os : OsState) (f1 f2 : Frame) (r : List Frame) (b : Bool), goQ w 17 ((S_9_0_84 b) w os) (loopAt PySem.W.SL.s9316426964554523096x16 ⟨[(.ref 79), (.ref 80), .none], []⟩ ⟨20, 24, 20, 51⟩ (f1 :: f2 :: r)) = some ((S_9_0_85 b) w os, (loopAt PySem.W.SL.s9316426964554523096x16 ⟨[(.ref 79), (.ref 80), .none], []⟩ ⟨20, 24, 20, 51⟩ (f1 :: f2 :: r)))) (by intro w os f1 f2 r b; cases b <;> kernel_rfl) (by intro w os f1 f2 r b; cases b <;> kernel_rfl) w
theorem tn_9_0_85 (w : World) : ∀ (os : OsState) (f1 f2 : Frame) (r : List Frame) (b : Bool), goQ w 17 ((S_9_0_85 b) w os) (loopAt PySem.W.SL.s9316426964554523096x16 ⟨[(.ref 79), (.ref 80), .none], []⟩ ⟨20, 24, 20, 51⟩ (f1 :: f2 :: r)) = some ((S_9_0_86 b) w os, (loopAt PySem.W.SL.s9316426964554523096x16 ⟨[(.ref 79), (.ref 80), .none], []⟩ ⟨20, 24, 20, 51⟩ (f1 :: f2 :: r))) := byRow2 "special-get-raises" (P := fun w => ∀ (os : OsState) (f1 f2 : Frame) (r : List Frame) (b : Bool), goQ w 17 ((S_9_0_85 b) w os) (loopAt PySem.W.SL.s9316426964554523096x16 ⟨[(.ref 79), (.ref 80), .none], []⟩ ⟨20, 24, 20, 51⟩ (f1 :: f2 :: r)) = some ((S_9_0_86 b) w os, (loopAt PySem.W.SL.s9316426964554523096x16 ⟨[(.ref 79), (.ref 80), .none], []⟩ ⟨20, 24, 20, 51⟩ (f1 :: f2 :: r)))) (by intro w os f1 f2 r b; cases b <;> kernel_rfl) (by intro w os f1 f2 r b; cases b <;> kernel_rfl) w
theorem tn_9_0_86 (w : World) : ∀ (os : OsState) (f1 f2 : Frame) (r : List Frame) (b : Bool), goQ w 17 ((S_9_0_86 b) w os) (loopAt PySem.W.SL.s9316426964554523096x16 ⟨[(.ref 79), (.ref 80), .none], []⟩ ⟨20, 24, 20, 51⟩ (f1 :: f2 :: r)) = some ((S_9_0_87 b) w os, (loopAt PySem.W.SL.s9316426964554523096x16 ⟨[(.ref 79), (.ref 80), .none], []⟩ ⟨20, 24, 20, 51⟩ (f1 :: f2 :: r))) := byRow2 "special-get-raises" (P := fun w => ∀ (os : OsState) (f1 f2 : Frame) (r : List Frame) (b : Bool), goQ w 17 ((S_9_0_86 b) w os) (loopAt PySem.W.SL.s9316426964554523096x16 ⟨[(.ref 79), (.ref 80), .none], []⟩ ⟨20, 24, 20, 51⟩ (f1 :: f2 :: r)) = some ((S_9_0_87 b) w os, (loopAt PySem.W.SL.s9316426964554523096x16 ⟨[(.ref 79), (.ref 80), .none], []⟩ ⟨20, 24, 20, 51⟩ (f1 :: f2 :: r)))) (by intro w os f1 f2 r b; cases b <;> kernel_rfl) (by intro w os f1 f2 r b; cases b <;> kernel_rfl) w
theorem tn_9_0_87 (w : World) : ∀ (os : OsState) (f1 f2 : Frame) (r : List Frame) (b : Bool), goQ w 17 ((S_9_0_87 b) w os) (loopAt PySem.W.SL.s9316426964554523096x16 ⟨[(.ref 79), (.ref 80), .none], []⟩ ⟨20, 24, 20, 51⟩ (f1 :: f2 :: r)) = some ((S_9_0_88 b) w os, (loopAt PySem.W.SL.s9316426964554523096x16 ⟨[(.ref 79), (.ref 80), .none], []⟩ ⟨20, 24, 20, 51⟩ (f1 :: f2 :: r))) := byRow2 "special-get-raises" (P := fun w => ∀ (os : OsState) (f1 f2 : Frame) (r : List Frame) (b : Bool), goQ w 17 ((S_9_0_87 b) w os) (loopAt PySem.W.SL.s9316426964554523096x16 ⟨[(.ref 79), (.ref 80), .none], []⟩ ⟨20, 24, 20, 51⟩ (f1 :: f2 :: r)) = some ((S_9_0_88 b) w os, (loopAt PySem.W.SL.s9316426964554523096x16 ⟨[(.ref 79), (.ref 80), .none], []⟩ ⟨20, 24, 20, 51⟩ (f1 :: f2 :: r)))) (by intro w os f1 f2 r b; cases b <;> kernel_rfl) (by intro w os f1 f2 r b; cases b <;> kernel_rfl) w
theorem tn_9_0_88 (w : World) : ∀ (os : OsState) (f1 f2 : Frame) (r : List Frame) (b : Bool), goQ w 17 ((S_9_0_88 b) w os) (loopAt PySem.W.SL.s9316426964554523096x16 ⟨[(.ref 79), (.ref 80), .none], []⟩ ⟨20, 24, 20, 51⟩ (f1 :: f2 :: r)) = some ((S_9_0_89 b) w os, (loopAt PySem.W.SL.s9316426964554523096x16 ⟨[(.ref 79), (.ref 80), .none], []⟩ ⟨20, 24, 20, 51⟩ (f1 :: f2 :: r))) := byRow2 "special-get-raises" (P := fun w => ∀ (os : OsState) (f1 f2 : Frame) (r : List Frame) (b : Bool), goQ w 17 ((S_9_0_88 b) w os) (loopAt PySem.W.SL.s9316426964554523096x16 ⟨[(.ref 79), (.ref 80), .none], []⟩ ⟨20, 24, 20, 51⟩ (f1 :: f2 :: r)) = some ((S_9_0_89 b) w os, (loopAt PySem.W.SL.s9316426964554523096x16 ⟨[(.ref 79), (.ref 80), .none], []⟩ ⟨20, 24, 20, 51⟩ (f1 :: f2 :: r)))) (by intro w os f1 f2 r b; cases b <;> kernel_rfl) (by intro w os f1 f2 r b; cases b <;> kernel_rfl) w
theorem tn_9_0_89 (w : World) : ∀ (os : OsState) (f1 f2 : Frame) (r : List Frame) (b : Bool), goQ w 17 ((S_9_0_89 b) w os) (loopAt PySem.W.SL.s9316426964554523096x16 ⟨[(.ref 79), (.ref 80), .none], []⟩ ⟨20, 24, 20, 51⟩ (f1 :: f2 :: r)) = some ((S_9_0_90 b) w os, (loopAt PySem.W.SL.s9316426964554523096x16 ⟨[(.ref 79), (.ref 80), .none], []⟩ ⟨20, 24, 20, 51⟩ (f1 :: f2 :: r))) := byRow2 "special-get-raises" (P := fun w => ∀ (os : OsState) (f1 f2 : Frame) (r : List Frame) (b : Bool), goQ w 17 ((S_9_0_89 b) w os) (loopAt PySem.W.SL.s9316426964554523096x16 ⟨[(.ref 79), (.ref 80), .none], []⟩ ⟨20, 24, 20, 51⟩ (f1 :: f2 :: r)) = some ((S_9_0_90 b) w os, (loopAt PySem.W.SL.s9316426964554523096x16 ⟨[(.ref 79), (.ref 80), .none], []⟩ ⟨20, 24, 20, 51⟩ (f1 :: f2 :: r)))) (by intro w os f1 f2 r b; cases b <;> kernel_rfl) (by intro w os f1 f2 r b; cases b <;> kernel_rfl) w
theorem tn_9_0_90 (w : World) : ∀ (os : OsState) (f1 f2 : Frame) (r : List Frame) (b : Bool), goQ w 17 ((S_9_0_90 b) w os) (loopAt PySem.W.SL.s9316426964554523096x16 ⟨[(.ref 79), (.ref 80), .none], []⟩ ⟨20, 24, 20, 51⟩ (f1 :: f2 :: r)) = some ((S_9_0_91 b) w os, (loopAt PySem.W.SL.s9316426964554523096x16 ⟨[(.ref 79), (.ref 80), .none], []⟩ ⟨20, 24, 20, 51⟩ (f1 :: f2 :: r))) := byRow2 "special-get-raises" (P := fun w => ∀ (os : OsState) (f1 f2 : Frame) (r : List Frame) (b : Bool), goQ w 17 ((S_9_0_90 b) w os) (loopAt PySem.W.SL.s9316426964554523096x16 ⟨[(.ref 79), (.ref 80), .none], []⟩ ⟨20, 24, 20, 51⟩ (f1 :: f2 :: r)) = some ((S_9_0_91 b) w os, (loopAt PySem.W.SL.s9316426964554523096x16 ⟨[(.ref 79), (.ref 80), .none], []⟩ ⟨20, 24, 20, 51⟩ (f1 :: f2 :: r)))) (by intro w os f1 f2 r b; cases b <;> kernel_rfl) (by intro w os f1 f2 r b; cases b <;> kernel_rfl) w
theorem tn_9_0_91 (w : World) : ∀ (os : OsState) (f1 f2 : Frame) (r : List Frame) (b : Bool), goQ w 17 ((S_9_0_91 b) w os) (loopAt PySem.W.SL.s9316426964554523096x16 ⟨[(.ref 79), (.ref 80), .none], []⟩ ⟨20, 24, 20, 51⟩ (f1 :: f2 :: r)) = some ((S_9_0_92 b) w os, (loopAt PySem.W.SL.s9316426964554523096x16 ⟨[(.ref 79), (.ref 80), .none], []⟩ ⟨20, 24, 20, 51⟩ (f1 :: f2 :: r))) := byRow2 "special-get-raises" (P := fun w => ∀ (os : OsState) (f1 f2 : Frame) (r : List Frame) (b : Bool), goQ w 17 ((S_9_0_91 b) w os) (loopAt PySem.W.SL.s9316426964554523096x16 ⟨[(.ref 79), (.ref 80), .none], []⟩ ⟨20, 24, 20, 51⟩ (f1 :: f2 :: r)) = some ((S_9_0_92 b) w os, (loopAt PySem.W.SL.s9316426964554523096x16 ⟨[(.ref 79), (.ref 80), .none], []⟩ ⟨20, 24, 20, 51⟩ (f1 :: f2 :: r)))) (by intro w os f1 f2 r b; cases b <;> kernel_rfl) (by intro w os f1 f2 r b; cases b <;> kernel_rfl) w
theorem tn_9_0_92 (w : World) : ∀ (os : OsState) (f1 f2 : Frame) (r : List Frame) (b : Bool), goQ w 17 ((S_9_0_92 b) w os) (loopAt PySem.W.SL.s9316426964554523096x16 ⟨[(.ref 79), (.ref 80), .none], []⟩ ⟨20, 24, 20, 51⟩ (f1 :: f2 :: r)) = some ((S_9_0_93 b) w os, (loopAt PySem.W.SL.s9316426964554523096x16 ⟨[(.ref 79), (.ref 80), .none], []⟩ ⟨20, 24, 20, 51⟩ (f1 :: f2 :: r))) := byRow2 "special-get-raises" (P := fun w => ∀ (os : OsState) (f1 f2 : Frame) (r : List Frame) (b : Bool), goQ w 17 ((S_9_0_92 b) w os) (loopAt PySem.W.SL.s9316426964554523096x16 ⟨[(.ref 79), (.ref 80), .none], []⟩ ⟨20, 24, 20, 51⟩ (f1 :: f2 :: r)) = some ((S_9_0_93 b) w os, (loopAt PySem.W.SL.s9316426964554523096x16 ⟨[(.ref 79), (.ref 80), .none], []⟩ ⟨20, 24, 20, 51⟩ (f1 :: f2 :: r)))) (by intro w os f1 f2 r b; cases b <;> kernel_rfl) (by intro w os f1 f2 r b; cases b <;> kernel_rfl) w
theorem tn_9_0_93 (w : World) : ∀ (os : OsState) (f1 f2 : Frame) (r : List Frame) (b : Bool), goQ w 17 ((S_9_0_93 b) w os) (loopAt PySem.W.SL.s9316426964554523096x16 ⟨[(.ref 79), (.ref 80), .none], []⟩ ⟨20, 24, 20, 51⟩ (f1 :: f2 :: r)) = some ((S_9_0_94 b) w os, (loopAt PySem.W.SL.s9316426964554523096x16 ⟨[(.ref 79), (.ref 80), .none], []⟩ ⟨20, 24, 20, 51⟩ (f1 :: f2 :: r))) := byRow2 "special-get-raises" (P := fun w => ∀ (os : OsState) (f1 f2 : Frame) (r : List Frame) (b : Bool), goQ w 17 ((S_9_0_93 b) w os) (loopAt PySem.W.SL.s9316426964554523096x16 ⟨[(.ref 79), (.ref 80), .none], []⟩ ⟨20, 24, 20, 51⟩ (f1 :: f2 :: r)) = some ((S_9_0_94 b) w os, (loopAt PySem.W.SL.s9316426964554523096x16 ⟨[(.ref 79), (.ref 80), .none], []⟩ ⟨20, 24, 20, 51⟩ (f1 :: f2 :: r)))) (by intro w os f1 f2 r b; cases b <;> kernel_rfl) (by intro w os f1 f2 r b; cases b <;> kernel_rfl) w
theorem tn_9_0_94 (w : World) : ∀ (os : OsState) (f1 f2 : Frame) (r : List Frame) (b : Bool), goQ w 17 ((S_9_0_94 b) w os) (loopAt PySem.W.SL.s9316426964554523096x16 ⟨[(.ref 79), (.ref 80), .none], []⟩ ⟨20, 24, 20, 51⟩ (f1 :: f2 :: r)) = some ((S_9_0_95 b) w os, (loopAt PySem.W.SL.s9316426964554523096x16 ⟨[(.ref 79), (.ref 80), .none], []⟩ ⟨20, 24, 20, 51⟩ (f1 :: f2 :: r))) := byRow2 "special-get-raises" (P := fun w => ∀ (os : OsState) (f1 f2 : Frame) (r : List Frame) (b : Bool), goQ w 17 ((S_9_0_94 b) w os) (loopAt PySem.W.SL.s9316426964554523096x16 ⟨[(.ref 79), (.ref 80), .none], []⟩ ⟨20, 24, 20, 51⟩ (f1 :: f2 :: r)) = some ((S_9_0_95 b) w os, (loopAt PySem.W.SL.s9316426964554523096x16 ⟨[(.ref 79), (.ref 80), .none], []⟩ ⟨20, 24, 20, 51⟩ (f1 :: f2 :: r)))) (by intro w os f1 f2 r b; cases b <;> kernel_rfl) (by intro w os f1 f2 r b; cases b <;> kernel_rfl) w
theorem tn_9_0_95 (w : World) : ∀ (os : OsState) (f1 f2 : Frame) (r : List Frame) (b : Bool), goQ w 17 ((S_9_0_95 b) w os) (loopAt PySem.W.SL.s9316426964554523096x16 ⟨[(.ref 79), (.ref 80), .none], []⟩ ⟨20, 24, 20, 51⟩ (f1 :: f2 :: r)) = some ((S_9_0_96 b) w os, (loopAt PySem.W.SL.s9316426964554523096x16 ⟨[(.ref 79), (.ref 80), .none], []⟩ ⟨20, 24, 20, 51⟩ (f1 :: f2 :: r))) := byRow2 "special-get-raises" (P := fun w => ∀ (os : OsState) (f1 f2 : Frame) (r : List Frame) (b : Bool), goQ w 17 ((S_9_0_95 b) w os) (loopAt PySem.W.SL.s9316426964554523096x16 ⟨[(.ref 79), (.ref 80), .none], []⟩ ⟨20, 24, 20, 51⟩ (f1 :: f2 :: r)) = some ((S_9_0_96 b) w os, (loopAt PySem.W.SL.s9316426964554523096x16 ⟨[(.ref 79), (.ref 80), .none], []⟩ ⟨20, 24, 20, 51⟩ (f1 :: f2 :: r)))) (by intro w os f1 f2 r b; cases b <;> kernel_rfl) (by intro w os f1 f2 r b; cases b <;> kernel_rfl) w
theorem go_9_1 (w : World) : ∀ (os : OsState), goQ w 59 ((S_9_0_96 (ledOf w.params)) w os) (loopAt PySem.W.SL.s9316426964554523096x16 ⟨[(.ref 79), (.ref 80), .none], []⟩ ⟨20, 24, 20, 51⟩ (stk_9_0 w os)) = some ((S_9_1_0 (ledOf w.params)) w os, (loopAt PySem.W.SL.s10534883147002075979x15 ⟨[(.ref 84), (.ref 85)], []⟩ ⟨20, 9, 20, 52⟩ (stk_9_1 w os))) := byRow2 "special-get-raises" (P := fun w => ∀ (os : OsState), goQ w 59 ((S_9_0_96 (ledOf w.params)) w os) (loopAt PySem.W.SL.s9316426964554523096x16 ⟨[(.ref 79), (.ref 80), .none], []⟩ ⟨20, 24, 20, 51⟩ (stk_9_0 w os)) = some ((S_9_1_0 (ledOf w.params)) w os, (loopAt PySem.W.SL.s10534883147002075979x15 ⟨[(.ref 84), (.ref 85)], []⟩ ⟨20, 9, 20, 52⟩ (stk_9_1 w os)))) (by intro w os; kernel_rfl) (by intro w os; kernel_rfl) w
theorem tn_9_1_0 (w : World) : ∀ (os : OsState) (f1 f2 : Frame) (r : List Frame) (b : Bool), goQ w 20 ((S_9_1_0 b) w os) (loopAt PySem.W.SL.s10534883147002075979x15 ⟨[(.ref 84), (.ref 85)], []⟩ ⟨20, 9, 20, 52⟩ (f1 :: f2 :: r)) = some ((S_9_1_1 b) w os, (loopAt PySem.W.SL.s10534883147002075979x15 ⟨[(.ref 84), (.ref 85)], []⟩ ⟨20, 9, 20, 52⟩ (f1 :: f2 :: r))) := byRow2 "special-get-raises" (P := fun w => ∀ (os : OsState) (f1 f2 : Frame) (r : List Frame) (b : Bool), goQ w 20 ((S_9_1_0 b) w os) (loopAt PySem.W.SL.s10534883147002075979x15 ⟨[(.ref 84), (.ref 85)], []⟩ ⟨20, 9, 20, 52⟩ (f1 :: f2 :: r)) = some ((S_9_1_1 b) w os, (loopAt PySem.W.SL.s10534883147002075979x15 ⟨[(.ref 84), (.ref 85)], []⟩ ⟨20, 9, 20, 52⟩ (f1 :: f2 :: r)))) (by intro w os f1 f2 r b; cases b <;> kernel_rfl) (by intro w os f1 f2 r b; cases b <;> kernel_rfl) w
theorem tn_9_1_1 (w : World) : ∀ (os : OsState) (f1 f2 : Frame) (r : List Frame) (b : Bool), goQ w 20 ((S_9_1_1 b) w os) (loopAt PySem.W.SL.s10534883147002075979x15 ⟨[(.ref 84), (.ref 85)], []⟩ ⟨20, 9, 20, 52⟩ (f1 :: f2 :: r)) = some ((S_9_1_2 b) w os, (loopAt PySem.W.SL.s10534883147002075979x15 ⟨[(.ref 84), (.ref 85)], []⟩ ⟨20, 9, 20, 52⟩ (f1 :: f2 :: r))) := byRow2 "special-get-raises" (P := fun w => ∀ (os : OsState) (f1 f2 : Frame) (r : List Frame) (b : Bool), goQ w 20 ((S_9_1_1 b) w os) (loopAt PySem.W.SL.s10534883147002075979x15 ⟨[(.ref 84), (.ref 85)], []⟩ ⟨20, 9, 20, 52⟩ (f1 :: f2 :: r)) = some ((S_9_1_2 b) w os, (loopAt PySem.W.SL.s10534883147002075979x15 ⟨[(.ref 84), (.ref 85)], []⟩ ⟨20, 9, 20, 52⟩ (f1 :: f2 :: r)))) (by intro w os f1 f2 r b; cases b <;> kernel_rfl) (by intro w os f1 f2 r b; cases b <;> kernel_rfl) w
theorem tn_9_1_2 (w : World) : ∀ (os : OsState) (f1 f2 : Frame) (r : List Frame) (b : Bool), goQ w 20 ((S_9_1_2 b) w os) (loopAt PySem.W.SL.s10534883147002075979x15 ⟨[(.ref 84), (.ref 85)], []⟩ ⟨20, 9, 20, 52⟩ (f1 :: f2 :: r)) = some ((S_9_1_3 b) w os, (loopAt PySem.W.SL.s10534883147002075979x15 ⟨[(.ref 84), (.ref 85)], []⟩ ⟨20, 9, 20, 52⟩ (f1 :: f2 :: r))) := byRow2 "special-get-raises" (P := fun w => ∀ (os : OsState) (f1 f2 : Frame) (r : List Frame) (b : Bool), goQ w 20 ((S_9_1_2 b) w os) (loopAt PySem.W.SL.s10534883147002075979x15 ⟨[(.ref 84), (.ref 85)], []⟩ ⟨20, 9, 20, 52⟩ (f1 :: f2 :: r)) = some ((S_9_1_3 b) w os, (loopAt PySem.W.SL.s10534883147002075979x15 ⟨[(.ref 84), (.ref 85)], []⟩ ⟨20, 9, 20, 52⟩ (f1 :: f2 :: r)))) (by intro w os f1 f2 r b; cases b <;> kernel_rfl) (by intro w os f1 f2 r b; cases b <;> kernel_rfl) w
theorem tn_9_1_3 (w : World) : ∀ (os : OsState) (f1 f2 : Frame) (r : List Frame) (b : Bool), goQ w 20 ((S_9_1_3 b) w os) (loopAt PySem.W.SL.s10534883147002075979x15 ⟨[(.ref 84), (.ref 85)], []⟩ ⟨20, 9, 20, 52⟩ (f1 :: f2 :: r)) = some ((S_9_1_4 b) w os, (loopAt PySem.W.SL.s10534883147002075979x15 ⟨[(.ref 84), (.ref 85)], []⟩ ⟨20, 9, 20, 52⟩ (f1 :: f2 :: r))) := byRow2 "special-get-raises" (P := fun w => ∀ (os : OsState) (f1 f2 : Frame) (r : List Frame) (b : Bool), goQ w 20 ((S_9_1_3 b) w os) (loopAt PySem.W.SL.s10534883147002075979x15 ⟨[(.ref 84), (.ref 85)], []⟩ ⟨20, 9, 20, 52⟩ (f1 :: f2 :: r)) = some ((S_9_1_4 b) w os, (loopAt PySem.W.SL.s10534883147002075979x15 ⟨[(.ref 84), (.ref 85)], []⟩ ⟨20, 9, 20, 52⟩ (f1 :: f2 :: r)))) (by intro w os f1 f2 r b; cases b <;> kernel_rfl) (by intro w os f1 f2 r b; cases b <;> kernel_rfl) w
theorem tn_9_1_4 (w : World) : ∀ (os : OsState) (f1 f2 : Frame) (r : List Frame) (b : Bool), goQ w 22 ((S_9_1_4 b) w os) (loopAt PySem.W.SL.s10534883147002075979x15 ⟨[(.ref 84), (.ref 85)], []⟩ ⟨20, 9, 20, 52⟩ (f1 :: f2 :: r)) = some ((S_9_1_5 b) w os, (loopAt PySem.W.SL.s10534883147002075979x15 ⟨[(.ref 84), (.ref 85)], []⟩ ⟨20, 9, 20, 52⟩ (f1 :: f2 :: r))) := byRow2 "special-get-raises" (P := fun w => ∀ (os : OsState) (f1 f2 : Frame) (r : List Frame) (b : Bool), goQ w 22 ((S_9_1_4 b) w os) (loopAt PySem.W.SL.s10534883147002075979x15 ⟨[(.ref 84), (.ref 85)], []⟩ ⟨20, 9, 20, 52⟩ (f1 :: f2 :: r)) = some ((S_9_1_5 b) w os, (loopAt PySem.W.SL.s10534883147002075979x15 ⟨[(.ref 84), (.ref 85)], []⟩ ⟨20, 9, 20, 52⟩ (f1 :: f2 :: r)))) (by intro w os f1 f2 r b; cases b <;> kernel_rfl) (by intro w os f1 f2 r b; cases b <;> kernel_rfl) w
theorem tn_9_1_5 (w : World) : ∀ (os : OsState) (f1 f2 : Frame) (r : List Frame) (b : Bool), goQ w 20 ((S_9_1_5 b) w os) (loopAt PySem.W.SL.s10534883147002075979x15 ⟨[(.ref 84), (.ref 85)], []⟩ ⟨20, 9, 20, 52⟩ (f1 :: f2 :: r)) = some ((S_9_1_6 b) w os, (loopAt PySem.W.SL.s10534883147002075979x15 ⟨[(.ref 84), (.ref 85)], []⟩ ⟨20, 9, 20, 52⟩ (f1 :: f2 :: r))) := byRow2 "special-get-raises" (P := fun w => ∀ (os : OsState) (f1 f2 : Frame) (r : List Frame) (b : Bool), goQ w 20 ((S_9_1_5 b) w os) (loopAt PySem.W.SL.s10534883147002075979x15 ⟨[(.ref 84), (.ref 85)], []⟩ ⟨20, 9, 20, 52⟩ (f1 :: f2 :: r)) = some ((S_9_1_6 b) w os, (loopAt PySem.W.SL.s10534883147002075979x15 ⟨[(.ref 84), (.ref 85)], []⟩ ⟨20, 9, 20, 52⟩ (f1 :: f2 :: r)))) (by intro w os f1 f2 r b; cases b <;> kernel_rfl) (by intro w os f1 f2 r b; cases b <;> kernel_rfl) w
theorem tn_9_1_6 (w : World) : ∀ (os : OsState) (f1 f2 : Frame) (r : List Frame) (b : Bool), goQ w 20 ((S_9_1_6 b) w os) (loopAt PySem.W.SL.s10534883147002075979x15 ⟨[(.ref 84), (.ref 85)], []⟩ ⟨20, 9, 20, 52⟩ (f1 :: f2 :: r)) = some ((S_9_1_7 b) w os, (loopAt PySem.W.SL.s10534883147002075979x15 ⟨[(.ref 84), (.ref 85)], []⟩ ⟨20, 9, 20, 52⟩ (f1 :: f2 :: r))) := byRow2 "special-get-raises" (P := fun w => ∀ (os : OsState) (f1 f2 : Frame) (r : List Frame) (b : Bool), goQ w 20 ((S_9_1_6 b) w os) (loopAt PySem.W.SL.s10534883147002075979x15 ⟨[(.ref 84), (.ref 85)], []⟩ ⟨20, 9, 20, 52⟩ (f1 :: f2 :: r)) = some ((S_9_1_7 b) w os, (loopAt PySem.W.SL.s10534883147002075979x15 ⟨[(.ref 84), (.ref 85)], []⟩ ⟨20, 9, 20, 52⟩ (f1 :: f2 :: r)))) (by intro w os f1 f2 r b; cases b <;> kernel_rfl) (by intro w os f1 f2 r b; cases b <;> kernel_rfl) w
theorem tn_9_1_7 (w : World) : ∀ (os : OsState) (f1 f2 : Frame) (r : List Frame) (b : Bool), goQ w 20 ((S_9_1_7 b) w os) (loopAt PySem.W.SL.s10534883147002075979x15 ⟨[(.ref 84), (.ref 85)], []⟩ ⟨20, 9, 20, 52⟩ (f1 :: f2 :: r)) = some ((S_9_1_8 b) w os, (loopAt PySem.W.SL.s10534883147002075979x15 ⟨[(.ref 84), (.ref 85)], []⟩ ⟨20, 9, 20, 52⟩ (f1 :: f2 :: r))) := byRow2 "special-get-raises" (P := fun w => ∀ (os : OsState) (f1 f2 : Frame) (r : List Frame) (b : Bool), goQ w 20 ((S_9_1_7 b) w os) (loopAt PySem.W.SL.s10534883147002075979x15 ⟨[(.ref 84), (.ref 85)], []⟩ ⟨20, 9, 20, 52⟩ (f1 :: f2 :: r)) = some ((S_9_1_8 b) w os, (loopAt PySem.W.SL.s10534883147002075979x15 ⟨[(.ref 84), (.ref 85)], []⟩ ⟨20, 9, 20, 52⟩ (f1 :: f2 :: r)))) (by intro w os f1 f2 r b; cases b <;> kernel_rfl) (by intro w os f1 f2 r b; cases b <;> kernel_rfl) w
theorem tn_9_1_8 (w : World) : ∀ (os : OsState) (f1 f2 : Frame) (r : List Frame) (b : Bool), goQ w 20 ((S_9_1_8 b) w os) (loopAt PySem.W.SL.s10534883147002075979x15 ⟨[(.ref 84), (.ref 85)], []⟩ ⟨20, 9, 20, 52⟩ (f1 :: f2 :: r)) = some ((S_9_1_9 b) w os, (loopAt PySem.W.SL.s10534883147002075979x15 ⟨[(.ref 84), (.ref 85)], []⟩ ⟨20, 9, 20, 52⟩ (f1 :: f2 :: r))) := byRow2 "special-get-raises" (P := fun w => ∀ (os : OsState) (f1 f2 : Frame) (r : List Frame) (b : Bool), goQ w 20 ((S_9_1_8 b) w os) (loopAt PySem.W.SL.s10534883147002075979x15 ⟨[(.ref 84), (.ref 85)], []⟩ ⟨20, 9, 20, 52⟩ (f1 :: f2 :: r)) = some ((S_9_1_9 b) w os, (loopAt PySem.W.SL.s10534883147002075979x15 ⟨[(.ref 84), (.ref 85)], []⟩ ⟨20, 9, 20, 52⟩ (f1 :: f2 :: r)))) (by intro w os f1 f2 r b; cases b <;> kernel_rfl) (by intro w os f1 f2 r b; cases b <;> kernel_rfl) w
theorem tn_9_1_9 (w : World) : ∀ (os : OsState) (f1 f2 : Frame) (r : List Frame) (b : Bool), goQ w 20 ((S_9_1_9 b) w os) (loopAt PySem.W.SL.s10534883147002075979x15 ⟨[(.ref 84), (.ref 85)], []⟩ ⟨20, 9, 20, 52⟩ (f1 :: f2 :: r)) = some ((S_9_1_10 b) w os, (loopAt PySem.W.SL.s10534883147002075979x15 ⟨[(.ref 84), (.ref 85)], []⟩ ⟨20, 9, 20, 52⟩ (f1 :: f2 :: r))) := byRow2 "special-get-raises" (P := fun w => ∀ (os : OsState) (f1 f2 : Frame) (r : List Frame) (b : Bool), goQ w 20 ((S_9_1_9 b) w os) (loopAt PySem.W.SL.s10534883147002075979x15 ⟨[(.ref 84), (.ref 85)], []⟩ ⟨20, 9, 20, 52⟩ (f1 :: f2 :: r)) = some ((S_9_1_10 b) w os, (loopAt PySem.W.SL.s10534883147002075979x15 ⟨[(.ref 84), (.ref 85)], []⟩ ⟨20, 9, 20, 52⟩ (f1 :: f2 :: r)))) (by intro w os f1 f2 r b; cases b <;> kernel_rfl) (by intro w os f1 f2 r b; cases b <;> kernel_rfl) w
theorem tn_9_1_10 (w : World) : ∀ (os : OsState) (f1 f2 : Frame) (r : List Frame) (b : Bool), goQ w 20 ((S_9_1_10 b) w os) (loopAt PySem.W.SL.s10534883147002075979x15 ⟨[(.ref 84), (.ref 85)], []⟩ ⟨20, 9, 20, 52⟩ (f1 :: f2 :: r)) = some ((S_9_1_11 b) w os, (loopAt PySem.W.SL.s10534883147002075979x15 ⟨[(.ref 84), (.ref 85)], []⟩ ⟨20, 9, 20, 52⟩ (f1 :: f2 :: r))) := by
  intro os f1 f2 r b
  refine turn_of ?_
  delta PySem.W.Fast.tw14453038532278432606 PySem.W.Fast.tw5518019106960326183
  rw [hashed_eq]
  delta PySem.W.Fast.tw4328697075774883827 PySem.W.Fast.tw93129132117342410 PySem.W.Fast.tw7057874960865805170 PySem.W.Fast.tw6869694533263656991 PySem.W.Fast.tw89073463820356996 PySem.W.Fast.tw12466709759006461402
  rw [laid_eq, scan_eq, ins_eq]
  revert w os f1 f2 r b
  refine rowed ?_ ?_ <;> (intro w os f1 f2 r b; cases b <;> kernel_rfl)
theorem tn_9_1_11 (w : World) : ∀ (os : OsState) (f1 f2 : Frame) (r : List Frame) (b : Bool), goQ w 20 ((S_9_1_11 b) w os) (loopAt PySem.W.SL.s10534883147002075979x15 ⟨[(.ref 84), (.ref 85)], []⟩ ⟨20, 9, 20, 52⟩ (f1 :: f2 :: r)) = some ((S_9_1_12 b) w os, (loopAt PySem.W.SL.s10534883147002075979x15 ⟨[(.ref 84), (.ref 85)], []⟩ ⟨20, 9, 20, 52⟩ (f1 :: f2 :: r))) := by
  intro os f1 f2 r b
  refine turn_of ?_
  delta PySem.W.Fast.tw14453038532278432606 PySem.W.Fast.tw5518019106960326183
  rw [hashed_eq]
  delta PySem.W.Fast.tw4328697075774883827 PySem.W.Fast.tw93129132117342410 PySem.W.Fast.tw7057874960865805170 PySem.W.Fast.tw6869694533263656991 PySem.W.Fast.tw89073463820356996 PySem.W.Fast.tw12466709759006461402
  rw [laid_eq, scan_eq, ins_eq]
  revert w os f1 f2 r b
  refine rowed ?_ ?_ <;> (intro w os f1 f2 r b; cases b <;> kernel_rfl)
theorem tn_9_1_12 (w : World) : ∀ (os : OsState) (f1 f2 : Frame) (r : List Frame) (b : Bool), goQ w 20 ((S_9_1_12 b) w os) (loopAt PySem.W.SL.s10534883147002075979x15 ⟨[(.ref 84), (.ref 85)], []⟩ ⟨20, 9, 20, 52⟩ (f1 :: f2 :: r)) = some ((S_9_1_13 b) w os, (loopAt PySem.W.SL.s10534883147002075979x15 ⟨[(.ref 84), (.ref 85)], []⟩ ⟨20, 9, 20, 52⟩ (f1 :: f2 :: r))) := by
  intro os f1 f2 r b
  refine turn_of ?_
  delta PySem.W.Fast.tw14453038532278432606 PySem.W.Fast.tw5518019106960326183
  rw [hashed_eq]
  delta PySem.W.Fast.tw4328697075774883827 PySem.W.Fast.tw93129132117342410 PySem.W.Fast.tw7057874960865805170 PySem.W.Fast.tw6869694533263656991 PySem.W.Fast.tw89073463820356996 PySem.W.Fast.tw12466709759006461402
  rw [laid_eq, scan_eq, ins_eq]
  revert w os f1 f2 r b
  refine rowed ?_ ?_ <;> (intro w os f1 f2 r b; cases b <;> kernel_rfl)
theorem tn_9_1_13 (w : World) : ∀ (os : OsState) (f1 f2 : Frame) (r : List Frame) (b : Bool), goQ w 20 ((S_9_1_13 b) w os) (loopAt PySem.W.SL.s10534883147002075979x15 ⟨[(.ref 84), (.ref 85)], []⟩ ⟨20, 9, 20, 52⟩ (f1 :: f2 :: r)) = some ((S_9_1_14 b) w os, (loopAt PySem.W.SL.s10534883147002075979x15 ⟨[(.ref 84), (.ref 85)], []⟩ ⟨20, 9, 20, 52⟩ (f1 :: f2 :: r))) := by
  intro os f1 f2 r b
  refine turn_of ?_
  delta PySem.W.Fast.tw14453038532278432606 PySem.W.Fast.tw5518019106960326183
  rw [hashed_eq]
  delta PySem.W.Fast.tw4328697075774883827 PySem.W.Fast.tw93129132117342410 PySem.W.Fast.tw7057874960865805170 PySem.W.Fast.tw6869694533263656991 PySem.W.Fast.tw89073463820356996 PySem.W.Fast.tw12466709759006461402
  rw [laid_eq, scan_eq, ins_eq]
  revert w os f1 f2 r b
  refine rowed ?_ ?_ <;> (intro w os f1 f2 r b; cases b <;> kernel_rfl)
theorem tn_9_1_14 (w : World) : ∀ (os : OsState) (f1 f2 : Frame) (r : List Frame) (b : Bool), goQ w 20 ((S_9_1_14 b) w os) (loopAt PySem.W.SL.s10534883147002075979x15 ⟨[(.ref 84), (.ref 85)], []⟩ ⟨20, 9, 20, 52⟩ (f1 :: f2 :: r)) = some ((S_9_1_15 b) w os, (loopAt PySem.W.SL.s10534883147002075979x15 ⟨[(.ref 84), (.ref 85)], []⟩ ⟨20, 9, 20, 52⟩ (f1 :: f2 :: r))) := by
  intro os f1 f2 r b
  refine turn_of ?_
  delta PySem.W.Fast.tw14453038532278432606 PySem.W.Fast.tw5518019106960326183
  rw [hashed_eq]
  delta PySem.W.Fast.tw4328697075774883827 PySem.W.Fast.tw93129132117342410 PySem.W.Fast.tw7057874960865805170 PySem.W.Fast.tw6869694533263656991 PySem.W.Fast.tw89073463820356996 PySem.W.Fast.tw12466709759006461402
  rw [laid_eq, scan_eq, ins_eq]
  revert w os f1 f2 r b
  refine rowed ?_ ?_ <;> (intro w os f1 f2 r b; cases b <;> kernel_rfl)
theorem tn_9_1_15 (w : World) : ∀ (os : OsState) (f1 f2 : Frame) (r : List Frame) (b : Bool), goQ w 20 ((S_9_1_15 b) w os) (loopAt PySem.W.SL.s10534883147002075979x15 ⟨[(.ref 84), (.ref 85)], []⟩ ⟨20, 9, 20, 52⟩ (f1 :: f2 :: r)) = some ((S_9_1_16 b) w os, (loopAt PySem.W.SL.s10534883147002075979x15 ⟨[(.ref 84), (.ref 85)], []⟩ ⟨20, 9, 20, 52⟩ (f1 :: f2 :: r))) := by
  intro os f1 f2 r b
  refine turn_of ?_
  delta PySem.W.Fast.tw14453038532278432606 PySem.W.Fast.tw5518019106960326183
  rw [hashed_eq]
  delta PySem.W.Fast.tw4328697075774883827 PySem.W.Fast.tw93129132117342410 PySem.W.Fast.tw7057874960865805170 PySem.W.Fast.tw6869694533263656991 PySem.W.Fast.tw89073463820356996 PySem.W.Fast.tw12466709759006461402
  rw [laid_eq, scan_eq, ins_eq]
  revert w os f1 f2 r b
  refine rowed ?_ ?_ <;> (intro w os f1 f2 r b; cases b <;> kernel_rfl)
theorem tn_9_1_16 (w : World) : ∀ (os : OsState) (f1 f2 : Frame) (r : List Frame) (b : Bool), goQ w 20 ((S_9_1_16 b) w os) (loopAt PySem.W.SL.s10534883147002075979x15 ⟨[(.ref 84), (.ref 85)], []⟩ ⟨20, 9, 20, 52⟩ (f1 :: f2 :: r)) = some ((S_9_1_17 b) w os, (loopAt PySem.W.SL.s10534883147002075979x15 ⟨[(.ref 84), (.ref 85)], []⟩ ⟨20, 9, 20, 52⟩ (f1 :: f2 :: r))) := by
  intro os f1 f2 r b
  refine turn_of ?_
  delta PySem.W.Fast.tw14453038532278432606 PySem.W.Fast.tw5518019106960326183
  rw [hashed_eq]
  delta PySem.W.Fast.tw4328697075774883827 PySem.W.Fast.tw93129132117342410 PySem.W.Fast.tw7057874960865805170 PySem.W.Fast.tw6869694533263656991 PySem.W.Fast.tw89073463820356996 PySem.W.Fast.tw12466709759006461402
  rw [laid_eq, scan_eq, ins_eq]
  revert w os f1 f2 r b
  refine rowed ?_ ?_ <;> (intro w os f1 f2 r b; cases b <;> kernel_rfl)
theorem tn_9_1_17 (w : World) : ∀ (os : OsState) (f1 f2 : Frame) (r : List Frame) (b : Bool), goQ w 20 ((S_9_1_17 b) w os) (loopAt PySem.W.SL.s10534883147002075979x15 ⟨[(.ref 84), (.ref 85)], []⟩ ⟨20, 9, 20, 52⟩ (f1 :: f2 :: r)) = some ((S_9_1_18 b) w os, (loopAt PySem.W.SL.s10534883147002075979x15 ⟨[(.ref 84), (.ref 85)], []⟩ ⟨20, 9, 20, 52⟩ (f1 :: f2 :: r))) := by
  intro os f1 f2 r b
  refine turn_of ?_
  delta PySem.W.Fast.tw14453038532278432606 PySem.W.Fast.tw5518019106960326183
  rw [hashed_eq]
  delta PySem.W.Fast.tw4328697075774883827 PySem.W.Fast.tw93129132117342410 PySem.W.Fast.tw7057874960865805170 PySem.W.Fast.tw6869694533263656991 PySem.W.Fast.tw89073463820356996 PySem.W.Fast.tw12466709759006461402
  rw [laid_eq, scan_eq, ins_eq]
  revert w os f1 f2 r b
  refine rowed ?_ ?_ <;> (intro w os f1 f2 r b; cases b <;> kernel_rfl)
theorem tn_9_1_18 (w : World) : ∀ (os : OsState) (f1 f2 : Frame) (r : List Frame) (b : Bool), goQ w 22 ((S_9_1_18 b) w os) (loopAt PySem.W.SL.s10534883147002075979x15 ⟨[(.ref 84), (.ref 85)], []⟩ ⟨20, 9, 20, 52⟩ (f1 :: f2 :: r)) = some ((S_9_1_19 b) w os, (loopAt PySem.W.SL.s10534883147002075979x15 ⟨[(.ref 84), (.ref 85)], []⟩ ⟨20, 9, 20, 52⟩ (f1 :: f2 :: r))) := by
  intro os f1 f2 r b
  refine turn_of ?_
  delta PySem.W.Fast.tw14453038532278432606 PySem.W.Fast.tw5518019106960326183
  rw [hashed_eq]
  delta PySem.W.Fast.tw4328697075774883827 PySem.W.Fast.tw93129132117342410 PySem.W.Fast.tw7057874960865805170 PySem.W.Fast.tw6869694533263656991 PySem.W.Fast.tw89073463820356996 PySem.W.Fast.tw12466709759006461402
  rw [laid_eq, scan_eq, ins_eq]
  revert w os f1 f2 r b
  refine rowed ?_ ?_ <;> (intro w os f1 f2 r b; cases b <;> kernel_rfl)
theorem tn_9_1_19 (w : World) : ∀ (os : OsState) (f1 f2 : Frame) (r : List Frame) (b : Bool), goQ w 20 ((S_9_1_19 b) w os) (loopAt PySem.W.SL.s10534883147002075979x15 ⟨[(.ref 84), (.ref 85)], []⟩ ⟨20, 9, 20, 52⟩ (f1 :: f2 :: r)) = some ((S_9_1_20 b) w os, (loopAt PySem.W.SL.s10534883147002075979x15 ⟨[(.ref 84), (.ref 85)], []⟩ ⟨20, 9, 20, 52⟩ (f1 :: f2 :: r))) := by
  intro os f1 f2 r b
  refine turn_of ?_
  delta PySem.W.Fast.tw14453038532278432606 PySem.W.Fast.tw5518019106960326183
  rw [hashed_eq]
  delta PySem.W.Fast.tw4328697075774883827 PySem.W.Fast.tw93129132117342410 PySem.W.Fast.tw7057874960865805170 PySem.W.Fast.tw6869694533263656991 PySem.W.Fast.tw89073463820356996 PySem.W.Fast.tw12466709759006461402
  rw [laid_eq, scan_eq, ins_eq]
  revert w os f1 f2 r b
  refine rowed ?_ ?_ <;> (intro w os f1 f2 r b; cases b <;> kernel_rfl)
theorem tn_9_1_20 (w : World) : ∀ (os : OsState) (f1 f2 : Frame) (r : List Frame) (b : Bool), goQ w 20 ((S_9_1_20 b) w os) (loopAt PySem.W.SL.s10534883147002075979x15 ⟨[(.ref 84), (.ref 85)], []⟩ ⟨20, 9, 20, 52⟩ (f1 :: f2 :: r)) = some ((S_9_1_21 b) w os, (loopAt PySem.W.SL.s10534883147002075979x15 ⟨[(.ref 84), (.ref 85)], []⟩ ⟨20, 9, 20, 52⟩ (f1 :: f2 :: r))) := by
  intro os f1 f2 r b
  refine turn_of ?_
  delta PySem.W.Fast.tw14453038532278432606 PySem.W.Fast.tw5518019106960326183
  rw [hashed_eq]
  delta PySem.W.Fast.tw4328697075774883827 PySem.W.Fast.tw93129132117342410 PySem.W.Fast.tw7057874960865805170 PySem.W.Fast.tw6869694533263656991 PySem.W.Fast.tw89073463820356996 PySem.W.Fast.tw12466709759006461402
  rw [laid_eq, scan_eq, ins_eq]
  revert w os f1 f2 r b
  refine rowed ?_ ?_ <;> (intro w os f1 f2 r b; cases b <;> kernel_rfl)
theorem tn_9_1_21 (w : World) : ∀ (os : OsState) (f1 f2 : Frame) (r : List Frame) (b : Bool), goQ w 20 ((S_9_1_21 b) w os) (loopAt PySem.W.SL.s10534883147002075979x15 ⟨[(.ref 84), (.ref 85)], []⟩ ⟨20, 9, 20, 52⟩ (f1 :: f2 :: r)) = some ((S_9_1_22 b) w os, (loopAt PySem.W.SL.s10534883147002075979x15 ⟨[(.ref 84), (.ref 85)], []⟩ ⟨20, 9, 20, 52⟩ (f1 :: f2 :: r))) := by
  intro os f1 f2 r b
  refine turn_of ?_
  delta PySem.W.Fast.tw14453038532278432606 PySem.W.Fast.tw5518019106960326183
  rw [hashed_eq]
  delta PySem.W.Fast.tw4328697075774883827 PySem.W.Fast.tw93129132117342410 PySem.W.Fast.tw7057874960865805170 PySem.W.Fast.tw6869694533263656991 PySem.W.Fast.tw89073463820356996 PySem.W.Fast.tw12466709759006461402
  rw [laid_eq, scan_eq, ins_eq]
  revert w os f1 f2 r b
  refine rowed ?_ ?_ <;> (intro w os f1 f2 r b; cases b <;> kernel_rfl)
theorem tn_9_1_22 (w : World) : ∀ (os : OsState) (f1 f2 : Frame) (r : List Frame) (b : Bool), goQ w 20 ((S_9_1_22 b) w os) (loopAt PySem.W.SL.s10534883147002075979x15 ⟨[(.ref 84), (.ref 85)], []⟩ ⟨20, 9, 20, 52⟩ (f1 :: f2 :: r)) = some ((S_9_1_23 b) w os, (loopAt PySem.W.SL.s10534883147002075979x15 ⟨[(.ref 84), (.ref 85)], []⟩ ⟨20, 9, 20, 52⟩ (f1 :: f2 :: r))) := by
  intro os f1 f2 r b
  refine turn_of ?_
  delta PySem.W.Fast.tw14453038532278432606 PySem.W.Fast.tw5518019106960326183
  rw [hashed_eq]
  delta PySem.W.Fast.tw4328697075774883827 PySem.W.Fast.tw93129132117342410 PySem.W.Fast.tw7057874960865805170 PySem.W.Fast.tw6869694533263656991 PySem.W.Fast.tw89073463820356996 PySem.W.Fast.tw12466709759006461402
  rw [laid_eq, scan_eq, ins_eq]
  revert w os f1 f2 r b
  refine rowed ?_ ?_ <;> (intro w os f1 f2 r b; cases b <;> kernel_rfl)
theorem tn_9_1_23 (w : World) : ∀ (os : OsState) (f1 f2 : Frame) (r : List Frame) (b : Bool), goQ w 20 ((S_9_1_23 b) w os) (loopAt PySem.W.SL.s10534883147002075979x15 ⟨[(.ref 84), (.ref 85)], []⟩ ⟨20, 9, 20, 52⟩ (f1 :: f2 :: r)) = some ((S_9_1_24 b) w os, (loopAt PySem.W.SL.s10534883147002075979x15 ⟨[(.ref 84), (.ref 85)], []⟩ ⟨20, 9, 20, 52⟩ (f1 :: f2 :: r))) := by
  intro os f1 f2 r b
  refine turn_of ?_
  delta PySem.W.Fast.tw14453038532278432606 PySem.W.Fast.tw5518019106960326183
  rw [hashed_eq]
  delta PySem.W.Fast.tw4328697075774883827 PySem.W.Fast.tw93129132117342410 PySem.W.Fast.tw7057874960865805170 PySem.W.Fast.tw6869694533263656991 PySem.W.Fast.tw89073463820356996 PySem.W.Fast.tw12466709759006461402
  rw [laid_eq, scan_eq, ins_eq]
  revert w os f1 f2 r b
  refine rowed ?_ ?_ <;> (intro w os f1 f2 r b; cases b <;> kernel_rfl)
theorem tn_9_1_24 (w : World) : ∀ (os : OsState) (f1 f2 : Frame) (r : List Frame) (b : Bool), goQ w 20 ((S_9_1_24 b) w os) (loopAt PySem.W.SL.s10534883147002075979x15 ⟨[(.ref 84), (.ref 85)], []⟩ ⟨20, 9, 20, 52⟩ (f1 :: f2 :: r)) = some ((S_9_1_25 b) w os, (loopAt PySem.W.SL.s10534883147002075979x15 ⟨[(.ref 84), (.ref 85)], []⟩ ⟨20, 9, 20, 52⟩ (f1 :: f2 :: r))) := by
  intro os f1 f2 r b
  refine turn_of ?_
  delta PySem.W.Fast.tw14453038532278432606 PySem.W.Fast.tw5518019106960326183
  rw [hashed_eq]
  delta PySem.W.Fast.tw4328697075774883827 PySem.W.Fast.tw93129132117342410 PySem.W.Fast.tw7057874960865805170 PySem.W.Fast.tw6869694533263656991 PySem.W.Fast.tw89073463820356996 PySem.W.Fast.tw12466709759006461402
  rw [laid_eq, scan_eq, ins_eq]
  revert w os f1 f2 r b
  refine rowed ?_ ?_ <;> (intro w os f1 f2 r b; cases b <;> kernel_rfl)
theorem tn_9_1_25 (w : World) : ∀ (os : OsState) (f1 f2 : Frame) (r : List Frame) (b : Bool), goQ w 20 ((S_9_1_25 b) w os) (loopAt PySem.W.SL.s10534883147002075979x15 ⟨[(.ref 84), (.ref 85)], []⟩ ⟨20, 9, 20, 52⟩ (f1 :: f2 :: r)) = some ((S_9_1_26 b) w os, (loopAt PySem.W.SL.s10534883147002075979x15 ⟨[(.ref 84), (.ref 85)], []⟩ ⟨20, 9, 20, 52⟩ (f1 :: f2 :: r))) := by
  intro os f1 f2 r b
  refine turn_of ?_
  delta PySem.W.Fast.tw14453038532278432606 PySem.W.Fast.tw5518019106960326183
  rw [hashed_eq]
  delta PySem.W.Fast.tw4328697075774883827 PySem.W.Fast.tw93129132117342410 PySem.W.Fast.tw7057874960865805170 PySem.W.Fast.tw6869694533263656991 PySem.W.Fast.tw89073463820356996 PySem.W.Fast.tw12466709759006461402
  rw [laid_eq, scan_eq, ins_eq]
  revert w os f1 f2 r b
  refine rowed ?_ ?_ <;> (intro w os f1 f2 r b; cases b <;> kernel_rfl)
theorem tn_9_1_26 (w : World) : ∀ (os : OsState) (f1 f2 : Frame) (r : List Frame) (b : Bool), goQ w 20 ((S_9_1_26 b) w os) (loopAt PySem.W.SL.s10534883147002075979x15 ⟨[(.ref 84), (.ref 85)], []⟩ ⟨20, 9, 20, 52⟩ (f1 :: f2 :: r)) = some ((S_9_1_27 b) w os, (loopAt PySem.W.SL.s10534883147002075979x15 ⟨[(.ref 84), (.ref 85)], []⟩ ⟨20, 9, 20, 52⟩ (f1 :: f2 :: r))) := by
  intro os f1 f2 r b
  refine turn_of ?_
  delta PySem.W.Fast.tw14453038532278432606 PySem.W.Fast.tw5518019106960326183
  rw [hashed_eq]
  delta PySem.W.Fast.tw4328697075774883827 PySem.W.Fast.tw93129132117342410 PySem.W.Fast.tw7057874960865805170 PySem.W.Fast.tw6869694533263656991 PySem.W.Fast.tw89073463820356996 PySem.W.Fast.tw12466709759006461402
  rw [laid_eq, scan_eq, ins_eq]
  revert w os f1 f2 r b
  refine rowed ?_ ?_ <;> (intro w os f1 f2 r b; cases b <;> kernel_rfl)
theorem tn_9_1_27 (w : World) : ∀ (os : OsState) (f1 f2 : Frame) (r : List Frame) (b : Bool), goQ w 20 ((S_9_1_27 b) w os) (loopAt PySem.W.SL.s10534883147002075979x15 ⟨[(.ref 84), (.ref 85)], []⟩ ⟨20, 9, 20, 52⟩ (f1 :: f2 :: r)) = some ((S_9_1_28 b) w os, (loopAt PySem.W.SL.s10534883147002075979x15 ⟨[(.ref 84), (.ref 85)], []⟩ ⟨20, 9, 20, 52⟩ (f1 :: f2 :: r))) := by
  intro os f1 f2 r b
  refine turn_of ?_
  delta PySem.W.Fast.tw14453038532278432606 PySem.W.Fast.tw5518019106960326183
  rw [hashed_eq]
  delta PySem.W.Fast.tw4328697075774883827 PySem.W.Fast.tw93129132117342410 PySem.W.Fast.tw7057874960865805170 PySem.W.Fast.tw6869694533263656991 PySem.W.Fast.tw89073463820356996 PySem.W.Fast.tw12466709759006461402
  rw [laid_eq, scan_eq, ins_eq]
  revert w os f1 f2 r b
  refine rowed ?_ ?_ <;> (intro w os f1 f2 r b; cases b <;> kernel_rfl)
theorem tn_9_1_28 (w : World) : ∀ (os : OsState) (f1 f2 : Frame) (r : List Frame) (b : Bool), goQ w 20 ((S_9_1_28 b) w os) (loopAt PySem.W.SL.s10534883147002075979x15 ⟨[(.ref 84), (.ref 85)], []⟩ ⟨20, 9, 20, 52⟩ (f1 :: f2 :: r)) = some ((S_9_1_29 b) w os, (loopAt PySem.W.SL.s10534883147002075979x15 ⟨[(.ref 84), (.ref 85)], []⟩ ⟨20, 9, 20, 52⟩ (f1 :: f2 :: r))) := by
  intro os f1 f2 r b
  refine turn_of ?_
  delta PySem.W.Fast.tw14453038532278432606 PySem.W.Fast.tw5518019106960326183
  rw [hashed_eq]
  delta PySem.W.Fast.tw4328697075774883827 PySem.W.Fast.tw93129132117342410 PySem.W.Fast.tw7057874960865805170 PySem.W.Fast.tw6869694533263656991 PySem.W.Fast.tw89073463820356996 PySem.W.Fast.tw12466709759006461402
  rw [laid_eq, scan_eq, ins_eq]
  revert w os f1 f2 r b
  refine rowed ?_ ?_ <;> (intro w os f1 f2 r b; cases b <;> kernel_rfl)
theorem tn_9_1_29 (w : World) : ∀ (os : OsState) (f1 f2 : Frame) (r : List Frame) (b : Bool), goQ w 20 ((S_9_1_29 b) w os) (loopAt PySem.W.SL.s10534883147002075979x15 ⟨[(.ref 84), (.ref 85)], []⟩ ⟨20, 9, 20, 52⟩ (f1 :: f2 :: r)) = some ((S_9_1_30 b) w os, (loopAt PySem.W.SL.s10534883147002075979x15 ⟨[(.ref 84), (.ref 85)], []⟩ ⟨20, 9, 20, 52⟩ (f1 :: f2 :: r))) := by
  intro os f1 f2 r b
  refine turn_of ?_
  delta PySem.W.Fast.tw14453038532278432606 PySem.W.Fast.tw5518019106960326183
  rw [hashed_eq]
  delta PySem.W.Fast.tw4328697075774883827 PySem.W.Fast.tw93129132117342410 PySem.W.Fast.tw7057874960865805170 PySem.W.Fast.tw6869694533263656991 PySem.W.Fast.tw89073463820356996 PySem.W.Fast.tw12466709759006461402
  rw [laid_eq, scan_eq, ins_eq]
  revert w os f1 f2 r b
  refine rowed ?_ ?_ <;> (intro w os f1 f2 r b; cases b <;> kernel_rfl)
theorem tn_9_1_30 (w : World) : ∀ (os : OsState) (f1 f2 : Frame) (r : List Frame) (b : Bool), goQ w 20 ((S_9_1_30 b) w os) (loopAt PySem.W.SL.s10534883147002075979x15 ⟨[(.ref 84), (.ref 85)], []⟩ ⟨20, 9, 20, 52⟩ (f1 :: f2 :: r)) = some ((S_9_1_31 b) w os, (loopAt PySem.W.SL.s10534883147002075979x15 ⟨[(.ref 84), (.ref 85)], []⟩ ⟨20, 9, 20, 52⟩ (f1 :: f2 :: r))) := by
  intro os f1 f2 r b
  refine turn_of ?_
  delta PySem.W.Fast.tw14453038532278432606 PySem.W.Fast.tw5518019106960326183
  rw [hashed_eq]
  delta PySem.W.Fast.tw4328697075774883827 PySem.W.Fast.tw93129132117342410 PySem.W.Fast.tw7057874960865805170 PySem.W.Fast.tw6869694533263656991 PySem.W.Fast.tw89073463820356996 PySem.W.Fast.tw12466709759006461402
  rw [laid_eq, scan_eq, ins_eq]
  revert w os f1 f2 r b
  refine rowed ?_ ?_ <;> (intro w os f1 f2 r b; cases b <;> kernel_rfl)
theorem tn_9_1_31 (w : World) : ∀ (os : OsState) (f1 f2 : Frame) (r : List Frame) (b : Bool), goQ w 20 ((S_9_1_31 b) w os) (loopAt PySem.W.SL.s10534883147002075979x15 ⟨[(.ref 84), (.ref 85)], []⟩ ⟨20, 9, 20, 52⟩ (f1 :: f2 :: r)) = some ((S_9_1_32 b) w os, (loopAt PySem.W.SL.s10534883147002075979x15 ⟨[(.ref 84), (.ref 85)], []⟩ ⟨20, 9, 20, 52⟩ (f1 :: f2 :: r))) := by
  intro os f1 f2 r b
  refine turn_of ?_
  delta PySem.W.Fast.tw14453038532278432606 PySem.W.Fast.tw5518019106960326183
  rw [hashed_eq]
  delta PySem.W.Fast.tw4328697075774883827 PySem.W.Fast.tw93129132117342410 PySem.W.Fast.tw7057874960865805170 PySem.W.Fast.tw6869694533263656991 PySem.W.Fast.tw89073463820356996 PySem.W.Fast.tw12466709759006461402
  rw [laid_eq, scan_eq, ins_eq]
  revert w os f1 f2 r b
  refine rowed ?_ ?_ <;> (intro w os f1 f2 r b; cases b <;> kernel_rfl)
theorem tn_9_1_32 (w : World) : ∀ (os : OsState) (f1 f2 : Frame) (r : List Frame) (b : Bool), goQ w 20 ((S_9_1_32 b) w os) (loopAt PySem.W.SL.s10534883147002075979x15 ⟨[(.ref 84), (.ref 85)], []⟩ ⟨20, 9, 20, 52⟩ (f1 :: f2 :: r)) = some ((S_9_1_33 b) w os, (loopAt PySem.W.SL.s10534883147002075979x15 ⟨[(.ref 84), (.ref 85)], []⟩ ⟨20, 9, 20, 52⟩ (f1 :: f2 :: r))) := by
  intro os f1 f2 r b
  refine turn_of ?_
  delta PySem.W.Fast.tw14453038532278432606 PySem.W.Fast.tw5518019106960326183
  rw [hashed_eq]
  delta PySem.W.Fast.tw4328697075774883827 PySem.W.Fast.tw93129132117342410 PySem.W.Fast.tw7057874960865805170 PySem.W.Fast.tw6869694533263656991 PySem.W.Fast.tw89073463820356996 PySem.W.Fast.tw12466709759006461402
  rw [laid_eq, scan_eq, ins_eq]
  revert w os f1 f2 r b
  refine rowed ?_ ?_ <;> (intro w os f1 f2 r b; cases b <;> kernel_rfl)
theorem tn_9_1_33 (w : World) : ∀ (os : OsState) (f1 f2 : Frame) (r : List Frame) (b : Bool), goQ w 20 ((S_9_1_33 b) w os) (loopAt PySem.W.SL.s10534883147002075979x15 ⟨[(.ref 84), (.ref 85)], []⟩ ⟨20, 9, 20, 52⟩ (f1 :: f2 :: r)) = some ((S_9_1_34 b) w os, (loopAt PySem.W.SL.s10534883147002075979x15 ⟨[(.ref 84), (.ref 85)], []⟩ ⟨20, 9, 20, 52⟩ (f1 :: f2 :: r))) := by
  intro os f1 f2 r b
  refine turn_of ?_
  delta PySem.W.Fast.tw14453038532278432606 PySem.W.Fast.tw5518019106960326183
  rw [hashed_eq]
  delta PySem.W.Fast.tw4328697075774883827 PySem.W.Fast.tw93129132117342410 PySem.W.Fast.tw7057874960865805170 PySem.W.Fast.tw6869694533263656991 PySem.W.Fast.tw89073463820356996 PySem.W.Fast.tw12466709759006461402
  rw [laid_eq, scan_eq, ins_eq]
  revert w os f1 f2 r b
  refine rowed ?_ ?_ <;> (intro w os f1 f2 r b; cases b <;> kernel_rfl)
theorem tn_9_1_34 (w : World) : ∀ (os : OsState) (f1 f2 : Frame) (r : List Frame) (b : Bool), goQ w 20 ((S_9_1_34 b) w os) (loopAt PySem.W.SL.s10534883147002075979x15 ⟨[(.ref 84), (.ref 85)], []⟩ ⟨20, 9, 20, 52⟩ (f1 :: f2 :: r)) = some ((S_9_1_35 b) w os, (loopAt PySem.W.SL.s10534883147002075979x15 ⟨[(.ref 84), (.ref 85)], []⟩ ⟨20, 9, 20, 52⟩ (f1 :: f2 :: r))) := by
  intro os f1 f2 r b
  refine turn_of ?_
  delta PySem.W.Fast.tw14453038532278432606 PySem.W.Fast.tw5518019106960326183
  rw [hashed_eq]
  delta PySem.W.Fast.tw4328697075774883827 PySem.W.Fast.tw93129132117342410 PySem.W.Fast.tw7057874960865805170 PySem.W.Fast.tw6869694533263656991 PySem.W.Fast.tw89073463820356996 PySem.W.Fast.tw12466709759006461402
  rw [laid_eq, scan_eq, ins_eq]
  revert w os f1 f2 r b
  refine rowed ?_ ?_ <;> (intro w os f1 f2 r b; cases b <;> kernel_rfl)
theorem tn_9_1_35 (w : World) : ∀ (os : OsState) (f1 f2 : Frame) (r : List Frame) (b : Bool), goQ w 20 ((S_9_1_35 b) w os) (loopAt PySem.W.SL.s10534883147002075979x15 ⟨[(.ref 84), (.ref 85)], []⟩ ⟨20, 9, 20, 52⟩ (f1 :: f2 :: r)) = some ((S_9_1_36 b) w os, (loopAt PySem.W.SL.s10534883147002075979x15 ⟨[(.ref 84), (.ref 85)], []⟩ ⟨20, 9, 20, 52⟩ (f1 :: f2 :: r))) := by
  intro os f1 f2 r b
  refine turn_of ?_
  delta PySem.W.Fast.tw14453038532278432606 PySem.W.Fast.tw5518019106960326183
  rw [hashed_eq]
  delta PySem.W.Fast.tw4328697075774883827 PySem.W.Fast.tw93129132117342410 PySem.W.Fast.tw7057874960865805170 PySem.W.Fast.tw6869694533263656991 PySem.W.Fast.tw89073463820356996 PySem.W.Fast.tw12466709759006461402
  rw [laid_eq, scan_eq, ins_eq]
  revert w os f1 f2 r b
  refine rowed ?_ ?_ <;> (intro w os f1 f2 r b; cases b <;> kernel_rfl)
theorem tn_9_1_36 (w : World) : ∀ (os : OsState) (f1 f2 : Frame) (r : List Frame) (b : Bool), goQ w 20 ((S_9_1_36 b) w os) (loopAt PySem.W.SL.s10534883147002075979x15 ⟨[(.ref 84), (.ref 85)], []⟩ ⟨20, 9, 20, 52⟩ (f1 :: f2 :: r)) = some ((S_9_1_37 b) w os, (loopAt PySem.W.SL.s10534883147002075979x15 ⟨[(.ref 84), (.ref 85)], []⟩ ⟨20, 9, 20, 52⟩ (f1 :: f2 :: r))) := by
  intro os f1 f2 r b
  refine turn_of ?_
  delta PySem.W.Fast.tw14453038532278432606 PySem.W.Fast.tw5518019106960326183
  rw [hashed_eq]
  delta PySem.W.Fast.tw4328697075774883827 PySem.W.Fast.tw93129132117342410 PySem.W.Fast.tw7057874960865805170 PySem.W.Fast.tw6869694533263656991 PySem.W.Fast.tw89073463820356996 PySem.W.Fast.tw12466709759006461402
  rw [laid_eq, scan_eq, ins_eq]
  revert w os f1 f2 r b
  refine rowed ?_ ?_ <;> (intro w os f1 f2 r b; cases b <;> kernel_rfl)
theorem tn_9_1_37 (w : World) : ∀ (os : OsState) (f1 f2 : Frame) (r : List Frame) (b : Bool), goQ w 20 ((S_9_1_37 b) w os) (loopAt PySem.W.SL.s10534883147002075979x15 ⟨[(.ref 84), (.ref 85)], []⟩ ⟨20, 9, 20, 52⟩ (f1 :: f2 :: r)) = some ((S_9_1_38 b) w os, (loopAt PySem.W.SL.s10534883147002075979x15 ⟨[(.ref 84), (.ref 85)], []⟩ ⟨20, 9, 20, 52⟩ (f1 :: f2 :: r))) := by
  intro os f1 f2 r b
  refine turn_of ?_
  delta PySem.W.Fast.tw14453038532278432606 PySem.W.Fast.tw5518019106960326183
  rw [hashed_eq]
  delta PySem.W.Fast.tw4328697075774883827 PySem.W.Fast.tw93129132117342410 PySem.W.Fast.tw7057874960865805170 PySem.W.Fast.tw6869694533263656991 PySem.W.Fast.tw89073463820356996 PySem.W.Fast.tw12466709759006461402
  rw [laid_eq, scan_eq, ins_eq]
  revert w os f1 f2 r b
  refine rowed ?_ ?_ <;> (intro w os f1 f2 r b; cases b <;> kernel_rfl)
theorem tn_9_1_38 (w : World) : ∀ (os : OsState) (f1 f2 : Frame) (r : List Frame) (b : Bool), goQ w 20 ((S_9_1_38 b) w os) (loopAt PySem.W.SL.s10534883147002075979x15 ⟨[(.ref 84), (.ref 85)], []⟩ ⟨20, 9, 20, 52⟩ (f1 :: f2 :: r)) = some ((S_9_1_39 b) w os, (loopAt PySem.W.SL.s10534883147002075979x15 ⟨[(.ref 84), (.ref 85)], []⟩ ⟨20, 9, 20, 52⟩ (f1 :: f2 :: r))) := by
  intro os f1 f2 r b
  refine turn_of ?_
  delta PySem.W.Fast.tw14453038532278432606 PySem.W.Fast.tw5518019106960326183
  rw [hashed_eq]
  delta PySem.W.Fast.tw4328697075774883827 PySem.W.Fast.tw93129132117342410 PySem.W.Fast.tw7057874960865805170 PySem.W.Fast.tw6869694533263656991 PySem.W.Fast.tw89073463820356996 PySem.W.Fast.tw12466709759006461402
  rw [laid_eq, scan_eq, ins_eq]
  revert w os f1 f2 r b
  refine rowed ?_ ?_ <;> (intro w os f1 f2 r b; cases b <;> kernel_rfl)
theorem tn_9_1_39 (w : World) : ∀ (os : OsState) (f1 f2 : Frame) (r : List Frame) (b : Bool), goQ w 20 ((S_9_1_39 b) w os) (loopAt PySem.W.SL.s10534883147002075979x15 ⟨[(.ref 84), (.ref 85)], []⟩ ⟨20, 9, 20, 52⟩ (f1 :: f2 :: r)) = some ((S_9_1_40 b) w os, (loopAt PySem.W.SL.s10534883147002075979x15 ⟨[(.ref 84), (.ref 85)], []⟩ ⟨20, 9, 20, 52⟩ (f1 :: f2 :: r))) := by
  intro os f1 f2 r b
  refine turn_of ?_
  delta PySem.W.Fast.tw14453038532278432606 PySem.W.Fast.tw5518019106960326183
  rw [hashed_eq]
  delta PySem.W.Fast.tw4328697075774883827 PySem.W.Fast.tw93129132117342410 PySem.W.Fast.tw7057874960865805170 PySem.W.Fast.tw6869694533263656991 PySem.W.Fast.tw89073463820356996 PySem.W.Fast.tw12466709759006461402
  rw [laid_eq, scan_eq, ins_eq]
  revert w os f1 f2 r b
  refine rowed ?_ ?_ <;> (intro w os f1 f2 r b; cases b <;> kernel_rfl)
theorem tn_9_1_40 (w : World) : ∀ (os : OsState) (f1 f2 : Frame) (r : List Frame) (b : Bool), goQ w 20 ((S_9_1_40 b) w os) (loopAt PySem.W.SL.s10534883147002075979x15 ⟨[(.ref 84), (.ref 85)], []⟩ ⟨20, 9, 20, 52⟩ (f1 :: f2 :: r)) = some ((S_9_1_41 b) w os, (loopAt PySem.W.SL.s10534883147002075979x15 ⟨[(.ref 84), (.ref 85)], []⟩ ⟨20, 9, 20, 52⟩ (f1 :: f2 :: r))) := by
  intro os f1 f2 r b
  refine turn_of ?_
  delta PySem.W.Fast.tw14453038532278432606 PySem.W.Fast.tw5518019106960326183
  rw [hashed_eq]
  delta PySem.W.Fast.tw4328697075774883827 PySem.W.Fast.tw93129132117342410 PySem.W.Fast.tw7057874960865805170 PySem.W.Fast.tw6869694533263656991 PySem.W.Fast.tw89073463820356996 PySem.W.Fast.tw12466709759006461402
  rw [laid_eq, scan_eq, ins_eq]
  revert w os f1 f2 r b
  refine rowed ?_ ?_ <;> (intro w os f1 f2 r b; cases b <;> kernel_rfl)
theorem tn_9_1_41 (w : World) : ∀ (os : OsState) (f1 f2 : Frame) (r : List Frame) (b : Bool), goQ w 20 ((S_9_1_41 b) w os) (loopAt PySem.W.SL.s10534883147002075979x15 ⟨[(.ref 84), (.ref 85)], []⟩ ⟨20, 9, 20, 52⟩ (f1 :: f2 :: r)) = some ((S_9_1_42 b) w os, (loopAt PySem.W.SL.s10534883147002075979x15 ⟨[(.ref 84), (.ref 85)], []⟩ ⟨20, 9, 20, 52⟩ (f1 :: f2 :: r))) := by
  intro os f1 f2 r b
  refine turn_of ?_
  delta PySem.W.Fast.tw14453038532278432606 PySem.W.Fast.tw5518019106960326183
  rw [hashed_eq]
  delta PySem.W.Fast.tw4328697075774883827 PySem.W.Fast.tw93129132117342410 PySem.W.Fast.tw7057874960865805170 PySem.W.Fast.tw6869694533263656991 PySem.W.Fast.tw89073463820356996 PySem.W.Fast.tw12466709759006461402
  rw [laid_eq, scan_eq, ins_eq]
  revert w os f1 f2 r b
  refine rowed ?_ ?_ <;> (intro w os f1 f2 r b; cases b <;> kernel_rfl)
theorem tn_9_1_42 (w : World) : ∀ (os : OsState) (f1 f2 : Frame) (r : List Frame) (b : Bool), goQ w 20 ((S_9_1_42 b) w os) (loopAt PySem.W.SL.s10534883147002075979x15 ⟨[(.ref 84), (.ref 85)], []⟩ ⟨20, 9, 20, 52⟩ (f1 :: f2 :: r)) = some ((S_9_1_43 b) w os, (loopAt PySem.W.SL.s10534883147002075979x15 ⟨[(.ref 84), (.ref 85)], []⟩ ⟨20, 9, 20, 52⟩ (f1 :: f2 :: r))) := by
  intro os f1 f2 r b
  refine turn_of ?_
  delta PySem.W.Fast.tw14453038532278432606 PySem.W.Fast.tw5518019106960326183
  rw [hashed_eq]
  delta PySem.W.Fast.tw4328697075774883827 PySem.W.Fast.tw93129132117342410 PySem.W.Fast.tw7057874960865805170 PySem.W.Fast.tw6869694533263656991 PySem.W.Fast.tw89073463820356996 PySem.W.Fast.tw12466709759006461402
  rw [laid_eq, scan_eq, ins_eq]
  revert w os f1 f2 r b
  refine rowed ?_ ?_ <;> (intro w os f1 f2 r b; cases b <;> kernel_rfl)
theorem tn_9_1_43 (w : World) : ∀ (os : OsState) (f1 f2 : Frame) (r : List Frame) (b : Bool), goQ w 20 ((S_9_1_43 b) w os) (loopAt PySem.W.SL.s10534883147002075979x15 ⟨[(.ref 84), (.ref 85)], []⟩ ⟨20, 9, 20, 52⟩ (f1 :: f2 :: r)) = some ((S_9_1_44 b) w os, (loopAt PySem.W.SL.s10534883147002075979x15 ⟨[(.ref 84), (.ref 85)], []⟩ ⟨20, 9, 20, 52⟩ (f1 :: f2 :: r))) := by
  intro os f1 f2 r b
  refine turn_of ?_
  delta PySem.W.Fast.tw14453038532278432606 PySem.W.Fast.tw5518019106960326183
  rw [hashed_eq]
  delta PySem.W.Fast.tw4328697075774883827 PySem.W.Fast.tw93129132117342410 PySem.W.Fast.tw7057874960865805170 PySem.W.Fast.tw6869694533263656991 PySem.W.Fast.tw89073463820356996 PySem.W.Fast.tw12466709759006461402
  rw [laid_eq, scan_eq, ins_eq]
  revert w os f1 f2 r b
  refine rowed ?_ ?_ <;> (intro w os f1 f2 r b; cases b <;> kernel_rfl)
theorem tn_9_1_44 (w : World) : ∀ (os : OsState) (f1 f2 : Frame) (r : List Frame) (b : Bool), goQ w 20 ((S_9_1_44 b) w os) (loopAt PySem.W.SL.s10534883147002075979x15 ⟨[(.ref 84), (.ref 85)], []⟩ ⟨20, 9, 20, 52⟩ (f1 :: f2 :: r)) = some ((S_9_1_45 b) w os, (loopAt PySem.W.SL.s10534883147002075979x15 ⟨[(.ref 84), (.ref 85)], []⟩ ⟨20, 9, 20, 52⟩ (f1 :: f2 :: r))) := by
  intro os f1 f2 r b
  refine turn_of ?_
  delta PySem.W.Fast.tw14453038532278432606 PySem.W.Fast.tw5518019106960326183
  rw [hashed_eq]
  delta PySem.W.Fast.tw4328697075774883827 PySem.W.Fast.tw93129132117342410 PySem.W.Fast.tw7057874960865805170 PySem.W.Fast.tw6869694533263656991 PySem.W.Fast.tw89073463820356996 PySem.W.Fast.tw12466709759006461402
  rw [laid_eq, scan_eq, ins_eq]
  revert w os f1 f2 r b
  refine rowed ?_ ?_ <;> (intro w os f1 f2 r b; cases b <;> kernel_rfl)
theorem tn_9_1_45 (w : World) : ∀ (os : OsState) (f1 f2 : Frame) (r : List Frame) (b : Bool), goQ w 20 ((S_9_1_45 b) w os) (loopAt PySem.W.SL.s10534883147002075979x15 ⟨[(.ref 84), (.ref 85)], []⟩ ⟨20, 9, 20, 52⟩ (f1 :: f2 :: r)) = some ((S_9_1_46 b) w os, (loopAt PySem.W.SL.s10534883147002075979x15 ⟨[(.ref 84), (.ref 85)], []⟩ ⟨20, 9, 20, 52⟩ (f1 :: f2 :: r))) := by
  intro os f1 f2 r b
  refine turn_of ?_
  delta PySem.W.Fast.tw14453038532278432606 PySem.W.Fast.tw5518019106960326183
  rw [hashed_eq]
  delta PySem.W.Fast.tw4328697075774883827 PySem.W.Fast.tw93129132117342410 PySem.W.Fast.tw7057874960865805170 PySem.W.Fast.tw6869694533263656991 PySem.W.Fast.tw89073463820356996 PySem.W.Fast.tw12466709759006461402
  rw [laid_eq, scan_eq, ins_eq]
  revert w os f1 f2 r b
  refine rowed ?_ ?_ <;> (intro w os f1 f2 r b; cases b <;> kernel_rfl)
theorem tn_9_1_46 (w : World) : ∀ (os : OsState) (f1 f2 : Frame) (r : List Frame) (b : Bool), goQ w 20 ((S_9_1_46 b) w os) (loopAt PySem.W.SL.s10534883147002075979x15 ⟨[(.ref 84), (.ref 85)], []⟩ ⟨20, 9, 20, 52⟩ (f1 :: f2 :: r)) = some ((S_9_1_47 b) w os, (loopAt PySem.W.SL.s10534883147002075979x15 ⟨[(.ref 84), (.ref 85)], []⟩ ⟨20, 9, 20, 52⟩ (f1 :: f2 :: r))) := by
  intro os f1 f2 r b
  refine turn_of ?_
  delta PySem.W.Fast.tw14453038532278432606 PySem.W.Fast.tw5518019106960326183
  rw [hashed_eq]
  delta PySem.W.Fast.tw4328697075774883827 PySem.W.Fast.tw93129132117342410 PySem.W.Fast.tw7057874960865805170 PySem.W.Fast.tw6869694533263656991 PySem.W.Fast.tw89073463820356996 PySem.W.Fast.tw12466709759006461402
  rw [laid_eq, scan_eq, ins_eq]
  revert w os f1 f2 r b
  refine rowed ?_ ?_ <;> (intro w os f1 f2 r b; cases b <;> kernel_rfl)
theorem tn_9_1_47 (w : World) : ∀ (os : OsState) (f1 f2 : Frame) (r : List Frame) (b : Bool), goQ w 20 ((S_9_1_47 b) w os) (loopAt PySem.W.SL.s10534883147002075979x15 ⟨[(.ref 84), (.ref 85)], []⟩ ⟨20, 9, 20, 52⟩ (f1 :: f2 :: r)) = some ((S_9_1_48 b) w os, (loopAt PySem.W.SL.s10534883147002075979x15 ⟨[(.ref 84), (.ref 85)], []⟩ ⟨20, 9, 20, 52⟩ (f1 :: f2 :: r))) := by
  intro os f1 f2 r b
  refine turn_of ?_
  delta PySem.W.Fast.tw14453038532278432606 PySem.W.Fast.tw5518019106960326183
  rw [hashed_eq]
  delta PySem.W.Fast.tw4328697075774883827 PySem.W.Fast.tw93129132117342410 PySem.W.Fast.tw7057874960865805170 PySem.W.Fast.tw6869694533263656991 PySem.W.Fast.tw89073463820356996 PySem.W.Fast.tw12466709759006461402
  rw [laid_eq, scan_eq, ins_eq]
  revert w os f1 f2 r b
  refine rowed ?_ ?_ <;> (intro w os f1 f2 r b; cases b <;> kernel_rfl)
theorem tn_9_1_48 (w : World) : ∀ (os : OsState) (f1 f2 : Frame) (r : List Frame) (b : Bool), goQ w 20 ((S_9_1_48 b) w os) (loopAt PySem.W.SL.s10534883147002075979x15 ⟨[(.ref 84), (.ref 85)], []⟩ ⟨20, 9, 20, 52⟩ (f1 :: f2 :: r)) = some ((S_9_1_49 b) w os, (loopAt PySem.W.SL.s10534883147002075979x15 ⟨[(.ref 84), (.ref 85)], []⟩ ⟨20, 9, 20, 52⟩ (f1 :: f2 :: r))) := by
  intro os f1 f2 r b
  refine turn_of ?_
  delta PySem.W.Fast.tw14453038532278432606 PySem.W.Fast.tw5518019106960326183
  rw [hashed_eq]
  delta PySem.W.Fast.tw4328697075774883827 PySem.W.Fast.tw93129132117342410 PySem.W.Fast.tw7057874960865805170 PySem.W.Fast.tw6869694533263656991 PySem.W.Fast.tw89073463820356996 PySem.W.Fast.tw12466709759006461402
  rw [laid_eq, scan_eq, ins_eq]
  revert w os f1 f2 r b
  refine rowed ?_ ?_ <;> (intro w os f1 f2 r b; cases b <;> kernel_rfl)
theorem tn_9_1_49 (w : World) : ∀ (os : OsState) (f1 f2 : Frame) (r : List Frame) (b : Bool), goQ w 20 ((S_9_1_49 b) w os) (loopAt PySem.W.SL.s10534883147002075979x15 ⟨[(.ref 84), (.ref 85)], []⟩ ⟨20, 9, 20, 52⟩ (f1 :: f2 :: r)) = some ((S_9_1_50 b) w os, (loopAt PySem.W.SL.s10534883147002075979x15 ⟨[(.ref 84), (.ref 85)], []⟩ ⟨20, 9, 20, 52⟩ (f1 :: f2 :: r))) := by
  intro os f1 f2 r b
  refine turn_of ?_
  delta PySem.W.Fast.tw14453038532278432606 PySem.W.Fast.tw5518019106960326183
  rw [hashed_eq]
  delta PySem.W.Fast.tw4328697075774883827 PySem.W.Fast.tw93129132117342410 PySem.W.Fast.tw7057874960865805170 PySem.W.Fast.tw6869694533263656991 PySem.W.Fast.tw89073463820356996 PySem.W.Fast.tw12466709759006461402
  rw [laid_eq, scan_eq, ins_eq]
  revert w os f1 f2 r b
  refine rowed ?_ ?_ <;> (intro w os f1 f2 r b; cases b <;> kernel_rfl)
theorem tn_9_1_50 (w : World) : ∀ (os : OsState) (f1 f2 : Frame) (r : List Frame) (b : Bool), goQ w 20 ((S_9_1_50 b) w os) (loopAt PySem.W.SL.s10534883147002075979x15 ⟨[(.ref 84), (.ref 85)], []⟩ ⟨20, 9, 20, 52⟩ (f1 :: f2 :: r)) = some ((S_9_1_51 b) w os, (loopAt PySem.W.SL.s10534883147002075979x15 ⟨[(.ref 84), (.ref 85)], []⟩ ⟨20, 9, 20, 52⟩ (f1 :: f2 :: r))) := by
  intro os f1 f2 r b
  refine turn_of ?_
  delta PySem.W.Fast.tw14453038532278432606 PySem.W.Fast.tw5518019106960326183
  rw [hashed_eq]
  delta PySem.W.Fast.tw4328697075774883827 PySem.W.Fast.tw93129132117342410 PySem.W.Fast.tw7057874960865805170 PySem.W.Fast.tw6869694533263656991 PySem.W.Fast.tw89073463820356996 PySem.W.Fast.tw12466709759006461402
  rw [laid_eq, scan_eq, ins_eq]
  revert w os f1 f2 r b
  refine rowed ?_ ?_ <;> (intro w os f1 f2 r b; cases b <;> kernel_rfl)
theorem tn_9_1_51 (w : World) : ∀ (os : OsState) (f1 f2 : Frame) (r : List Frame) (b : Bool), goQ w 20 ((S_9_1_51 b) w os) (loopAt PySem.W.SL.s10534883147002075979x15 ⟨[(.ref 84), (.ref 85)], []⟩ ⟨20, 9, 20, 52⟩ (f1 :: f2 :: r)) = some ((S_9_1_52 b) w os, (loopAt PySem.W.SL.s10534883147002075979x15 ⟨[(.ref 84), (.ref 85)], []⟩ ⟨20, 9, 20, 52⟩ (f1 :: f2 :: r))) := by
  intro os f1 f2 r b
  refine turn_of ?_
  delta PySem.W.Fast.tw14453038532278432606 PySem.W.Fast.tw5518019106960326183
  rw [hashed_eq]
  delta PySem.W.Fast.tw4328697075774883827 PySem.W.Fast.tw93129132117342410 PySem.W.Fast.tw7057874960865805170 PySem.W.Fast.tw6869694533263656991 PySem.W.Fast.tw89073463820356996 PySem.W.Fast.tw12466709759006461402
  rw [laid_eq, scan_eq, ins_eq]
  revert w os f1 f2 r b
  refine rowed ?_ ?_ <;> (intro w os f1 f2 r b; cases b <;> kernel_rfl)
theorem tn_9_1_52 (w : World) : ∀ (os : OsState) (f1 f2 : Frame) (r : List Frame) (b : Bool), goQ w 20 ((S_9_1_52 b) w os) (loopAt PySem.W.SL.s10534883147002075979x15 ⟨[(.ref 84), (.ref 85)], []⟩ ⟨20, 9, 20, 52⟩ (f1 :: f2 :: r)) = some ((S_9_1_53 b) w os, (loopAt PySem.W.SL.s10534883147002075979x15 ⟨[(.ref 84), (.ref 85)], []⟩ ⟨20, 9, 20, 52⟩ (f1 :: f2 :: r))) := by
  intro os f1 f2 r b
  refine turn_of ?_
  delta PySem.W.Fast.tw14453038532278432606 PySem.W.Fast.tw5518019106960326183
  rw [hashed_eq]
  delta PySem.W.Fast.tw4328697075774883827 PySem.W.Fast.tw93129132117342410 PySem.W.Fast.tw7057874960865805170 PySem.W.Fast.tw6869694533263656991 PySem.W.Fast.tw89073463820356996 PySem.W.Fast.tw12466709759006461402
  rw [laid_eq, scan_eq, ins_eq]
  revert w os f1 f2 r b
  refine rowed ?_ ?_ <;> (intro w os f1 f2 r b; cases b <;> kernel_rfl)
theorem tn_9_1_53 (w : World) : ∀ (os : OsState) (f1 f2 : Frame) (r : List Frame) (b : Bool), goQ w 20 ((S_9_1_53 b) w os) (loopAt PySem.W.SL.s10534883147002075979x15 ⟨[(.ref 84), (.ref 85)], []⟩ ⟨20, 9, 20, 52⟩ (f1 :: f2 :: r)) = some ((S_9_1_54 b) w os, (loopAt PySem.W.SL.s10534883147002075979x15 ⟨[(.ref 84), (.ref 85)], []⟩ ⟨20, 9, 20, 52⟩ (f1 :: f2 :: r))) := by
  intro os f1 f2 r b
  refine turn_of ?_
  delta PySem.W.Fast.tw14453038532278432606 PySem.W.Fast.tw5518019106960326183
  rw [hashed_eq]
  delta PySem.W.Fast.tw4328697075774883827 PySem.W.Fast.tw93129132117342410 PySem.W.Fast.tw7057874960865805170 PySem.W.Fast.tw6869694533263656991 PySem.W.Fast.tw89073463820356996 PySem.W.Fast.tw12466709759006461402
  rw [laid_eq, scan_eq, ins_eq]
  revert w os f1 f2 r b
  refine rowed ?_ ?_ <;> (intro w os f1 f2 r b; cases b <;> kernel_rfl)
theorem tn_9_1_54 (w : World) : ∀ (os : OsState) (f1 f2 : Frame) (r : List Frame) (b : Bool), goQ w 20 ((S_9_1_54 b) w os) (loopAt PySem.W.SL.s10534883147002075979x15 ⟨[(.ref 84), (.ref 85)], []⟩ ⟨20, 9, 20, 52⟩ (f1 :: f2 :: r)) = some ((S_9_1_55 b) w os, (loopAt PySem.W.SL.s10534883147002075979x15 ⟨[(.ref 84), (.ref 85)], []⟩ ⟨20, 9, 20, 52⟩ (f1 :: f2 :: r))) := by
  intro os f1 f2 r b
  refine turn_of ?_
  delta PySem.W.Fast.tw14453038532278432606 PySem.W.Fast.tw5518019106960326183
  rw [hashed_eq]
  delta PySem.W.Fast.tw4328697075774883827 PySem.W.Fast.tw93129132117342410 PySem.W.Fast.tw7057874960865805170 PySem.W.Fast.tw6869694533263656991 PySem.W.Fast.tw89073463820356996 PySem.W.Fast.tw12466709759006461402
  rw [laid_eq, scan_eq, ins_eq]
  revert w os f1 f2 r b
  refine rowed ?_ ?_ <;> (intro w os f1 f2 r b; cases b <;> kernel_rfl)
theorem tn_9_1_55 (w : World) : ∀ (os : OsState) (f1 f2 : Frame) (r : List Frame) (b : Bool), goQ w 20 ((S_9_1_55 b) w os) (loopAt PySem.W.SL.s10534883147002075979x15 ⟨[(.ref 84), (.ref 85)], []⟩ ⟨20, 9, 20, 52⟩ (f1 :: f2 :: r)) = some ((S_9_1_56 b) w os, (loopAt PySem.W.SL.s10534883147002075979x15 ⟨[(.ref 84), (.ref 85)], []⟩ ⟨20, 9, 20, 52⟩ (f1 :: f2 :: r))) := by
  intro os f1 f2 r b
  refine turn_of ?_
  delta PySem.W.Fast.tw14453038532278432606 PySem.W.Fast.tw5518019106960326183
  rw [hashed_eq]
  delta PySem.W.Fast.tw4328697075774883827 PySem.W.Fast.tw93129132117342410 PySem.W.Fast.tw7057874960865805170 PySem.W.Fast.tw6869694533263656991 PySem.W.Fast.tw89073463820356996 PySem.W.Fast.tw12466709759006461402
  rw [laid_eq, scan_eq, ins_eq]
  revert w os f1 f2 r b
  refine rowed ?_ ?_ <;> (intro w os f1 f2 r b; cases b <;> kernel_rfl)
theorem tn_9_1_56 (w : World) : ∀ (os : OsState) (f1 f2 : Frame) (r : List Frame) (b : Bool), goQ w 20 ((S_9_1_56 b) w os) (loopAt PySem.W.SL.s10534883147002075979x15 ⟨[(.ref 84), (.ref 85)], []⟩ ⟨20, 9, 20, 52⟩ (f1 :: f2 :: r)) = some ((S_9_1_57 b) w os, (loopAt PySem.W.SL.s10534883147002075979x15 ⟨[(.ref 84), (.ref 85)], []⟩ ⟨20, 9, 20, 52⟩ (f1 :: f2 :: r))) := by
  intro os f1 f2 r b
  refine turn_of ?_
  delta PySem.W.Fast.tw14453038532278432606 PySem.W.Fast.tw5518019106960326183
  rw [hashed_eq]
  delta PySem.W.Fast.tw4328697075774883827 PySem.W.Fast.tw93129132117342410 PySem.W.Fast.tw7057874960865805170 PySem.W.Fast.tw6869694533263656991 PySem.W.Fast.tw89073463820356996 PySem.W.Fast.tw12466709759006461402
  rw [laid_eq, scan_eq, ins_eq]
  revert w os f1 f2 r b
  refine rowed ?_ ?_ <;> (intro w os f1 f2 r b; cases b <;> kernel_rfl)
theorem tn_9_1_57 (w : World) : ∀ (os : OsState) (f1 f2 : Frame) (r : List Frame) (b : Bool), goQ w 20 ((S_9_1_57 b) w os) (loopAt PySem.W.SL.s10534883147002075979x15 ⟨[(.ref 84), (.ref 85)], []⟩ ⟨20, 9, 20, 52⟩ (f1 :: f2 :: r)) = some ((S_9_1_58 b) w os, (loopAt PySem.W.SL.s10534883147002075979x15 ⟨[(.ref 84), (.ref 85)], []⟩ ⟨20, 9, 20, 52⟩ (f1 :: f2 :: r))) := by
  intro os f1 f2 r b
  refine turn_of ?_
  delta PySem.W.Fast.tw14453038532278432606 PySem.W.Fast.tw5518019106960326183
  rw [hashed_eq]
  delta PySem.W.Fast.tw4328697075774883827 PySem.W.Fast.tw93129132117342410 PySem.W.Fast.tw7057874960865805170 PySem.W.Fast.tw6869694533263656991 PySem.W.Fast.tw89073463820356996 PySem.W.Fast.tw12466709759006461402
  rw [laid_eq, scan_eq, ins_eq]
  revert w os f1 f2 r b
  refine rowed ?_ ?_ <;> (intro w os f1 f2 r b; cases b <;> kernel_rfl)
theorem tn_9_1_58 (w : World) : ∀ (os : OsState) (f1 f2 : Frame) (r : List Frame) (b : Bool), goQ w 20 ((S_9_1_58 b) w os) (loopAt PySem.W.SL.s10534883147002075979x15 ⟨[(.ref 84), (.ref 85)], []⟩ ⟨20, 9, 20, 52⟩ (f1 :: f2 :: r)) = some ((S_9_1_59 b) w os, (loopAt PySem.W.SL.s10534883147002075979x15 ⟨[(.ref 84), (.ref 85)], []⟩ ⟨20, 9, 20, 52⟩ (f1 :: f2 :: r))) := by
  intro os f1 f2 r b
  refine turn_of ?_
  delta PySem.W.Fast.tw14453038532278432606 PySem.W.Fast.tw5518019106960326183
  rw [hashed_eq]
  delta PySem.W.Fast.tw4328697075774883827 PySem.W.Fast.tw93129132117342410 PySem.W.Fast.tw7057874960865805170 PySem.W.Fast.tw6869694533263656991 PySem.W.Fast.tw89073463820356996 PySem.W.Fast.tw12466709759006461402
  rw [laid_eq, scan_eq, ins_eq]
  revert w os f1 f2 r b
  refine rowed ?_ ?_ <;> (intro w os f1 f2 r b; cases b <;> kernel_rfl)
theorem tn_9_1_59 (w : World) : ∀ (os : OsState) (f1 f2 : Frame) (r : List Frame) (b : Bool), goQ w 20 ((S_9_1_59 b) w os) (loopAt PySem.W.SL.s10534883147002075979x15 ⟨[(.ref 84), (.ref 85)], []⟩ ⟨20, 9, 20, 52⟩ (f1 :: f2 :: r)) = some ((S_9_1_60 b) w os, (loopAt PySem.W.SL.s10534883147002075979x15 ⟨[(.ref 84), (.ref 85)], []⟩ ⟨20, 9, 20, 52⟩ (f1 :: f2 :: r))) := by
  intro os f1 f2 r b
  refine turn_of ?_
  delta PySem.W.Fast.tw14453038532278432606 PySem.W.Fast.tw5518019106960326183
  rw [hashed_eq]
  delta PySem.W.Fast.tw4328697075774883827 PySem.W.Fast.tw93129132117342410 PySem.W.Fast.tw7057874960865805170 PySem.W.Fast.tw6869694533263656991 PySem.W.Fast.tw89073463820356996 PySem.W.Fast.tw12466709759006461402
  rw [laid_eq, scan_eq, ins_eq]
  revert w os f1 f2 r b
  refine rowed ?_ ?_ <;> (intro w os f1 f2 r b; cases b <;> kernel_rfl)
theorem tn_9_1_60 (w : World) : ∀ (os : OsState) (f1 f2 : Frame) (r : List Frame) (b : Bool), goQ w 20 ((S_9_1_60 b) w os) (loopAt PySem.W.SL.s10534883147002075979x15 ⟨[(.ref 84), (.ref 85)], []⟩ ⟨20, 9, 20, 52⟩ (f1 :: f2 :: r)) = some ((S_9_1_61 b) w os, (loopAt PySem.W.SL.s10534883147002075979x15 ⟨[(.ref 84), (.ref 85)], []⟩ ⟨20, 9, 20, 52⟩ (f1 :: f2 :: r))) := by
  intro os f1 f2 r b
  refine turn_of ?_
  delta PySem.W.Fast.tw14453038532278432606 PySem.W.Fast.tw5518019106960326183
  rw [hashed_eq]
  delta PySem.W.Fast.tw4328697075774883827 PySem.W.Fast.tw93129132117342410 PySem.W.Fast.tw7057874960865805170 PySem.W.Fast.tw6869694533263656991 PySem.W.Fast.tw89073463820356996 PySem.W.Fast.tw12466709759006461402
  rw [laid_eq, scan_eq, ins_eq]
  revert w os f1 f2 r b
  refine rowed ?_ ?_ <;> (intro w os f1 f2 r b; cases b <;> kernel_rfl)
theorem tn_9_1_61 (w : World) : ∀ (os : OsState) (f1 f2 : Frame) (r : List Frame) (b : Bool), goQ w 20 ((S_9_1_61 b) w os) (loopAt PySem.W.SL.s10534883147002075979x15 ⟨[(.ref 84), (.ref 85)], []⟩ ⟨20, 9, 20, 52⟩ (f1 :: f2 :: r)) = some ((S_9_1_62 b) w os, (loopAt PySem.W.SL.s10534883147002075979x15 ⟨[(.ref 84), (.ref 85)], []⟩ ⟨20, 9, 20, 52⟩ (f1 :: f2 :: r))) := by
  intro os f1 f2 r b
  refine turn_of ?_
  delta PySem.W.Fast.tw14453038532278432606 PySem.W.Fast.tw5518019106960326183
  rw [hashed_eq]
  delta PySem.W.Fast.tw4328697075774883827 PySem.W.Fast.tw93129132117342410 PySem.W.Fast.tw7057874960865805170 PySem.W.Fast.tw6869694533263656991 PySem.W.Fast.tw89073463820356996 PySem.W.Fast.tw12466709759006461402
  rw [laid_eq, scan_eq, ins_eq]
  revert w os f1 f2 r b
  refine rowed ?_ ?_ <;> (intro w os f1 f2 r b; cases b <;> kernel_rfl)
theorem tn_9_1_62 (w : World) : ∀ (os : OsState) (f1 f2 : Frame) (r : List Frame) (b : Bool), goQ w 20 ((S_9_1_62 b) w os) (loopAt PySem.W.SL.s10534883147002075979x15 ⟨[(.ref 84), (.ref 85)], []⟩ ⟨20, 9, 20, 52⟩ (f1 :: f2 :: r)) = some ((S_9_1_63 b) w os, (loopAt PySem.W.SL.s10534883147002075979x15 ⟨[(.ref 84), (.ref 85)], []⟩ ⟨20, 9, 20, 52⟩ (f1 :: f2 :: r))) := by
  intro os f1 f2 r b
  refine turn_of ?_
  delta PySem.W.Fast.tw14453038532278432606 PySem.W.Fast.tw5518019106960326183
  rw [hashed_eq]
  delta PySem.W.Fast.tw4328697075774883827 PySem.W.Fast.tw93129132117342410 PySem.W.Fast.tw7057874960865805170 PySem.W.Fast.tw6869694533263656991 PySem.W.Fast.tw89073463820356996 PySem.W.Fast.tw12466709759006461402
  rw [laid_eq, scan_eq, ins_eq]
  revert w os f1 f2 r b
  refine rowed ?_ ?_ <;> (intro w os f1 f2 r b; cases b <;> kernel_rfl)
theorem tn_9_1_63 (w : World) : ∀ (os : OsState) (f1 f2 : Frame) (r : List Frame) (b : Bool), goQ w 20 ((S_9_1_63 b) w os) (loopAt PySem.W.SL.s10534883147002075979x15 ⟨[(.ref 84), (.ref 85)], []⟩ ⟨20, 9, 20, 52⟩ (f1 :: f2 :: r)) = some ((S_9_1_64 b) w os, (loopAt PySem.W.SL.s10534883147002075979x15 ⟨[(.ref 84), (.ref 85)], []⟩ ⟨20, 9, 20, 52⟩ (f1 :: f2 :: r))) := by
  intro os f1 f2 r b
  refine turn_of ?_
  delta PySem.W.Fast.tw14453038532278432606 PySem.W.Fast.tw5518019106960326183
  rw [hashed_eq]
  delta PySem.W.Fast.tw4328697075774883827 PySem.W.Fast.tw93129132117342410 PySem.W.Fast.tw7057874960865805170 PySem.W.Fast.tw6869694533263656991 PySem.W.Fast.tw89073463820356996 PySem.W.Fast.tw12466709759006461402
  rw [laid_eq, scan_eq, ins_eq]
  revert w os f1 f2 r b
  refine rowed ?_ ?_ <;> (intro w os f1 f2 r b; cases b <;> kernel_rfl)
theorem tn_9_1_64 (w : World) : ∀ (os : OsState) (f1 f2 : Frame) (r : List Frame) (b : Bool), goQ w 20 ((S_9_1_64 b) w os) (loopAt PySem.W.SL.s10534883147002075979x15 ⟨[(.ref 84), (.ref 85)], []⟩ ⟨20, 9, 20, 52⟩ (f1 :: f2 :: r)) = some ((S_9_1_65 b) w os, (loopAt PySem.W.SL.s10534883147002075979x15 ⟨[(.ref 84), (.ref 85)], []⟩ ⟨20, 9, 20, 52⟩ (f1 :: f2 :: r))) := by
  intro os f1 f2 r b
  refine turn_of ?_
  delta PySem.W.Fast.tw14453038532278432606 PySem.W.Fast.tw5518019106960326183
  rw [hashed_eq]
  delta PySem.W.Fast.tw4328697075774883827 PySem.W.Fast.tw93129132117342410 PySem.W.Fast.tw7057874960865805170 PySem.W.Fast.tw6869694533263656991 PySem.W.Fast.tw89073463820356996 PySem.W.Fast.tw12466709759006461402
  rw [laid_eq, scan_eq, ins_eq]
  revert w os f1 f2 r b
  refine rowed ?_ ?_ <;> (intro w os f1 f2 r b; cases b <;> kernel_rfl)
theorem tn_9_1_65 (w : World) : ∀ (os : OsState) (f1 f2 : Frame) (r : List Frame) (b : Bool), goQ w 20 ((S_9_1_65 b) w os) (loopAt PySem.W.SL.s10534883147002075979x15 ⟨[(.ref 84), (.ref 85)], []⟩ ⟨20, 9, 20, 52⟩ (f1 :: f2 :: r)) = some ((S_9_1_66 b) w os, (loopAt PySem.W.SL.s10534883147002075979x15 ⟨[(.ref 84), (.ref 85)], []⟩ ⟨20, 9, 20, 52⟩ (f1 :: f2 :: r))) := by
  intro os f1 f2 r b
  refine turn_of ?_
  delta PySem.W.Fast.tw14453038532278432606 PySem.W.Fast.tw5518019106960326183
  rw [hashed_eq]
  delta PySem.W.Fast.tw4328697075774883827 PySem.W.Fast.tw93129132117342410 PySem.W.Fast.tw7057874960865805170 PySem.W.Fast.tw6869694533263656991 PySem.W.Fast.tw89073463820356996 PySem.W.Fast.tw12466709759006461402
  rw [laid_eq, scan_eq, ins_eq]
  revert w os f1 f2 r b
  refine rowed ?_ ?_ <;> (intro w os f1 f2 r b; cases b <;> kernel_rfl)
theorem tn_9_1_66 (w : World) : ∀ (os : OsState) (f1 f2 : Frame) (r : List Frame) (b : Bool), goQ w 20 ((S_9_1_66 b) w os) (loopAt PySem.W.SL.s10534883147002075979x15 ⟨[(.ref 84), (.ref 85)], []⟩ ⟨20, 9, 20, 52⟩ (f1 :: f2 :: r)) = some ((S_9_1_67 b) w os, (loopAt PySem.W.SL.s10534883147002075979x15 ⟨[(.ref 84), (.ref 85)], []⟩ ⟨20, 9, 20, 52⟩ (f1 :: f2 :: r))) := by
  intro os f1 f2 r b
  refine turn_of ?_
  delta PySem.W.Fast.tw14453038532278432606 PySem.W.Fast.tw5518019106960326183
  rw [hashed_eq]
  delta PySem.W.Fast.tw4328697075774883827 PySem.W.Fast.tw93129132117342410 PySem.W.Fast.tw7057874960865805170 PySem.W.Fast.tw6869694533263656991 PySem.W.Fast.tw89073463820356996 PySem.W.Fast.tw12466709759006461402
  rw [laid_eq, scan_eq, ins_eq]
  revert w os f1 f2 r b
  refine rowed ?_ ?_ <;> (intro w os f1 f2 r b; cases b <;> kernel_rfl)
theorem tn_9_1_67 (w : World) : ∀ (os : OsState) (f1 f2 : Frame) (r : List Frame) (b : Bool), goQ w 20 ((S_9_1_67 b) w os) (loopAt PySem.W.SL.s10534883147002075979x15 ⟨[(.ref 84), (.ref 85)], []⟩ ⟨20, 9, 20, 52⟩ (f1 :: f2 :: r)) = some ((S_9_1_68 b) w os, (loopAt PySem.W.SL.s10534883147002075979x15 ⟨[(.ref 84), (.ref 85)], []⟩ ⟨20, 9, 20, 52⟩ (f1 :: f2 :: r))) := by
  intro os f1 f2 r b
  refine turn_of ?_
  delta PySem.W.Fast.tw14453038532278432606 PySem.W.Fast.tw5518019106960326183
  rw [hashed_eq]
  delta PySem.W.Fast.tw4328697075774883827 PySem.W.Fast.tw93129132117342410 PySem.W.Fast.tw7057874960865805170 PySem.W.Fast.tw6869694533263656991 PySem.W.Fast.tw89073463820356996 PySem.W.Fast.tw12466709759006461402
  rw [laid_eq, scan_eq, ins_eq]
  revert w os f1 f2 r b
  refine rowed ?_ ?_ <;> (intro w os f1 f2 r b; cases b <;> kernel_rfl)
theorem tn_9_1_68 (w : World) : ∀ (os : OsState) (f1 f2 : Frame) (r : List Frame) (b : Bool), goQ w 20 ((S_9_1_68 b) w os) (loopAt PySem.W.SL.s10534883147002075979x15 ⟨[(.ref 84), (.ref 85)], []⟩ ⟨20, 9, 20, 52⟩ (f1 :: f2 :: r)) = some ((S_9_1_69 b) w os, (loopAt PySem.W.SL.s10534883147002075979x15 ⟨[(.ref 84), (.ref 85)], []⟩ ⟨20, 9, 20, 52⟩ (f1 :: f2 :: r))) := by
  intro os f1 f2 r b
  refine turn_of ?_
  delta PySem.W.Fast.tw14453038532278432606 PySem.W.Fast.tw5518019106960326183
  rw [hashed_eq]
  delta PySem.W.Fast.tw4328697075774883827 PySem.W.Fast.tw93129132117342410 PySem.W.Fast.tw7057874960865805170 PySem.W.Fast.tw6869694533263656991 PySem.W.Fast.tw89073463820356996 PySem.W.Fast.tw12466709759006461402
  rw [laid_eq, scan_eq, ins_eq]
  revert w os f1 f2 r b
  refine rowed ?_ ?_ <;> (intro w os f1 f2 r b; cases b <;> kernel_rfl)
theorem tn_9_1_69 (w : World) : ∀ (os : OsState) (f1 f2 : Frame) (r : List Frame) (b : Bool), goQ w 20 ((S_9_1_69 b) w os) (loopAt PySem.W.SL.s10534883147002075979x15 ⟨[(.ref 84), (.ref 85)], []⟩ ⟨20, 9, 20, 52⟩ (f1 :: f2 :: r)) = some ((S_9_1_70 b) w os, (loopAt PySem.W.SL.s10534883147002075979x15 ⟨[(.ref 84), (.ref 85)], []⟩ ⟨20, 9, 20, 52⟩ (f1 :: f2 :: r))) := by
  intro os f1 f2 r b
  refine turn_of ?_
  delta PySem.W.Fast.tw14453038532278432606 PySem.W.Fast.tw5518019106960326183
  rw [hashed_eq]
  delta PySem.W.Fast.tw4328697075774883827 PySem.W.Fast.tw93129132117342410 PySem.W.Fast.tw7057874960865805170 PySem.W.Fast.tw6869694533263656991 PySem.W.Fast.tw89073463820356996 PySem.W.Fast.tw12466709759006461402
  rw [laid_eq, scan_eq, ins_eq]
  revert w os f1 f2 r b
  refine rowed ?_ ?_ <;> (intro w os f1 f2 r b; cases b <;> kernel_rfl)
theorem tn_9_1_70 (w : World) : ∀ (os : OsState) (f1 f2 : Frame) (r : List Frame) (b : Bool), goQ w 20 ((S_9_1_70 b) w os) (loopAt PySem.W.SL.s10534883147002075979x15 ⟨[(.ref 84), (.ref 85)], []⟩ ⟨20, 9, 20, 52⟩ (f1 :: f2 :: r)) = some ((S_9_1_71 b) w os, (loopAt PySem.W.SL.s10534883147002075979x15 ⟨[(.ref 84), (.ref 85)], []⟩ ⟨20, 9, 20, 52⟩ (f1 :: f2 :: r))) := by
  intro os f1 f2 r b
  refine turn_of ?_
  delta PySem.W.Fast.tw14453038532278432606 PySem.W.Fast.tw5518019106960326183
  rw [hashed_eq]
  delta PySem.W.Fast.tw4328697075774883827 PySem.W.Fast.tw93129132117342410 PySem.W.Fast.tw7057874960865805170 PySem.W.Fast.tw6869694533263656991 PySem.W.Fast.tw89073463820356996 PySem.W.Fast.tw12466709759006461402
  rw [laid_eq, scan_eq, ins_eq]
  revert w os f1 f2 r b
  refine rowed ?_ ?_ <;> (intro w os f1 f2 r b; cases b <;> kernel_rfl)
theorem tn_9_1_71 (w : World) : ∀ (os : OsState) (f1 f2 : Frame) (r : List Frame) (b : Bool), goQ w 20 ((S_9_1_71 b) w os) (loopAt PySem.W.SL.s10534883147002075979x15 ⟨[(.ref 84), (.ref 85)], []⟩ ⟨20, 9, 20, 52⟩ (f1 :: f2 :: r)) = some ((S_9_1_72 b) w os, (loopAt PySem.W.SL.s10534883147002075979x15 ⟨[(.ref 84), (.ref 85)], []⟩ ⟨20, 9, 20, 52⟩ (f1 :: f2 :: r))) := by
  intro os f1 f2 r b
  refine turn_of ?_
  delta PySem.W.Fast.tw14453038532278432606 PySem.W.Fast.tw5518019106960326183
  rw [hashed_eq]
  delta PySem.W.Fast.tw4328697075774883827 PySem.W.Fast.tw93129132117342410 PySem.W.Fast.tw7057874960865805170 PySem.W.Fast.tw6869694533263656991 PySem.W.Fast.tw89073463820356996 PySem.W.Fast.tw12466709759006461402
  rw [laid_eq, scan_eq, ins_eq]
  revert w os f1 f2 r b
  refine rowed ?_ ?_ <;> (intro w os f1 f2 r b; cases b <;> kernel_rfl)
theorem tn_9_1_72 (w : World) : ∀ (os : OsState) (f1 f2 : Frame) (r : List Frame) (b : Bool), goQ w 20 ((S_9_1_72 b) w os) (loopAt PySem.W.SL.s10534883147002075979x15 ⟨[(.ref 84), (.ref 85)], []⟩ ⟨20, 9, 20, 52⟩ (f1 :: f2 :: r)) = some ((S_9_1_73 b) w os, (loopAt PySem.W.SL.s10534883147002075979x15 ⟨[(.ref 84), (.ref 85)], []⟩ ⟨20, 9, 20, 52⟩ (f1 :: f2 :: r))) := by
  intro os f1 f2 r b
  refine turn_of ?_
  delta PySem.W.Fast.tw14453038532278432606 PySem.W.Fast.tw5518019106960326183
  rw [hashed_eq]
  delta PySem.W.Fast.tw4328697075774883827 PySem.W.Fast.tw93129132117342410 PySem.W.Fast.tw7057874960865805170 PySem.W.Fast.tw6869694533263656991 PySem.W.Fast.tw89073463820356996 PySem.W.Fast.tw12466709759006461402
  rw [laid_eq, scan_eq, ins_eq]
  revert w os f1 f2 r b
  refine rowed ?_ ?_ <;> (intro w os f1 f2 r b; cases b <;> kernel_rfl)
theorem tn_9_1_73 (w : World) : ∀ (os : OsState) (f1 f2 : Frame) (r : List Frame) (b : Bool), goQ w 20 ((S_9_1_73 b) w os) (loopAt PySem.W.SL.s10534883147002075979x15 ⟨[(.ref 84), (.ref 85)], []⟩ ⟨20, 9, 20, 52⟩ (f1 :: f2 :: r)) = some ((S_9_1_74 b) w os, (loopAt PySem.W.SL.s10534883147002075979x15 ⟨[(.ref 84), (.ref 85)], []⟩ ⟨20, 9, 20, 52⟩ (f1 :: f2 :: r))) := by
  intro os f1 f2 r b
  refine turn_of ?_
  delta PySem.W.Fast.tw14453038532278432606 PySem.W.Fast.tw5518019106960326183
  rw [hashed_eq]
  delta PySem.W.Fast.tw4328697075774883827 PySem.W.Fast.tw93129132117342410 PySem.W.Fast.tw7057874960865805170 PySem.W.Fast.tw6869694533263656991 PySem.W.Fast.tw89073463820356996 PySem.W.Fast.tw12466709759006461402
  rw [laid_eq, scan_eq, ins_eq]
  revert w os f1 f2 r b
  refine rowed ?_ ?_ <;> (intro w os f1 f2 r b; cases b <;> kernel_rfl)
theorem tn_9_1_74 (w : World) : ∀ (os : OsState) (f1 f2 : Frame) (r : List Frame) (b : Bool), goQ w 20 ((S_9_1_74 b) w os) (loopAt PySem.W.SL.s10534883147002075979x15 ⟨[(.ref 84), (.ref 85)], []⟩ ⟨20, 9, 20, 52⟩ (f1 :: f2 :: r)) = some ((S_9_1_75 b) w os, (loopAt PySem.W.SL.s10534883147002075979x15 ⟨[(.ref 84), (.ref 85)], []⟩ ⟨20, 9, 20, 52⟩ (f1 :: f2 :: r))) := by
  intro os f1 f2 r b
  refine turn_of ?_
  delta PySem.W.Fast.tw14453038532278432606 PySem.W.Fast.tw5518019106960326183
  rw [hashed_eq]
  delta PySem.W.Fast.tw4328697075774883827 PySem.W.Fast.tw93129132117342410 PySem.W.Fast.tw7057874960865805170 PySem.W.Fast.tw6869694533263656991 PySem.W.Fast.tw89073463820356996 PySem.W.Fast.tw12466709759006461402
  rw [laid_eq, scan_eq, ins_eq]
  revert w os f1 f2 r b
  refine rowed ?_ ?_ <;> (intro w os f1 f2 r b; cases b <;> kernel_rfl)
theorem tn_9_1_75 (w : World) : ∀ (os : OsState) (f1 f2 : Frame) (r : List Frame) (b : Bool), goQ w 20 ((S_9_1_75 b) w os) (loopAt PySem.W.SL.s10534883147002075979x15 ⟨[(.ref 84), (.ref 85)], []⟩ ⟨20, 9, 20, 52⟩ (f1 :: f2 :: r)) = some ((S_9_1_76 b) w os, (loopAt PySem.W.SL.s10534883147002075979x15 ⟨[(.ref 84), (.ref 85)], []⟩ ⟨20, 9, 20, 52⟩ (f1 :: f2 :: r))) := by
  intro os f1 f2 r b
  refine turn_of ?_
  delta PySem.W.Fast.tw14453038532278432606 PySem.W.Fast.tw5518019106960326183
  rw [hashed_eq]
  delta PySem.W.Fast.tw4328697075774883827 PySem.W.Fast.tw93129132117342410 PySem.W.Fast.tw7057874960865805170 PySem.W.Fast.tw6869694533263656991 PySem.W.Fast.tw89073463820356996 PySem.W.Fast.tw12466709759006461402
  rw [laid_eq, scan_eq, ins_eq]
  revert w os f1 f2 r b
  refine rowed ?_ ?_ <;> (intro w os f1 f2 r b; cases b <;> kernel_rfl)
theorem tn_9_1_76 (w : World) : ∀ (os : OsState) (f1 f2 : Frame) (r : List Frame) (b : Bool), goQ w 22 ((S_9_1_76 b) w os) (loopAt PySem.W.SL.s10534883147002075979x15 ⟨[(.ref 84), (.ref 85)], []⟩ ⟨20, 9, 20, 52⟩ (f1 :: f2 :: r)) = some ((S_9_1_77 b) w os, (loopAt PySem.W.SL.s10534883147002075979x15 ⟨[(.ref 84), (.ref 85)], []⟩ ⟨20, 9, 20, 52⟩ (f1 :: f2 :: r))) := by
  intro os f1 f2 r b
  refine turn_of ?_
  delta PySem.W.Fast.tw14453038532278432606 PySem.W.Fast.tw5518019106960326183
  rw [hashed_eq]
  delta PySem.W.Fast.tw4328697075774883827 PySem.W.Fast.tw93129132117342410 PySem.W.Fast.tw7057874960865805170 PySem.W.Fast.tw6869694533263656991 PySem.W.Fast.tw89073463820356996 PySem.W.Fast.tw12466709759006461402
  rw [laid_eq, scan_eq, ins_eq]
  revert w os f1 f2 r b
  refine rowed ?_ ?_ <;> (intro w os f1 f2 r b; cases b <;> kernel_rfl)
theorem tn_9_1_77 (w : World) : ∀ (os : OsState) (f1 f2 : Frame) (r : List Frame) (b : Bool), goQ w 20 ((S_9_1_77 b) w os) (loopAt PySem.W.SL.s10534883147002075979x15 ⟨[(.ref 84), (.ref 85)], []⟩ ⟨20, 9, 20, 52⟩ (f1 :: f2 :: r)) = some ((S_9_1_78 b) w os, (loopAt PySem.W.SL.s10534883147002075979x15 ⟨[(.ref 84), (.ref 85)], []⟩ ⟨20, 9, 20, 52⟩ (f1 :: f2 :: r))) := by
  intro os f1 f2 r b
  refine turn_of ?_
  delta PySem.W.Fast.tw14453038532278432606 PySem.W.Fast.tw5518019106960326183
  rw [hashed_eq]
  delta PySem.W.Fast.tw4328697075774883827 PySem.W.Fast.tw93129132117342410 PySem.W.Fast.tw7057874960865805170 PySem.W.Fast.tw6869694533263656991 PySem.W.Fast.tw89073463820356996 PySem.W.Fast.tw12466709759006461402
  rw [laid_eq, scan_eq, ins_eq]
  revert w os f1 f2 r b
  refine rowed ?_ ?_ <;> (intro w os f1 f2 r b; cases b <;> kernel_rfl)
theorem tn_9_1_78 (w : World) : ∀ (os : OsState) (f1 f2 : Frame) (r : List Frame) (b : Bool), goQ w 20 ((S_9_1_78 b) w os) (loopAt PySem.W.SL.s10534883147002075979x15 ⟨[(.ref 84), (.ref 85)], []⟩ ⟨20, 9, 20, 52⟩ (f1 :: f2 :: r)) = some ((S_9_1_79 b) w os, (loopAt PySem.W.SL.s10534883147002075979x15 ⟨[(.ref 84), (.ref 85)], []⟩ ⟨20, 9, 20, 52⟩ (f1 :: f2 :: r))) := by
  intro os f1 f2 r b
  refine turn_of ?_
  delta PySem.W.Fast.tw14453038532278432606 PySem.W.Fast.tw5518019106960326183
  rw [hashed_eq]
  delta PySem.W.Fast.tw4328697075774883827 PySem.W.Fast.tw93129132117342410 PySem.W.Fast.tw7057874960865805170 PySem.W.Fast.tw6869694533263656991 PySem.W.Fast.tw89073463820356996 PySem.W.Fast.tw12466709759006461402
  rw [laid_eq, scan_eq, ins_eq]
  revert w os f1 f2 r b
  refine rowed ?_ ?_ <;> (intro w os f1 f2 r b; cases b <;> kernel_rfl)
theorem tn_9_1_79 (w : World) : ∀ (os : OsState) (f1 f2 : Frame) (r : List Frame) (b : Bool), goQ w 20 ((S_9_1_79 b) w os) (loopAt PySem.W.SL.s10534883147002075979x15 ⟨[(.ref 84), (.ref 85)], []⟩ ⟨20, 9, 20, 52⟩ (f1 :: f2 :: r)) = some ((S_9_1_80 b) w os, (loopAt PySem.W.SL.s10534883147002075979x15 ⟨[(.ref 84), (.ref 85)], []⟩ ⟨20, 9, 20, 52⟩ (f1 :: f2 :: r))) := by
  intro os f1 f2 r b
  refine turn_of ?_
  delta PySem.W.Fast.tw14453038532278432606 PySem.W.Fast.tw5518019106960326183
  rw [hashed_eq]
  delta PySem.W.Fast.tw4328697075774883827 PySem.W.Fast.tw93129132117342410 PySem.W.Fast.tw7057874960865805170 PySem.W.Fast.tw6869694533263656991 PySem.W.Fast.tw89073463820356996 PySem.W.Fast.tw12466709759006461402
  rw [laid_eq, scan_eq, ins_eq]
  revert w os f1 f2 r b
  refine rowed ?_ ?_ <;> (intro w os f1 f2 r b; cases b <;> kernel_rfl)
theorem tn_9_1_80 (w : World) : ∀ (os : OsState) (f1 f2 : Frame) (r : List Frame) (b : Bool), goQ w 20 ((S_9_1_80 b) w os) (loopAt PySem.W.SL.s10534883147002075979x15 ⟨[(.ref 84), (.ref 85)], []⟩ ⟨20, 9, 20, 52⟩ (f1 :: f2 :: r)) = some ((S_9_1_81 b) w os, (loopAt PySem.W.SL.s10534883147002075979x15 ⟨[(.ref 84), (.ref 85)], []⟩ ⟨20, 9, 20, 52⟩ (f1 :: f2 :: r))) := by
  intro os f1 f2 r b
  refine turn_of ?_
  delta PySem.W.Fast.tw14453038532278432606 PySem.W.Fast.tw5518019106960326183
  rw [hashed_eq]
  delta PySem.W.Fast.tw4328697075774883827 PySem.W.Fast.tw93129132117342410 PySem.W.Fast.tw7057874960865805170 PySem.W.Fast.tw6869694533263656991 PySem.W.Fast.tw89073463820356996 PySem.W.Fast.tw12466709759006461402
  rw [laid_eq, scan_eq, ins_eq]
  revert w os f1 f2 r b
  refine rowed ?_ ?_ <;> (intro w os f1 f2 r b; cases b <;> kernel_rfl)
theorem tn_9_1_81 (w : World) : ∀ (os : OsState) (f1 f2 : Frame) (r : List Frame) (b : Bool), goQ w 20 ((S_9_1_81 b) w os) (loopAt PySem.W.SL.s10534883147002075979x15 ⟨[(.ref 84), (.ref 85)], []⟩ ⟨20, 9, 20, 52⟩ (f1 :: f2 :: r)) = some ((S_9_1_82 b) w os, (loopAt PySem.W.SL.s10534883147002075979x15 ⟨[(.ref 84), (.ref 85)], []⟩ ⟨20, 9, 20, 52⟩ (f1 :: f2 :: r))) := by
  intro os f1 f2 r b
  refine turn_of ?_
  delta PySem.W.Fast.tw14453038532278432606 PySem.W.Fast.tw5518019106960326183
  rw [hashed_eq]
  delta PySem.W.Fast.tw4328697075774883827 PySem.W.Fast.tw93129132117342410 PySem.W.Fast.tw7057874960865805170 PySem.W.Fast.tw6869694533263656991 PySem.W.Fast.tw89073463820356996 PySem.W.Fast.tw12466709759006461402
  rw [laid_eq, scan_eq, ins_eq]
  revert w os f1 f2 r b
  refine rowed ?_ ?_ <;> (intro w os f1 f2 r b; cases b <;> kernel_rfl)
theorem tn_9_1_82 (w : World) : ∀ (os : OsState) (f1 f2 : Frame) (r : List Frame) (b : Bool), goQ w 20 ((S_9_1_82 b) w os) (loopAt PySem.W.SL.s10534883147002075979x15 ⟨[(.ref 84), (.ref 85)], []⟩ ⟨20, 9, 20, 52⟩ (f1 :: f2 :: r)) = some ((S_9_1_83 b) w os, (loopAt PySem.W.SL.s10534883147002075979x15 ⟨[(.ref 84), (.ref 85)], []⟩ ⟨20, 9, 20, 52⟩ (f1 :: f2 :: r))) := by
  intro os f1 f2 r b
  refine turn_of ?_
  delta PySem.W.Fast.tw14453038532278432606 PySem.W.Fast.tw5518019106960326183
  rw [hashed_eq]
  delta PySem.W.Fast.tw4328697075774883827 PySem.W.Fast.tw93129132117342410 PySem.W.Fast.tw7057874960865805170 PySem.W.Fast.tw6869694533263656991 PySem.W.Fast.tw89073463820356996 PySem.W.Fast.tw12466709759006461402
  rw [laid_eq, scan_eq, ins_eq]
  revert w os f1 f2 r b
  refine rowed ?_ ?_ <;> (intro w os f1 f2 r b; cases b <;> kernel_rfl)
theorem tn_9_1_83 (w : World) : ∀ (os : OsState) (f1 f2 : Frame) (r : List Frame) (b : Bool), goQ w 20 ((S_9_1_83 b) w os) (loopAt PySem.W.SL.s10534883147002075979x15 ⟨[(.ref 84), (.ref 85)], []⟩ ⟨20, 9, 20, 52⟩ (f1 :: f2 :: r)) = some ((S_9_1_84 b) w os, (loopAt PySem.W.SL.s10534883147002075979x15 ⟨[(.ref 84), (.ref 85)], []⟩ ⟨20, 9, 20, 52⟩ (f1 :: f2 :: r))) := by
  intro os f1 f2 r b
  refine turn_of ?_
  delta PySem.W.Fast.tw14453038532278432606 PySem.W.Fast.tw5518019106960326183
  rw [hashed_eq]
  delta PySem.W.Fast.tw4328697075774883827 PySem.W.Fast.tw93129132117342410 PySem.W.Fast.tw7057874960865805170 PySem.W.Fast.tw6869694533263656991 PySem.W.Fast.tw89073463820356996 PySem.W.Fast.tw12466709759006461402
  rw [laid_eq, scan_eq, ins_eq]
  revert w os f1 f2 r b
  refine rowed ?_ ?_ <;> (intro w os f1 f2 r b; cases b <;> kernel_rfl)
theorem tn_9_1_84 (w : World) : ∀ (os : OsState) (f1 f2 : Frame) (r : List Frame) (b : Bool), goQ w 20 ((S_9_1_84 b) w os) (loopAt PySem.W.SL.s10534883147002075979x15 ⟨[(.ref 84), (.ref 85)], []⟩ ⟨20, 9, 20, 52⟩ (f1 :: f2 :: r)) = some ((S_9_1_85 b) w os, (loopAt PySem.W.SL.s10534883147002075979x15 ⟨[(.ref 84), (.ref 85)], []⟩ ⟨20, 9, 20, 52⟩ (f1 :: f2 :: r))) := by
  intro os f1 f2 r b
  refine turn_of ?_
  delta PySem.W.Fast.tw14453038532278432606 PySem.W.Fast.tw5518019106960326183
  rw [hashed_eq]
  delta PySem.W.Fast.tw4328697075774883827 PySem.W.Fast.tw93129132117342410 PySem.W.Fast.tw7057874960865805170 PySem.W.Fast.tw6869694533263656991 PySem.W.Fast.tw89073463820356996 PySem.W.Fast.tw12466709759006461402
  rw [laid_eq, scan_eq, ins_eq]
  revert w os f1 f2 r b
  refine rowed ?_ ?_ <;> (intro w os f1 f2 r b; cases b <;> kernel_rfl)
theorem tn_9_1_85 (w : World) : ∀ (os : OsState) (f1 f2 : Frame) (r : List Frame) (b : Bool), goQ w 20 ((S_9_1_85 b) w os) (loopAt PySem.W.SL.s10534883147002075979x15 ⟨[(.ref 84), (.ref 85)], []⟩ ⟨20, 9, 20, 52⟩ (f1 :: f2 :: r)) = some ((S_9_1_86 b) w os, (loopAt PySem.W.SL.s10534883147002075979x15 ⟨[(.ref 84), (.ref 85)], []⟩ ⟨20, 9, 20, 52⟩ (f1 :: f2 :: r))) := by
  intro os f1 f2 r b
  refine turn_of ?_
  delta PySem.W.Fast.tw14453038532278432606 PySem.W.Fast.tw5518019106960326183
  rw [hashed_eq]
  delta PySem.W.Fast.tw4328697075774883827 PySem.W.Fast.tw93129132117342410 PySem.W.Fast.tw7057874960865805170 PySem.W.Fast.tw6869694533263656991 PySem.W.Fast.tw89073463820356996 PySem.W.Fast.tw12466709759006461402
  rw [laid_eq, scan_eq, ins_eq]
  revert w os f1 f2 r b
  refine rowed ?_ ?_ <;> (intro w os f1 f2 r b; cases b <;> kernel_rfl)
theorem tn_9_1_86 (w : World) : ∀ (os : OsState) (f1 f2 : Frame) (r : List Frame) (b : Bool), goQ w 20 ((S_9_1_86 b) w os) (loopAt PySem.W.SL.s10534883147002075979x15 ⟨[(.ref 84), (.ref 85)], []⟩ ⟨20, 9, 20, 52⟩ (f1 :: f2 :: r)) = some ((S_9_1_87 b) w os, (loopAt PySem.W.SL.s10534883147002075979x15 ⟨[(.ref 84), (.ref 85)], []⟩ ⟨20, 9, 20, 52⟩ (f1 :: f2 :: r))) := by
  intro os f1 f2 r b
  refine turn_of ?_
  delta PySem.W.Fast.tw14453038532278432606 PySem.W.Fast.tw5518019106960326183
  rw [hashed_eq]
  delta PySem.W.Fast.tw4328697075774883827 PySem.W.Fast.tw93129132117342410 PySem.W.Fast.tw7057874960865805170 PySem.W.Fast.tw6869694533263656991 PySem.W.Fast.tw89073463820356996 PySem.W.Fast.tw12466709759006461402
  rw [laid_eq, scan_eq, ins_eq]
  revert w os f1 f2 r b
  refine rowed ?_ ?_ <;> (intro w os f1 f2 r b; cases b <;> kernel_rfl)
theorem tn_9_1_87 (w : World) : ∀ (os : OsState) (f1 f2 : Frame) (r : List Frame) (b : Bool), goQ w 20 ((S_9_1_87 b) w os) (loopAt PySem.W.SL.s10534883147002075979x15 ⟨[(.ref 84), (.ref 85)], []⟩ ⟨20, 9, 20, 52⟩ (f1 :: f2 :: r)) = some ((S_9_1_88 b) w os, (loopAt PySem.W.SL.s10534883147002075979x15 ⟨[(.ref 84), (.ref 85)], []⟩ ⟨20, 9, 20, 52⟩ (f1 :: f2 :: r))) := by
  intro os f1 f2 r b
  refine turn_of ?_
  delta PySem.W.Fast.tw14453038532278432606 PySem.W.Fast.tw5518019106960326183
  rw [hashed_eq]
  delta PySem.W.Fast.tw4328697075774883827 PySem.W.Fast.tw93129132117342410 PySem.W.Fast.tw7057874960865805170 PySem.W.Fast.tw6869694533263656991 PySem.W.Fast.tw89073463820356996 PySem.W.Fast.tw12466709759006461402
  rw [laid_eq, scan_eq, ins_eq]
  revert w os f1 f2 r b
  refine rowed ?_ ?_ <;> (intro w os f1 f2 r b; cases b <;> kernel_rfl)
theorem tn_9_1_88 (w : World) : ∀ (os : OsState) (f1 f2 : Frame) (r : List Frame) (b : Bool), goQ w 20 ((S_9_1_88 b) w os) (loopAt PySem.W.SL.s10534883147002075979x15 ⟨[(.ref 84), (.ref 85)], []⟩ ⟨20, 9, 20, 52⟩ (f1 :: f2 :: r)) = some ((S_9_1_89 b) w os, (loopAt PySem.W.SL.s10534883147002075979x15 ⟨[(.ref 84), (.ref 85)], []⟩ ⟨20, 9, 20, 52⟩ (f1 :: f2 :: r))) := by
  intro os f1 f2 r b
  refine turn_of ?_
  delta PySem.W.Fast.tw14453038532278432606 PySem.W.Fast.tw5518019106960326183
  rw [hashed_eq]
  delta PySem.W.Fast.tw4328697075774883827 PySem.W.Fast.tw93129132117342410 PySem.W.Fast.tw7057874960865805170 PySem.W.Fast.tw6869694533263656991 PySem.W.Fast.tw89073463820356996 PySem.W.Fast.tw12466709759006461402
  rw [laid_eq, scan_eq, ins_eq]
  revert w os f1 f2 r b
  refine rowed ?_ ?_ <;> (intro w os f1 f2 r b; cases b <;> kernel_rfl)
theorem tn_9_1_89 (w : World) : ∀ (os : OsState) (f1 f2 : Frame) (r : List Frame) (b : Bool), goQ w 20 ((S_9_1_89 b) w os) (loopAt PySem.W.SL.s10534883147002075979x15 ⟨[(.ref 84), (.ref 85)], []⟩ ⟨20, 9, 20, 52⟩ (f1 :: f2 :: r)) = some ((S_9_1_90 b) w os, (loopAt PySem.W.SL.s10534883147002075979x15 ⟨[(.ref 84), (.ref 85)], []⟩ ⟨20, 9, 20, 52⟩ (f1 :: f2 :: r))) := by
  intro os f1 f2 r b
  refine turn_of ?_
  delta PySem.W.Fast.tw14453038532278432606 PySem.W.Fast.tw5518019106960326183
  rw [hashed_eq]
  delta PySem.W.Fast.tw4328697075774883827 PySem.W.Fast.tw93129132117342410 PySem.W.Fast.tw7057874960865805170 PySem.W.Fast.tw6869694533263656991 PySem.W.Fast.tw89073463820356996 PySem.W.Fast.tw12466709759006461402
  rw [laid_eq, scan_eq, ins_eq]
  revert w os f1 f2 r b
  refine rowed ?_ ?_ <;> (intro w os f1 f2 r b; cases b <;> kernel_rfl)
theorem tn_9_1_90 (w : World) : ∀ (os : OsState) (f1 f2 : Frame) (r : List Frame) (b : Bool), goQ w 20 ((S_9_1_90 b) w os) (loopAt PySem.W.SL.s10534883147002075979x15 ⟨[(.ref 84), (.ref 85)], []⟩ ⟨20, 9, 20, 52⟩ (f1 :: f2 :: r)) = some ((S_9_1_91 b) w os, (loopAt PySem.W.SL.s10534883147002075979x15 ⟨[(.ref 84), (.ref 85)], []⟩ ⟨20, 9, 20, 52⟩ (f1 :: f2 :: r))) := by
  intro os f1 f2 r b
  refine turn_of ?_
  delta PySem.W.Fast.tw14453038532278432606 PySem.W.Fast.tw5518019106960326183
  rw [hashed_eq]
  delta PySem.W.Fast.tw4328697075774883827 PySem.W.Fast.tw93129132117342410 PySem.W.Fast.tw7057874960865805170 PySem.W.Fast.tw6869694533263656991 PySem.W.Fast.tw89073463820356996 PySem.W.Fast.tw12466709759006461402
  rw [laid_eq, scan_eq, ins_eq]
  revert w os f1 f2 r b
  refine rowed ?_ ?_ <;> (intro w os f1 f2 r b; cases b <;> kernel_rfl)
theorem tn_9_1_91 (w : World) : ∀ (os : OsState) (f1 f2 : Frame) (r : List Frame) (b : Bool), goQ w 20 ((S_9_1_91 b) w os) (loopAt PySem.W.SL.s10534883147002075979x15 ⟨[(.ref 84), (.ref 85)], []⟩ ⟨20, 9, 20, 52⟩ (f1 :: f2 :: r)) = some ((S_9_1_92 b) w os, (loopAt PySem.W.SL.s10534883147002075979x15 ⟨[(.ref 84), (.ref 85)], []⟩ ⟨20, 9, 20, 52⟩ (f1 :: f2 :: r))) := by
  intro os f1 f2 r b
  refine turn_of ?_
  delta PySem.W.Fast.tw14453038532278432606 PySem.W.Fast.tw5518019106960326183
  rw [hashed_eq]
  delta PySem.W.Fast.tw4328697075774883827 PySem.W.Fast.tw93129132117342410 PySem.W.Fast.tw7057874960865805170 PySem.W.Fast.tw6869694533263656991 PySem.W.Fast.tw89073463820356996 PySem.W.Fast.tw12466709759006461402
  rw [laid_eq, scan_eq, ins_eq]
  revert w os f1 f2 r b
  refine rowed ?_ ?_ <;> (intro w os f1 f2 r b; cases b <;> kernel_rfl)
theorem tn_9_1_92 (w : World) : ∀ (os : OsState) (f1 f2 : Frame) (r : List Frame) (b : Bool), goQ w 20 ((S_9_1_92 b) w os) (loopAt PySem.W.SL.s10534883147002075979x15 ⟨[(.ref 84), (.ref 85)], []⟩ ⟨20, 9, 20, 52⟩ (f1 :: f2 :: r)) = some ((S_9_1_93 b) w os, (loopAt PySem.W.SL.s10534883147002075979x15 ⟨[(.ref 84), (.ref 85)], []⟩ ⟨20, 9, 20, 52⟩ (f1 :: f2 :: r))) := by
  intro os f1 f2 r b
  refine turn_of ?_
  delta PySem.W.Fast.tw14453038532278432606 PySem.W.Fast.tw5518019106960326183
  rw [hashed_eq]
  delta PySem.W.Fast.tw4328697075774883827 PySem.W.Fast.tw93129132117342410 PySem.W.Fast.tw7057874960865805170 PySem.W.Fast.tw6869694533263656991 PySem.W.Fast.tw89073463820356996 PySem.W.Fast.tw12466709759006461402
  rw [laid_eq, scan_eq, ins_eq]
  revert w os f1 f2 r b
  refine rowed ?_ ?_ <;> (intro w os f1 f2 r b; cases b <;> kernel_rfl)
theorem tn_9_1_93 (w : World) : ∀ (os : OsState) (f1 f2 : Frame) (r : List Frame) (b : Bool), goQ w 20 ((S_9_1_93 b) w os) (loopAt PySem.W.SL.s10534883147002075979x15 ⟨[(.ref 84), (.ref 85)], []⟩ ⟨20, 9, 20, 52⟩ (f1 :: f2 :: r)) = some ((S_9_1_94 b) w os, (loopAt PySem.W.SL.s10534883147002075979x15 ⟨[(.ref 84), (.ref 85)], []⟩ ⟨20, 9, 20, 52⟩ (f1 :: f2 :: r))) := by
  intro os f1 f2 r b
  refine turn_of ?_
  delta PySem.W.Fast.tw14453038532278432606 PySem.W.Fast.tw5518019106960326183
  rw [hashed_eq]
  delta PySem.W.Fast.tw4328697075774883827 PySem.W.Fast.tw93129132117342410 PySem.W.Fast.tw7057874960865805170 PySem.W.Fast.tw6869694533263656991 PySem.W.Fast.tw89073463820356996 PySem.W.Fast.tw12466709759006461402
  rw [laid_eq, scan_eq, ins_eq]
  revert w os f1 f2 r b
  refine rowed ?_ ?_ <;> (intro w os f1 f2 r b; cases b <;> kernel_rfl)
theorem tn_9_1_94 (w : World) : ∀ (os : OsState) (f1 f2 : Frame) (r : List Frame) (b : Bool), goQ w 20 ((S_9_1_94 b) w os) (loopAt PySem.W.SL.s10534883147002075979x15 ⟨[(.ref 84), (.ref 85)], []⟩ ⟨20, 9, 20, 52⟩ (f1 :: f2 :: r)) = some ((S_9_1_95 b) w os, (loopAt PySem.W.SL.s10534883147002075979x15 ⟨[(.ref 84), (.ref 85)], []⟩ ⟨20, 9, 20, 52⟩ (f1 :: f2 :: r))) := by
  intro os f1 f2 r b
  refine turn_of ?_
  delta PySem.W.Fast.tw14453038532278432606 PySem.W.Fast.tw5518019106960326183
  rw [hashed_eq]
  delta PySem.W.Fast.tw4328697075774883827 PySem.W.Fast.tw93129132117342410 PySem.W.Fast.tw7057874960865805170 PySem.W.Fast.tw6869694533263656991 PySem.W.Fast.tw89073463820356996 PySem.W.Fast.tw12466709759006461402
  rw [laid_eq, scan_eq, ins_eq]
  revert w os f1 f2 r b
  refine rowed ?_ ?_ <;> (intro w os f1 f2 r b; cases b <;> kernel_rfl)
theorem tn_9_1_95 (w : World) : ∀ (os : OsState) (f1 f2 : Frame) (r : List Frame) (b : Bool), goQ w 20 ((S_9_1_95 b) w os) (loopAt PySem.W.SL.s10534883147002075979x15 ⟨[(.ref 84), (.ref 85)], []⟩ ⟨20, 9, 20, 52⟩ (f1 :: f2 :: r)) = some ((S_9_1_96 b) w os, (loopAt PySem.W.SL.s10534883147002075979x15 ⟨[(.ref 84), (.ref 85)], []⟩ ⟨20, 9, 20, 52⟩ (f1 :: f2 :: r))) := by
  intro os f1 f2 r b
  refine turn_of ?_
  delta PySem.W.Fast.tw14453038532278432606 PySem.W.Fast.tw5518019106960326183
  rw [hashed_eq]
  delta PySem.W.Fast.tw4328697075774883827 PySem.W.Fast.tw93129132117342410 PySem.W.Fast.tw7057874960865805170 PySem.W.Fast.tw6869694533263656991 PySem.W.Fast.tw89073463820356996 PySem.W.Fast.tw12466709759006461402
  rw [laid_eq, scan_eq, ins_eq]
  revert w os f1 f2 r b
  refine rowed ?_ ?_ <;> (intro w os f1 f2 r b; cases b <;> kernel_rfl)
theorem tn_9_1_96 (w : World) : ∀ (os : OsState) (f1 f2 : Frame) (r : List Frame) (b : Bool), goQ w 20 ((S_9_1_96 b) w os) (loopAt PySem.W.SL.s10534883147002075979x15 ⟨[(.ref 84), (.ref 85)], []⟩ ⟨20, 9, 20, 52⟩ (f1 :: f2 :: r)) = some ((S_9_1_97 b) w os, (loopAt PySem.W.SL.s10534883147002075979x15 ⟨[(.ref 84), (.ref 85)], []⟩ ⟨20, 9, 20, 52⟩ (f1 :: f2 :: r))) := by
  intro os f1 f2 r b
  refine turn_of ?_
  delta PySem.W.Fast.tw14453038532278432606 PySem.W.Fast.tw5518019106960326183
  rw [hashed_eq]
  delta PySem.W.Fast.tw4328697075774883827 PySem.W.Fast.tw93129132117342410 PySem.W.Fast.tw7057874960865805170 PySem.W.Fast.tw6869694533263656991 PySem.W.Fast.tw89073463820356996 PySem.W.Fast.tw12466709759006461402
  rw [laid_eq, scan_eq, ins_eq]
  revert w os f1 f2 r b
  refine rowed ?_ ?_ <;> (intro w os f1 f2 r b; cases b <;> kernel_rfl)
theorem pc_9 (w : World) : ∀ (os : OsState), runQ w 27 ((S_9_1_97 (ledOf w.params)) w os) (loopAt PySem.W.SL.s10534883147002075979x15 ⟨[(.ref 84), (.ref 85)], []⟩ ⟨20, 9, 20, 52⟩ (stk_9_1 w os)) = some (.next, S_10 w os, cE, ⟨20, 0, 20, 6⟩) := byRow2 "special-get-raises" (P := fun w => ∀ (os : OsState), runQ w 27 ((S_9_1_97 (ledOf w.params)) w os) (loopAt PySem.W.SL.s10534883147002075979x15 ⟨[(.ref 84), (.ref 85)], []⟩ ⟨20, 9, 20, 52⟩ (stk_9_1 w os)) = some (.next, S_10 w os, cE, ⟨20, 0, 20, 6⟩)) (by intro w os; kernel_rfl) (by intro w os; kernel_rfl) w
theorem pc_10 (w : World) (os : OsState) : runQ w 30 (S_10 w os) (wholeAt 10 ⟨20, 0, 20, 6⟩) = some (.next, S_11 w os, cE, ⟨21, 0, 22, 30⟩) := by kernel_rfl
theorem pc_11 (w : World) (os : OsState) : runQ w 10 (S_11 w os) (wholeAt 11 ⟨21, 0, 22, 30⟩) = some (.next, S_12 w os, cE, ⟨23, 0, 23, 8⟩) := by kernel_rfl
theorem pc_12 (w : World) (os : OsState) : runQ w 33 (S_12 w os) (wholeAt 12 ⟨23, 0, 23, 8⟩) = some (.next, S_13 w os, cE, ⟨24, 0, 32, 76⟩) := by kernel_rfl
theorem pc_13 (w : World) (os : OsState) : runQ w 35 (S_13 w os) (wholeAt 13 ⟨24, 0, 32, 76⟩) = some (.next, S_14 w os, cE, ⟨33, 0, 42, 15⟩) := by kernel_rfl
end Wy70

end
section -- WyLook

open PySem PySem.W PyProof.Rows
set_option maxRecDepth 100000
noncomputable section
namespace Wy70
def viewQ : Program := { pw with main := { pw.main with body := [stAt 1, stAt 2, stAt 3, stAt 4, stAt 5, stAt 6, stAt 7, stAt 8, stAt 9, stAt 10, stAt 12, stAt 13] } }
def looseN : List Str := [Str.ofString "c6_set", Str.ofString "c7_set", Str.ofString "c8_set", Str.ofString "c9_set"]
abbrev rw0 : RowW := (PySem.Challenge.rw_wy0070_01.row).toRowW
abbrev hk : Hook := kHook partK partA (fun _ => by kernel_rfl)
abbrev XtF : Shared → Bool := fun s => xlAt viewQ [] s && recOk (RowW.records rw0) s
abbrev sZ (w : World) (os : OsState) : Shared := ⟨heapZ w.params, ⟨[]⟩, ⟨0, 0, 0, 0⟩, 539, os⟩
theorem open1 : opening pw = plainProg pw.main.scope.names := by kernel_rfl
theorem open2 : ∀ s, fenceModules? pw s = some s := by intro s; kernel_rfl
theorem open_w : ∀ w : World, (fencedOpening treeTable pw w 20000).map (fun s => (s.heap, s.gens, s.drawn, s.toks)) = some (boot_heap w.params, Array.mk [], boot_drawn, boot_toks) := boot_open open1 rfl open2
theorem size_w : ∀ w : World, ((boot_heap w.params).isNs mainGlobals && (Array.mk [] : Array GenState).size == 0, (boot_heap w.params).objs.size, (boot_heap w.params).nsMap mainGlobals "__annotations__") = (true, 11, annE) := by intro w; kernel_rfl
theorem look_a (w : World) (os : OsState) : (staticsOk (importedModules pw.main.body) (boot_heap w.params) (heapZ w.params) && namesBound pw (heapZ w.params) && gensDone (sZ w os) && laidKept (boot_heap w.params) (heapZ w.params)) = true := by kernel_rfl
theorem look_1 (w : World) (os : OsState) : (openSeen viewQ looseN (importedModules pw.main.body) XtF true (sZ w os)).1 = (openGood viewQ looseN).1 := by kernel_rfl
theorem look_2 (w : World) (os : OsState) : (openSeen viewQ looseN (importedModules pw.main.body) XtF true (sZ w os)).2.1 = (openGood viewQ looseN).2.1 := by kernel_rfl
theorem look_3 (w : World) (os : OsState) : (openSeen viewQ looseN (importedModules pw.main.body) XtF true (sZ w os)).2.2.1 = (openGood viewQ looseN).2.2.1 := by kernel_rfl
theorem look_4 (w : World) (os : OsState) : (openSeen viewQ looseN (importedModules pw.main.body) XtF true (sZ w os)).2.2.2.1 = (openGood viewQ looseN).2.2.2.1 := by kernel_rfl
theorem look_5 (w : World) (os : OsState) : (openSeen viewQ looseN (importedModules pw.main.body) XtF true (sZ w os)).2.2.2.2.1 = (openGood viewQ looseN).2.2.2.2.1 := by kernel_rfl
theorem look_6 (w : World) (os : OsState) : (openSeen viewQ looseN (importedModules pw.main.body) XtF true (sZ w os)).2.2.2.2.2.1 = (openGood viewQ looseN).2.2.2.2.2.1 := by kernel_rfl
theorem look_7 (w : World) (os : OsState) : (openSeen viewQ looseN (importedModules pw.main.body) XtF true (sZ w os)).2.2.2.2.2.2.1 = (openGood viewQ looseN).2.2.2.2.2.2.1 := by kernel_rfl
theorem look_8 (w : World) (os : OsState) : (openSeen viewQ looseN (importedModules pw.main.body) XtF true (sZ w os)).2.2.2.2.2.2.2.1 = (openGood viewQ looseN).2.2.2.2.2.2.2.1 := by kernel_rfl
theorem look_9 (w : World) (os : OsState) : (openSeen viewQ looseN (importedModules pw.main.body) XtF true (sZ w os)).2.2.2.2.2.2.2.2 = (openGood viewQ looseN).2.2.2.2.2.2.2.2 := by kernel_rfl
theorem look_y (w : World) (os : OsState) : hk.obs (sZ w os) = hk.val w := by kernel_rfl
end Wy70
end

end
section -- WyRun


open PySem PySem.W PyProof.Rows
set_option maxRecDepth 100000
noncomputable section
namespace Wy70
theorem go_go {tb : String → Option Builtin} {p : Program} {w : World} {n₀ : Nat} {ann : Option Value} {b : Nat} {r : Shared × Thread} : ∀ {n m : Nat} {s s' : Shared} {t t' : Thread}, segGo tb p w n₀ ann b n s t = some (s', t') →
    segGo tb p w n₀ ann b m s' t' = some r → segGo tb p w n₀ ann b (n + m) s t = some r
  | 0, m, s, s', t, t', h, k => by
    obtain ⟨rfl, rfl⟩ : s = s' ∧ t = t' := by simpa [segGo] using h
    rw [Nat.zero_add]; exact k
  | n + 1, m, s, s', t, t', h, k => by
    rw [show n + 1 + m = n + m + 1 by omega]
    unfold segGo at h ⊢
    cases he : endAt b t with
    | some f => rw [he] at h; cases h
    | none =>
      rw [he] at h
      cases hk : stepOk n₀ ann t with
      | false => rw [hk] at h; cases h
      | true =>
        rw [hk] at h
        cases hs : step (denote tb) p w s t with
        | halt o s₂ => rw [hs] at h; cases h
        | go s₂ t₂ => rw [hs] at h; exact go_go h k
theorem go_of {w : World} {n : Nat} {s s' : SharedT} {t t' : Thread} (h : goQ w n s t = some (s', t')) : segGo treeTable pw w 11 annE 1 n s.abs t = some (s'.abs, t') := by
  refine segGo_of ?_
  rw [PySem.W.Fast.te10295753902157049106, PySem.W.Fast.te14364793385576792824]
  exact h
theorem run_of {w : World} {n : Nat} {s s' : SharedT} {t : Thread} {f : Flow} {c : Code} {q : Pos} (h : runQ w n s t = some (f, s', c, q)) : segRun treeTable pw w 11 annE 1 n s.abs t = some (f, s'.abs, c, q) := by
  refine segRun_of ?_
  rw [PySem.W.Fast.te10110043849684766642, PySem.W.Fast.te14364793385576792824]
  exact h
theorem two_of {l : List Frame} {n : Nat} (h : l.length = n + 2) : ∃ f1 f2 r, l = f1 :: f2 :: r := by
  match l, h with
  | f1 :: f2 :: r, _ => exact ⟨f1, f2, r, rfl⟩

theorem st_0 (w : World) (os : OsState) : segRun treeTable pw w 11 annE 1 10 (S_0 w os).abs (wholeAt 0 ⟨0, 0, 0, 0⟩) = some (.next, (S_1 w os).abs, cE, ⟨1, 0, 1, 8⟩) := by
  exact run_of (pc_0 w os)
theorem st_1 (w : World) (os : OsState) : segRun treeTable pw w 11 annE 1 30 (S_1 w os).abs (wholeAt 1 ⟨1, 0, 1, 8⟩) = some (.next, (S_2 w os).abs, cE, ⟨2, 0, 3, 22⟩) := by
  exact run_of (pc_1 w os)
theorem st_2 (w : World) (os : OsState) : segRun treeTable pw w 11 annE 1 31 (S_2 w os).abs (wholeAt 2 ⟨2, 0, 3, 22⟩) = some (.next, (S_3 w os).abs, cE, ⟨4, 0, 10, 46⟩) := by
  exact run_of (pc_2 w os)
theorem lp_3_0 (w : World) (os : OsState) (f1 f2 : Frame) (r : List Frame) (b : Bool) : segGo treeTable pw w 11 annE 1 117 ((S_3_0_0 b) w os).abs (loopAt PySem.W.SL.s10534883147002075979x15 ⟨[(.ref 30), (.ref 31)], []⟩ ⟨11, 9, 11, 33⟩ (f1 :: f2 :: r)) = some (((S_3_0_5 b) w os).abs, (loopAt PySem.W.SL.s10534883147002075979x15 ⟨[(.ref 30), (.ref 31)], []⟩ ⟨11, 9, 11, 33⟩ (f1 :: f2 :: r))) := by
  refine go_go (n := 23) (m := 94) (go_of (tn_3_0_0 w os f1 f2 r b)) ?_
  refine go_go (n := 23) (m := 71) (go_of (tn_3_0_1 w os f1 f2 r b)) ?_
  refine go_go (n := 23) (m := 48) (go_of (tn_3_0_2 w os f1 f2 r b)) ?_
  refine go_go (n := 23) (m := 25) (go_of (tn_3_0_3 w os f1 f2 r b)) ?_
  exact go_of (tn_3_0_4 w os f1 f2 r b)
theorem sl_3_0 (w : World) : ∀ os : OsState, (stk_3_0 w os).length = 2 + 2 := byRow2 "special-get-raises" (P := fun w => ∀ os : OsState, (stk_3_0 w os).length = 2 + 2) (by intro w os; kernel_rfl) (by intro w os; kernel_rfl) w
theorem lq_3_0 (w : World) (os : OsState) : segGo treeTable pw w 11 annE 1 117 ((S_3_0_0 (ledOf w.params)) w os).abs (loopAt PySem.W.SL.s10534883147002075979x15 ⟨[(.ref 30), (.ref 31)], []⟩ ⟨11, 9, 11, 33⟩ (stk_3_0 w os)) = some (((S_3_0_5 (ledOf w.params)) w os).abs, (loopAt PySem.W.SL.s10534883147002075979x15 ⟨[(.ref 30), (.ref 31)], []⟩ ⟨11, 9, 11, 33⟩ (stk_3_0 w os))) := by
  obtain ⟨f1, f2, r, e⟩ := two_of (sl_3_0 w os)
  rw [e]
  exact lp_3_0 w os f1 f2 r (ledOf w.params)
theorem st_3 (w : World) (os : OsState) : segRun treeTable pw w 11 annE 1 200 (S_3 w os).abs (wholeAt 3 ⟨4, 0, 10, 46⟩) = some (.next, (S_4 w os).abs, cE, ⟨11, 0, 11, 6⟩) := by
  refine seg_go (n := 58) (N := 142) (go_of (go_3_0 w os)) ?_
  refine seg_go (n := 117) (N := 25) (lq_3_0 w os) ?_
  exact run_of (pc_3 w os)
theorem st_4 (w : World) (os : OsState) : segRun treeTable pw w 11 annE 1 30 (S_4 w os).abs (wholeAt 4 ⟨11, 0, 11, 6⟩) = some (.next, (S_5 w os).abs, cE, ⟨12, 0, 13, 30⟩) := by
  exact run_of (pc_4 w os)
theorem lp_5_0 (w : World) (os : OsState) (f1 f2 : Frame) (r : List Frame) (b : Bool) : segGo treeTable pw w 11 annE 1 278 ((S_5_0_0 b) w os).abs (loopAt PySem.W.SL.s10534883147002075979x15 ⟨[(.ref 42), (.ref 43)], []⟩ ⟨14, 9, 14, 33⟩ (f1 :: f2 :: r)) = some (((S_5_0_12 b) w os).abs, (loopAt PySem.W.SL.s10534883147002075979x15 ⟨[(.ref 42), (.ref 43)], []⟩ ⟨14, 9, 14, 33⟩ (f1 :: f2 :: r))) := by
  refine go_go (n := 23) (m := 255) (go_of (tn_5_0_0 w os f1 f2 r b)) ?_
  refine go_go (n := 23) (m := 232) (go_of (tn_5_0_1 w os f1 f2 r b)) ?_
  refine go_go (n := 23) (m := 209) (go_of (tn_5_0_2 w os f1 f2 r b)) ?_
  refine go_go (n := 23) (m := 186) (go_of (tn_5_0_3 w os f1 f2 r b)) ?_
  refine go_go (n := 25) (m := 161) (go_of (tn_5_0_4 w os f1 f2 r b)) ?_
  refine go_go (n := 23) (m := 138) (go_of (tn_5_0_5 w os f1 f2 r b)) ?_
  refine go_go (n := 23) (m := 115) (go_of (tn_5_0_6 w os f1 f2 r b)) ?_
  refine go_go (n := 23) (m := 92) (go_of (tn_5_0_7 w os f1 f2 r b)) ?_
  refine go_go (n := 23) (m := 69) (go_of (tn_5_0_8 w os f1 f2 r b)) ?_
  refine go_go (n := 23) (m := 46) (go_of (tn_5_0_9 w os f1 f2 r b)) ?_
  refine go_go (n := 23) (m := 23) (go_of (tn_5_0_10 w os f1 f2 r b)) ?_
  exact go_of (tn_5_0_11 w os f1 f2 r b)
theorem sl_5_0 (w : World) : ∀ os : OsState, (stk_5_0 w os).length = 2 + 2 := byRow2 "special-get-raises" (P := fun w => ∀ os : OsState, (stk_5_0 w os).length = 2 + 2) (by intro w os; kernel_rfl) (by intro w os; kernel_rfl) w
theorem lq_5_0 (w : World) (os : OsState) : segGo treeTable pw w 11 annE 1 278 ((S_5_0_0 (ledOf w.params)) w os).abs (loopAt PySem.W.SL.s10534883147002075979x15 ⟨[(.ref 42), (.ref 43)], []⟩ ⟨14, 9, 14, 33⟩ (stk_5_0 w os)) = some (((S_5_0_12 (ledOf w.params)) w os).abs, (loopAt PySem.W.SL.s10534883147002075979x15 ⟨[(.ref 42), (.ref 43)], []⟩ ⟨14, 9, 14, 33⟩ (stk_5_0 w os))) := by
  obtain ⟨f1, f2, r, e⟩ := two_of (sl_5_0 w os)
  rw [e]
  exact lp_5_0 w os f1 f2 r (ledOf w.params)
theorem st_5 (w : World) (os : OsState) : segRun treeTable pw w 11 annE 1 361 (S_5 w os).abs (wholeAt 5 ⟨12, 0, 13, 30⟩) = some (.next, (S_6 w os).abs, cE, ⟨14, 0, 14, 6⟩) := by
  refine seg_go (n := 58) (N := 303) (go_of (go_5_0 w os)) ?_
  refine seg_go (n := 278) (N := 25) (lq_5_0 w os) ?_
  exact run_of (pc_5 w os)
theorem st_6 (w : World) (os : OsState) : segRun treeTable pw w 11 annE 1 30 (S_6 w os).abs (wholeAt 6 ⟨14, 0, 14, 6⟩) = some (.next, (S_7 w os).abs, cE, ⟨15, 0, 16, 30⟩) := by
  exact run_of (pc_6 w os)
theorem lp_7_0 (w : World) (os : OsState) (f1 f2 : Frame) (r : List Frame) (b : Bool) : segGo treeTable pw w 11 annE 1 85 ((S_7_0_0 b) w os).abs (loopAt PySem.W.SL.s9316426964554523096x16 ⟨[(.ref 55), (.ref 56), .none], []⟩ ⟨17, 38, 17, 61⟩ (f1 :: f2 :: r)) = some (((S_7_0_5 b) w os).abs, (loopAt PySem.W.SL.s9316426964554523096x16 ⟨[(.ref 55), (.ref 56), .none], []⟩ ⟨17, 38, 17, 61⟩ (f1 :: f2 :: r))) := by
  refine go_go (n := 17) (m := 68) (go_of (tn_7_0_0 w os f1 f2 r b)) ?_
  refine go_go (n := 17) (m := 51) (go_of (tn_7_0_1 w os f1 f2 r b)) ?_
  refine go_go (n := 17) (m := 34) (go_of (tn_7_0_2 w os f1 f2 r b)) ?_
  refine go_go (n := 17) (m := 17) (go_of (tn_7_0_3 w os f1 f2 r b)) ?_
  exact go_of (tn_7_0_4 w os f1 f2 r b)
theorem sl_7_0 (w : World) : ∀ os : OsState, (stk_7_0 w os).length = 1 + 2 := byRow2 "special-get-raises" (P := fun w => ∀ os : OsState, (stk_7_0 w os).length = 1 + 2) (by intro w os; kernel_rfl) (by intro w os; kernel_rfl) w
theorem lq_7_0 (w : World) (os : OsState) : segGo treeTable pw w 11 annE 1 85 ((S_7_0_0 (ledOf w.params)) w os).abs (loopAt PySem.W.SL.s9316426964554523096x16 ⟨[(.ref 55), (.ref 56), .none], []⟩ ⟨17, 38, 17, 61⟩ (stk_7_0 w os)) = some (((S_7_0_5 (ledOf w.params)) w os).abs, (loopAt PySem.W.SL.s9316426964554523096x16 ⟨[(.ref 55), (.ref 56), .none], []⟩ ⟨17, 38, 17, 61⟩ (stk_7_0 w os))) := by
  obtain ⟨f1, f2, r, e⟩ := two_of (sl_7_0 w os)
  rw [e]
  exact lp_7_0 w os f1 f2 r (ledOf w.params)
theorem lp_7_1 (w : World) (os : OsState) (f1 f2 : Frame) (r : List Frame) (b : Bool) : segGo treeTable pw w 11 annE 1 102 ((S_7_1_0 b) w os).abs (loopAt PySem.W.SL.s9316426964554523096x16 ⟨[(.ref 61), (.ref 62), .none], []⟩ ⟨17, 64, 17, 87⟩ (f1 :: f2 :: r)) = some (((S_7_1_6 b) w os).abs, (loopAt PySem.W.SL.s9316426964554523096x16 ⟨[(.ref 61), (.ref 62), .none], []⟩ ⟨17, 64, 17, 87⟩ (f1 :: f2 :: r))) := by
  refine go_go (n := 17) (m := 85) (go_of (tn_7_1_0 w os f1 f2 r b)) ?_
  refine go_go (n := 17) (m := 68) (go_of (tn_7_1_1 w os f1 f2 r b)) ?_
  refine go_go (n := 17) (m := 51) (go_of (tn_7_1_2 w os f1 f2 r b)) ?_
  refine go_go (n := 17) (m := 34) (go_of (tn_7_1_3 w os f1 f2 r b)) ?_
  refine go_go (n := 17) (m := 17) (go_of (tn_7_1_4 w os f1 f2 r b)) ?_
  exact go_of (tn_7_1_5 w os f1 f2 r b)
theorem sl_7_1 (w : World) : ∀ os : OsState, (stk_7_1 w os).length = 1 + 2 := byRow2 "special-get-raises" (P := fun w => ∀ os : OsState, (stk_7_1 w os).length = 1 + 2) (by intro w os; kernel_rfl) (by intro w os; kernel_rfl) w
theorem lq_7_1 (w : World) (os : OsState) : segGo treeTable pw w 11 annE 1 102 ((S_7_1_0 (ledOf w.params)) w os).abs (loopAt PySem.W.SL.s9316426964554523096x16 ⟨[(.ref 61), (.ref 62), .none], []⟩ ⟨17, 64, 17, 87⟩ (stk_7_1 w os)) = some (((S_7_1_6 (ledOf w.params)) w os).abs, (loopAt PySem.W.SL.s9316426964554523096x16 ⟨[(.ref 61), (.ref 62), .none], []⟩ ⟨17, 64, 17, 87⟩ (stk_7_1 w os))) := by
  obtain ⟨f1, f2, r, e⟩ := two_of (sl_7_1 w os)
  rw [e]
  exact lp_7_1 w os f1 f2 r (ledOf w.params)
theorem lp_7_2 (w : World) (os : OsState) (f1 f2 : Frame) (r : List Frame) (b : Bool) : segGo treeTable pw w 11 annE 1 302 ((S_7_2_0 b) w os).abs (loopAt PySem.W.SL.s10534883147002075979x15 ⟨[(.ref 66), (.ref 67)], []⟩ ⟨17, 9, 17, 88⟩ (f1 :: f2 :: r)) = some (((S_7_2_15 b) w os).abs, (loopAt PySem.W.SL.s10534883147002075979x15 ⟨[(.ref 66), (.ref 67)], []⟩ ⟨17, 9, 17, 88⟩ (f1 :: f2 :: r))) := by
  refine go_go (n := 20) (m := 282) (go_of (tn_7_2_0 w os f1 f2 r b)) ?_
  refine go_go (n := 20) (m := 262) (go_of (tn_7_2_1 w os f1 f2 r b)) ?_
  refine go_go (n := 20) (m := 242) (go_of (tn_7_2_2 w os f1 f2 r b)) ?_
  refine go_go (n := 20) (m := 222) (go_of (tn_7_2_3 w os f1 f2 r b)) ?_
  refine go_go (n := 22) (m := 200) (go_of (tn_7_2_4 w os f1 f2 r b)) ?_
  refine go_go (n := 20) (m := 180) (go_of (tn_7_2_5 w os f1 f2 r b)) ?_
  refine go_go (n := 20) (m := 160) (go_of (tn_7_2_6 w os f1 f2 r b)) ?_
  refine go_go (n := 20) (m := 140) (go_of (tn_7_2_7 w os f1 f2 r b)) ?_
  refine go_go (n := 20) (m := 120) (go_of (tn_7_2_8 w os f1 f2 r b)) ?_
  refine go_go (n := 20) (m := 100) (go_of (tn_7_2_9 w os f1 f2 r b)) ?_
  refine go_go (n := 20) (m := 80) (go_of (tn_7_2_10 w os f1 f2 r b)) ?_
  refine go_go (n := 20) (m := 60) (go_of (tn_7_2_11 w os f1 f2 r b)) ?_
  refine go_go (n := 20) (m := 40) (go_of (tn_7_2_12 w os f1 f2 r b)) ?_
  refine go_go (n := 20) (m := 20) (go_of (tn_7_2_13 w os f1 f2 r b)) ?_
  exact go_of (tn_7_2_14 w os f1 f2 r b)
theorem sl_7_2 (w : World) : ∀ os : OsState, (stk_7_2 w os).length = 2 + 2 := byRow2 "special-get-raises" (P := fun w => ∀ os : OsState, (stk_7_2 w os).length = 2 + 2) (by intro w os; kernel_rfl) (by intro w os; kernel_rfl) w
theorem lq_7_2 (w : World) (os : OsState) : segGo treeTable pw w 11 annE 1 302 ((S_7_2_0 (ledOf w.params)) w os).abs (loopAt PySem.W.SL.s10534883147002075979x15 ⟨[(.ref 66), (.ref 67)], []⟩ ⟨17, 9, 17, 88⟩ (stk_7_2 w os)) = some (((S_7_2_15 (ledOf w.params)) w os).abs, (loopAt PySem.W.SL.s10534883147002075979x15 ⟨[(.ref 66), (.ref 67)], []⟩ ⟨17, 9, 17, 88⟩ (stk_7_2 w os))) := by
  obtain ⟨f1, f2, r, e⟩ := two_of (sl_7_2 w os)
  rw [e]
  exact lp_7_2 w os f1 f2 r (ledOf w.params)
theorem st_7 (w : World) (os : OsState) : segRun treeTable pw w 11 annE 1 775 (S_7 w os).abs (wholeAt 7 ⟨15, 0, 16, 30⟩) = some (.next, (S_8 w os).abs, cE, ⟨17, 0, 17, 6⟩) := by
  refine seg_go (n := 90) (N := 685) (go_of (go_7_0 w os)) ?_
  refine seg_go (n := 85) (N := 600) (lq_7_0 w os) ?_
  refine seg_go (n := 110) (N := 490) (go_of (go_7_1 w os)) ?_
  refine seg_go (n := 102) (N := 388) (lq_7_1 w os) ?_
  refine seg_go (n := 59) (N := 329) (go_of (go_7_2 w os)) ?_
  refine seg_go (n := 302) (N := 27) (lq_7_2 w os) ?_
  exact run_of (pc_7 w os)
theorem st_8 (w : World) (os : OsState) : segRun treeTable pw w 11 annE 1 30 (S_8 w os).abs (wholeAt 8 ⟨17, 0, 17, 6⟩) = some (.next, (S_9 w os).abs, cE, ⟨18, 0, 19, 30⟩) := by
  exact run_of (pc_8 w os)
theorem lp_9_0 (w : World) (os : OsState) (f1 f2 : Frame) (r : List Frame) (b : Bool) : segGo treeTable pw w 11 annE 1 1632 ((S_9_0_0 b) w os).abs (loopAt PySem.W.SL.s9316426964554523096x16 ⟨[(.ref 79), (.ref 80), .none], []⟩ ⟨20, 24, 20, 51⟩ (f1 :: f2 :: r)) = some (((S_9_0_96 b) w os).abs, (loopAt PySem.W.SL.s9316426964554523096x16 ⟨[(.ref 79), (.ref 80), .none], []⟩ ⟨20, 24, 20, 51⟩ (f1 :: f2 :: r))) := by
  refine go_go (n := 17) (m := 1615) (go_of (tn_9_0_0 w os f1 f2 r b)) ?_
  refine go_go (n := 17) (m := 1598) (go_of (tn_9_0_1 w os f1 f2 r b)) ?_
  refine go_go (n := 17) (m := 1581) (go_of (tn_9_0_2 w os f1 f2 r b)) ?_
  refine go_go (n := 17) (m := 1564) (go_of (tn_9_0_3 w os f1 f2 r b)) ?_
  refine go_go (n := 17) (m := 1547) (go_of (tn_9_0_4 w os f1 f2 r b)) ?_
  refine go_go (n := 17) (m := 1530) (go_of (tn_9_0_5 w os f1 f2 r b)) ?_
  refine go_go (n := 17) (m := 1513) (go_of (tn_9_0_6 w os f1 f2 r b)) ?_
  refine go_go (n := 17) (m := 1496) (go_of (tn_9_0_7 w os f1 f2 r b)) ?_
  refine go_go (n := 17) (m := 1479) (go_of (tn_9_0_8 w os f1 f2 r b)) ?_
  refine go_go (n := 17) (m := 1462) (go_of (tn_9_0_9 w os f1 f2 r b)) ?_
  refine go_go (n := 17) (m := 1445) (go_of (tn_9_0_10 w os f1 f2 r b)) ?_
  refine go_go (n := 17) (m := 1428) (go_of (tn_9_0_11 w os f1 f2 r b)) ?_
  refine go_go (n := 17) (m := 1411) (go_of (tn_9_0_12 w os f1 f2 r b)) ?_
  refine go_go (n := 17) (m := 1394) (go_of (tn_9_0_13 w os f1 f2 r b)) ?_
  refine go_go (n := 17) (m := 1377) (go_of (tn_9_0_14 w os f1 f2 r b)) ?_
  refine go_go (n := 17) (m := 1360) (go_of (tn_9_0_15 w os f1 f2 r b)) ?_
  refine go_go (n := 17) (m := 1343) (go_of (tn_9_0_16 w os f1 f2 r b)) ?_
  refine go_go (n := 17) (m := 1326) (go_of (tn_9_0_17 w os f1 f2 r b)) ?_
  refine go_go (n := 17) (m := 1309) (go_of (tn_9_0_18 w os f1 f2 r b)) ?_
  refine go_go (n := 17) (m := 1292) (go_of (tn_9_0_19 w os f1 f2 r b)) ?_
  refine go_go (n := 17) (m := 1275) (go_of (tn_9_0_20 w os f1 f2 r b)) ?_
  refine go_go (n := 17) (m := 1258) (go_of (tn_9_0_21 w os f1 f2 r b)) ?_
  refine go_go (n := 17) (m := 1241) (go_of (tn_9_0_22 w os f1 f2 r b)) ?_
  refine go_go (n := 17) (m := 1224) (go_of (tn_9_0_23 w os f1 f2 r b)) ?_
  refine go_go (n := 17) (m := 1207) (go_of (tn_9_0_24 w os f1 f2 r b)) ?_
  refine go_go (n := 17) (m := 1190) (go_of (tn_9_0_25 w os f1 f2 r b)) ?_
  refine go_go (n := 17) (m := 1173) (go_of (tn_9_0_26 w os f1 f2 r b)) ?_
  refine go_go (n := 17) (m := 1156) (go_of (tn_9_0_27 w os f1 f2 r b)) ?_
  refine go_go (n := 17) (m := 1139) (go_of (tn_9_0_28 w os f1 f2 r b)) ?_
  refine go_go (n := 17) (m := 1122) (go_of (tn_9_0_29 w os f1 f2 r b)) ?_
  refine go_go (n := 17) (m := 1105) (go_of (tn_9_0_30 w os f1 f2 r b)) ?_
  refine go_go (n := 17) (m := 1088) (go_of (tn_9_0_31 w os f1 f2 r b)) ?_
  refine go_go (n := 17) (m := 1071) (go_of (tn_9_0_32 w os f1 f2 r b)) ?_
  refine go_go (n := 17) (m := 1054) (go_of (tn_9_0_33 w os f1 f2 r b)) ?_
  refine go_go (n := 17) (m := 1037) (go_of (tn_9_0_34 w os f1 f2 r b)) ?_
  refine go_go (n := 17) (m := 1020) (go_of (tn_9_0_35 w os f1 f2 r b)) ?_
  refine go_go (n := 17) (m := 1003) (go_of (tn_9_0_36 w os f1 f2 r b)) ?_
  refine go_go (n := 17) (m := 986) (go_of (tn_9_0_37 w os f1 f2 r b)) ?_
  refine go_go (n := 17) (m := 969) (go_of (tn_9_0_38 w os f1 f2 r b)) ?_
  refine go_go (n := 17) (m := 952) (go_of (tn_9_0_39 w os f1 f2 r b)) ?_
  refine go_go (n := 17) (m := 935) (go_of (tn_9_0_40 w os f1 f2 r b)) ?_
  refine go_go (n := 17) (m := 918) (go_of (tn_9_0_41 w os f1 f2 r b)) ?_
  refine go_go (n := 17) (m := 901) (go_of (tn_9_0_42 w os f1 f2 r b)) ?_
  refine go_go (n := 17) (m := 884) (go_of (tn_9_0_43 w os f1 f2 r b)) ?_
  refine go_go (n := 17) (m := 867) (go_of (tn_9_0_44 w os f1 f2 r b)) ?_
  refine go_go (n := 17) (m := 850) (go_of (tn_9_0_45 w os f1 f2 r b)) ?_
  refine go_go (n := 17) (m := 833) (go_of (tn_9_0_46 w os f1 f2 r b)) ?_
  refine go_go (n := 17) (m := 816) (go_of (tn_9_0_47 w os f1 f2 r b)) ?_
  refine go_go (n := 17) (m := 799) (go_of (tn_9_0_48 w os f1 f2 r b)) ?_
  refine go_go (n := 17) (m := 782) (go_of (tn_9_0_49 w os f1 f2 r b)) ?_
  refine go_go (n := 17) (m := 765) (go_of (tn_9_0_50 w os f1 f2 r b)) ?_
  refine go_go (n := 17) (m := 748) (go_of (tn_9_0_51 w os f1 f2 r b)) ?_
  refine go_go (n := 17) (m := 731) (go_of (tn_9_0_52 w os f1 f2 r b)) ?_
  refine go_go (n := 17) (m := 714) (go_of (tn_9_0_53 w os f1 f2 r b)) ?_
  refine go_go (n := 17) (m := 697) (go_of (tn_9_0_54 w os f1 f2 r b)) ?_
  refine go_go (n := 17) (m := 680) (go_of (tn_9_0_55 w os f1 f2 r b)) ?_
  refine go_go (n := 17) (m := 663) (go_of (tn_9_0_56 w os f1 f2 r b)) ?_
  refine go_go (n := 17) (m := 646) (go_of (tn_9_0_57 w os f1 f2 r b)) ?_
  refine go_go (n := 17) (m := 629) (go_of (tn_9_0_58 w os f1 f2 r b)) ?_
  refine go_go (n := 17) (m := 612) (go_of (tn_9_0_59 w os f1 f2 r b)) ?_
  refine go_go (n := 17) (m := 595) (go_of (tn_9_0_60 w os f1 f2 r b)) ?_
  refine go_go (n := 17) (m := 578) (go_of (tn_9_0_61 w os f1 f2 r b)) ?_
  refine go_go (n := 17) (m := 561) (go_of (tn_9_0_62 w os f1 f2 r b)) ?_
  refine go_go (n := 17) (m := 544) (go_of (tn_9_0_63 w os f1 f2 r b)) ?_
  refine go_go (n := 17) (m := 527) (go_of (tn_9_0_64 w os f1 f2 r b)) ?_
  refine go_go (n := 17) (m := 510) (go_of (tn_9_0_65 w os f1 f2 r b)) ?_
  refine go_go (n := 17) (m := 493) (go_of (tn_9_0_66 w os f1 f2 r b)) ?_
  refine go_go (n := 17) (m := 476) (go_of (tn_9_0_67 w os f1 f2 r b)) ?_
  refine go_go (n := 17) (m := 459) (go_of (tn_9_0_68 w os f1 f2 r b)) ?_
  refine go_go (n := 17) (m := 442) (go_of (tn_9_0_69 w os f1 f2 r b)) ?_
  refine go_go (n := 17) (m := 425) (go_of (tn_9_0_70 w os f1 f2 r b)) ?_
  refine go_go (n := 17) (m := 408) (go_of (tn_9_0_71 w os f1 f2 r b)) ?_
  refine go_go (n := 17) (m := 391) (go_of (tn_9_0_72 w os f1 f2 r b)) ?_
  refine go_go (n := 17) (m := 374) (go_of (tn_9_0_73 w os f1 f2 r b)) ?_
  refine go_go (n := 17) (m := 357) (go_of (tn_9_0_74 w os f1 f2 r b)) ?_
  refine go_go (n := 17) (m := 340) (go_of (tn_9_0_75 w os f1 f2 r b)) ?_
  refine go_go (n := 17) (m := 323) (go_of (tn_9_0_76 w os f1 f2 r b)) ?_
  refine go_go (n := 17) (m := 306) (go_of (tn_9_0_77 w os f1 f2 r b)) ?_
  refine go_go (n := 17) (m := 289) (go_of (tn_9_0_78 w os f1 f2 r b)) ?_
  refine go_go (n := 17) (m := 272) (go_of (tn_9_0_79 w os f1 f2 r b)) ?_
  refine go_go (n := 17) (m := 255) (go_of (tn_9_0_80 w os f1 f2 r b)) ?_
  refine go_go (n := 17) (m := 238) (go_of (tn_9_0_81 w os f1 f2 r b)) ?_
  refine go_go (n := 17) (m := 221) (go_of (tn_9_0_82 w os f1 f2 r b)) ?_
  refine go_go (n := 17) (m := 204) (go_of (tn_9_0_83 w os f1 f2 r b)) ?_
  refine go_go (n := 17) (m := 187) (go_of (tn_9_0_84 w os f1 f2 r b)) ?_
  refine go_go (n := 17) (m := 170) (go_of (tn_9_0_85 w os f1 f2 r b)) ?_
  refine go_go (n := 17) (m := 153) (go_of (tn_9_0_86 w os f1 f2 r b)) ?_
  refine go_go (n := 17) (m := 136) (go_of (tn_9_0_87 w os f1 f2 r b)) ?_
  refine go_go (n := 17) (m := 119) (go_of (tn_9_0_88 w os f1 f2 r b)) ?_
  refine go_go (n := 17) (m := 102) (go_of (tn_9_0_89 w os f1 f2 r b)) ?_
  refine go_go (n := 17) (m := 85) (go_of (tn_9_0_90 w os f1 f2 r b)) ?_
  refine go_go (n := 17) (m := 68) (go_of (tn_9_0_91 w os f1 f2 r b)) ?_
  refine go_go (n := 17) (m := 51) (go_of (tn_9_0_92 w os f1 f2 r b)) ?_
  refine go_go (n := 17) (m := 34) (go_of (tn_9_0_93 w os f1 f2 r b)) ?_
  refine go_go (n := 17) (m := 17) (go_of (tn_9_0_94 w os f1 f2 r b)) ?_
  exact go_of (tn_9_0_95 w os f1 f2 r b)
theorem sl_9_0 (w : World) : ∀ os : OsState, (stk_9_0 w os).length = 1 + 2 := byRow2 "special-get-raises" (P := fun w => ∀ os : OsState, (stk_9_0 w os).length = 1 + 2) (by intro w os; kernel_rfl) (by intro w os; kernel_rfl) w
theorem lq_9_0 (w : World) (os : OsState) : segGo treeTable pw w 11 annE 1 1632 ((S_9_0_0 (ledOf w.params)) w os).abs (loopAt PySem.W.SL.s9316426964554523096x16 ⟨[(.ref 79), (.ref 80), .none], []⟩ ⟨20, 24, 20, 51⟩ (stk_9_0 w os)) = some (((S_9_0_96 (ledOf w.params)) w os).abs, (loopAt PySem.W.SL.s9316426964554523096x16 ⟨[(.ref 79), (.ref 80), .none], []⟩ ⟨20, 24, 20, 51⟩ (stk_9_0 w os))) := by
  obtain ⟨f1, f2, r, e⟩ := two_of (sl_9_0 w os)
  rw [e]
  exact lp_9_0 w os f1 f2 r (ledOf w.params)
theorem lp_9_1 (w : World) (os : OsState) (f1 f2 : Frame) (r : List Frame) (b : Bool) : segGo treeTable pw w 11 annE 1 1946 ((S_9_1_0 b) w os).abs (loopAt PySem.W.SL.s10534883147002075979x15 ⟨[(.ref 84), (.ref 85)], []⟩ ⟨20, 9, 20, 52⟩ (f1 :: f2 :: r)) = some (((S_9_1_97 b) w os).abs, (loopAt PySem.W.SL.s10534883147002075979x15 ⟨[(.ref 84), (.ref 85)], []⟩ ⟨20, 9, 20, 52⟩ (f1 :: f2 :: r))) := by
  refine go_go (n := 20) (m := 1926) (go_of (tn_9_1_0 w os f1 f2 r b)) ?_
  refine go_go (n := 20) (m := 1906) (go_of (tn_9_1_1 w os f1 f2 r b)) ?_
  refine go_go (n := 20) (m := 1886) (go_of (tn_9_1_2 w os f1 f2 r b)) ?_
  refine go_go (n := 20) (m := 1866) (go_of (tn_9_1_3 w os f1 f2 r b)) ?_
  refine go_go (n := 22) (m := 1844) (go_of (tn_9_1_4 w os f1 f2 r b)) ?_
  refine go_go (n := 20) (m := 1824) (go_of (tn_9_1_5 w os f1 f2 r b)) ?_
  refine go_go (n := 20) (m := 1804) (go_of (tn_9_1_6 w os f1 f2 r b)) ?_
  refine go_go (n := 20) (m := 1784) (go_of (tn_9_1_7 w os f1 f2 r b)) ?_
  refine go_go (n := 20) (m := 1764) (go_of (tn_9_1_8 w os f1 f2 r b)) ?_
  refine go_go (n := 20) (m := 1744) (go_of (tn_9_1_9 w os f1 f2 r b)) ?_
  refine go_go (n := 20) (m := 1724) (go_of (tn_9_1_10 w os f1 f2 r b)) ?_
  refine go_go (n := 20) (m := 1704) (go_of (tn_9_1_11 w os f1 f2 r b)) ?_
  refine go_go (n := 20) (m := 1684) (go_of (tn_9_1_12 w os f1 f2 r b)) ?_
  refine go_go (n := 20) (m := 1664) (go_of (tn_9_1_13 w os f1 f2 r b)) ?_
  refine go_go (n := 20) (m := 1644) (go_of (tn_9_1_14 w os f1 f2 r b)) ?_
  refine go_go (n := 20) (m := 1624) (go_of (tn_9_1_15 w os f1 f2 r b)) ?_
  refine go_go (n := 20) (m := 1604) (go_of (tn_9_1_16 w os f1 f2 r b)) ?_
  refine go_go (n := 20) (m := 1584) (go_of (tn_9_1_17 w os f1 f2 r b)) ?_
  refine go_go (n := 22) (m := 1562) (go_of (tn_9_1_18 w os f1 f2 r b)) ?_
  refine go_go (n := 20) (m := 1542) (go_of (tn_9_1_19 w os f1 f2 r b)) ?_
  refine go_go (n := 20) (m := 1522) (go_of (tn_9_1_20 w os f1 f2 r b)) ?_
  refine go_go (n := 20) (m := 1502) (go_of (tn_9_1_21 w os f1 f2 r b)) ?_
  refine go_go (n := 20) (m := 1482) (go_of (tn_9_1_22 w os f1 f2 r b)) ?_
  refine go_go (n := 20) (m := 1462) (go_of (tn_9_1_23 w os f1 f2 r b)) ?_
  refine go_go (n := 20) (m := 1442) (go_of (tn_9_1_24 w os f1 f2 r b)) ?_
  refine go_go (n := 20) (m := 1422) (go_of (tn_9_1_25 w os f1 f2 r b)) ?_
  refine go_go (n := 20) (m := 1402) (go_of (tn_9_1_26 w os f1 f2 r b)) ?_
  refine go_go (n := 20) (m := 1382) (go_of (tn_9_1_27 w os f1 f2 r b)) ?_
  refine go_go (n := 20) (m := 1362) (go_of (tn_9_1_28 w os f1 f2 r b)) ?_
  refine go_go (n := 20) (m := 1342) (go_of (tn_9_1_29 w os f1 f2 r b)) ?_
  refine go_go (n := 20) (m := 1322) (go_of (tn_9_1_30 w os f1 f2 r b)) ?_
  refine go_go (n := 20) (m := 1302) (go_of (tn_9_1_31 w os f1 f2 r b)) ?_
  refine go_go (n := 20) (m := 1282) (go_of (tn_9_1_32 w os f1 f2 r b)) ?_
  refine go_go (n := 20) (m := 1262) (go_of (tn_9_1_33 w os f1 f2 r b)) ?_
  refine go_go (n := 20) (m := 1242) (go_of (tn_9_1_34 w os f1 f2 r b)) ?_
  refine go_go (n := 20) (m := 1222) (go_of (tn_9_1_35 w os f1 f2 r b)) ?_
  refine go_go (n := 20) (m := 1202) (go_of (tn_9_1_36 w os f1 f2 r b)) ?_
  refine go_go (n := 20) (m := 1182) (go_of (tn_9_1_37 w os f1 f2 r b)) ?_
  refine go_go (n := 20) (m := 1162) (go_of (tn_9_1_38 w os f1 f2 r b)) ?_
  refine go_go (n := 20) (m := 1142) (go_of (tn_9_1_39 w os f1 f2 r b)) ?_
  refine go_go (n := 20) (m := 1122) (go_of (tn_9_1_40 w os f1 f2 r b)) ?_
  refine go_go (n := 20) (m := 1102) (go_of (tn_9_1_41 w os f1 f2 r b)) ?_
  refine go_go (n := 20) (m := 1082) (go_of (tn_9_1_42 w os f1 f2 r b)) ?_
  refine go_go (n := 20) (m := 1062) (go_of (tn_9_1_43 w os f1 f2 r b)) ?_
  refine go_go (n := 20) (m := 1042) (go_of (tn_9_1_44 w os f1 f2 r b)) ?_
  refine go_go (n := 20) (m := 1022) (go_of (tn_9_1_45 w os f1 f2 r b)) ?_
  refine go_go (n := 20) (m := 1002) (go_of (tn_9_1_46 w os f1 f2 r b)) ?_
  refine go_go (n := 20) (m := 982) (go_of (tn_9_1_47 w os f1 f2 r b)) ?_
  refine go_go (n := 20) (m := 962) (go_of (tn_9_1_48 w os f1 f2 r b)) ?_
  refine go_go (n := 20) (m := 942) (go_of (tn_9_1_49 w os f1 f2 r b)) ?_
  refine go_go (n := 20) (m := 922) (go_of (tn_9_1_50 w os f1 f2 r b)) ?_
  refine go_go (n := 20) (m := 902) (go_of (tn_9_1_51 w os f1 f2 r b)) ?_
  refine go_go (n := 20) (m := 882) (go_of (tn_9_1_52 w os f1 f2 r b)) ?_
  refine go_go (n := 20) (m := 862) (go_of (tn_9_1_53 w os f1 f2 r b)) ?_
  refine go_go (n := 20) (m := 842) (go_of (tn_9_1_54 w os f1 f2 r b)) ?_
  refine go_go (n := 20) (m := 822) (go_of (tn_9_1_55 w os f1 f2 r b)) ?_
  refine go_go (n := 20) (m := 802) (go_of (tn_9_1_56 w os f1 f2 r b)) ?_
  refine go_go (n := 20) (m := 782) (go_of (tn_9_1_57 w os f1 f2 r b)) ?_
  refine go_go (n := 20) (m := 762) (go_of (tn_9_1_58 w os f1 f2 r b)) ?_
  refine go_go (n := 20) (m := 742) (go_of (tn_9_1_59 w os f1 f2 r b)) ?_
  refine go_go (n := 20) (m := 722) (go_of (tn_9_1_60 w os f1 f2 r b)) ?_
  refine go_go (n := 20) (m := 702) (go_of (tn_9_1_61 w os f1 f2 r b)) ?_
  refine go_go (n := 20) (m := 682) (go_of (tn_9_1_62 w os f1 f2 r b)) ?_
  refine go_go (n := 20) (m := 662) (go_of (tn_9_1_63 w os f1 f2 r b)) ?_
  refine go_go (n := 20) (m := 642) (go_of (tn_9_1_64 w os f1 f2 r b)) ?_
  refine go_go (n := 20) (m := 622) (go_of (tn_9_1_65 w os f1 f2 r b)) ?_
  refine go_go (n := 20) (m := 602) (go_of (tn_9_1_66 w os f1 f2 r b)) ?_
  refine go_go (n := 20) (m := 582) (go_of (tn_9_1_67 w os f1 f2 r b)) ?_
  refine go_go (n := 20) (m := 562) (go_of (tn_9_1_68 w os f1 f2 r b)) ?_
  refine go_go (n := 20) (m := 542) (go_of (tn_9_1_69 w os f1 f2 r b)) ?_
  refine go_go (n := 20) (m := 522) (go_of (tn_9_1_70 w os f1 f2 r b)) ?_
  refine go_go (n := 20) (m := 502) (go_of (tn_9_1_71 w os f1 f2 r b)) ?_
  refine go_go (n := 20) (m := 482) (go_of (tn_9_1_72 w os f1 f2 r b)) ?_
  refine go_go (n := 20) (m := 462) (go_of (tn_9_1_73 w os f1 f2 r b)) ?_
  refine go_go (n := 20) (m := 442) (go_of (tn_9_1_74 w os f1 f2 r b)) ?_
  refine go_go (n := 20) (m := 422) (go_of (tn_9_1_75 w os f1 f2 r b)) ?_
  refine go_go (n := 22) (m := 400) (go_of (tn_9_1_76 w os f1 f2 r b)) ?_
  refine go_go (n := 20) (m := 380) (go_of (tn_9_1_77 w os f1 f2 r b)) ?_
  refine go_go (n := 20) (m := 360) (go_of (tn_9_1_78 w os f1 f2 r b)) ?_
  refine go_go (n := 20) (m := 340) (go_of (tn_9_1_79 w os f1 f2 r b)) ?_
  refine go_go (n := 20) (m := 320) (go_of (tn_9_1_80 w os f1 f2 r b)) ?_
  refine go_go (n := 20) (m := 300) (go_of (tn_9_1_81 w os f1 f2 r b)) ?_
  refine go_go (n := 20) (m := 280) (go_of (tn_9_1_82 w os f1 f2 r b)) ?_
  refine go_go (n := 20) (m := 260) (go_of (tn_9_1_83 w os f1 f2 r b)) ?_
  refine go_go (n := 20) (m := 240) (go_of (tn_9_1_84 w os f1 f2 r b)) ?_
  refine go_go (n := 20) (m := 220) (go_of (tn_9_1_85 w os f1 f2 r b)) ?_
  refine go_go (n := 20) (m := 200) (go_of (tn_9_1_86 w os f1 f2 r b)) ?_
  refine go_go (n := 20) (m := 180) (go_of (tn_9_1_87 w os f1 f2 r b)) ?_
  refine go_go (n := 20) (m := 160) (go_of (tn_9_1_88 w os f1 f2 r b)) ?_
  refine go_go (n := 20) (m := 140) (go_of (tn_9_1_89 w os f1 f2 r b)) ?_
  refine go_go (n := 20) (m := 120) (go_of (tn_9_1_90 w os f1 f2 r b)) ?_
  refine go_go (n := 20) (m := 100) (go_of (tn_9_1_91 w os f1 f2 r b)) ?_
  refine go_go (n := 20) (m := 80) (go_of (tn_9_1_92 w os f1 f2 r b)) ?_
  refine go_go (n := 20) (m := 60) (go_of (tn_9_1_93 w os f1 f2 r b)) ?_
  refine go_go (n := 20) (m := 40) (go_of (tn_9_1_94 w os f1 f2 r b)) ?_
  refine go_go (n := 20) (m := 20) (go_of (tn_9_1_95 w os f1 f2 r b)) ?_
  exact go_of (tn_9_1_96 w os f1 f2 r b)
theorem sl_9_1 (w : World) : ∀ os : OsState, (stk_9_1 w os).length = 2 + 2 := byRow2 "special-get-raises" (P := fun w => ∀ os : OsState, (stk_9_1 w os).length = 2 + 2) (by intro w os; kernel_rfl) (by intro w os; kernel_rfl) w
theorem lq_9_1 (w : World) (os : OsState) : segGo treeTable pw w 11 annE 1 1946 ((S_9_1_0 (ledOf w.params)) w os).abs (loopAt PySem.W.SL.s10534883147002075979x15 ⟨[(.ref 84), (.ref 85)], []⟩ ⟨20, 9, 20, 52⟩ (stk_9_1 w os)) = some (((S_9_1_97 (ledOf w.params)) w os).abs, (loopAt PySem.W.SL.s10534883147002075979x15 ⟨[(.ref 84), (.ref 85)], []⟩ ⟨20, 9, 20, 52⟩ (stk_9_1 w os))) := by
  obtain ⟨f1, f2, r, e⟩ := two_of (sl_9_1 w os)
  rw [e]
  exact lp_9_1 w os f1 f2 r (ledOf w.params)
theorem st_9 (w : World) (os : OsState) : segRun treeTable pw w 11 annE 1 3751 (S_9 w os).abs (wholeAt 9 ⟨18, 0, 19, 30⟩) = some (.next, (S_10 w os).abs, cE, ⟨20, 0, 20, 6⟩) := by
  refine seg_go (n := 87) (N := 3664) (go_of (go_9_0 w os)) ?_
  refine seg_go (n := 1632) (N := 2032) (lq_9_0 w os) ?_
  refine seg_go (n := 59) (N := 1973) (go_of (go_9_1 w os)) ?_
  refine seg_go (n := 1946) (N := 27) (lq_9_1 w os) ?_
  exact run_of (pc_9 w os)
theorem st_10 (w : World) (os : OsState) : segRun treeTable pw w 11 annE 1 30 (S_10 w os).abs (wholeAt 10 ⟨20, 0, 20, 6⟩) = some (.next, (S_11 w os).abs, cE, ⟨21, 0, 22, 30⟩) := by
  exact run_of (pc_10 w os)
theorem st_11 (w : World) (os : OsState) : segRun treeTable pw w 11 annE 1 10 (S_11 w os).abs (wholeAt 11 ⟨21, 0, 22, 30⟩) = some (.next, (S_12 w os).abs, cE, ⟨23, 0, 23, 8⟩) := by
  exact run_of (pc_11 w os)
theorem st_12 (w : World) (os : OsState) : segRun treeTable pw w 11 annE 1 33 (S_12 w os).abs (wholeAt 12 ⟨23, 0, 23, 8⟩) = some (.next, (S_13 w os).abs, cE, ⟨24, 0, 32, 76⟩) := by
  exact run_of (pc_12 w os)
theorem st_13 (w : World) (os : OsState) : segRun treeTable pw w 11 annE 1 35 (S_13 w os).abs (wholeAt 13 ⟨24, 0, 32, 76⟩) = some (.next, (S_14 w os).abs, cE, ⟨33, 0, 42, 15⟩) := by
  exact run_of (pc_13 w os)
theorem body_eq : stBody = ([stAt 0] ++ ([stAt 1] ++ ([stAt 2] ++ ([stAt 3] ++ ([stAt 4] ++ ([stAt 5] ++ ([stAt 6] ++ ([stAt 7] ++ ([stAt 8] ++ ([stAt 9] ++ ([stAt 10] ++ ([stAt 11] ++ ([stAt 12] ++ ([stAt 13] ++ [])))))))))))))) := by kernel_rfl
theorem heap_eq (P : Params) : absHeap (tree_14 P) 109 life0 = heapZ P := by kernel_rfl
theorem top_fin (w : World) (os : OsState) : topRun treeTable pw w 11 annE 2 (S_14 w os).abs ⟨doneF .next, cE, ⟨33, 0, 42, 15⟩, [topFrame ⟨0, 0, 0, 0⟩]⟩ = some (S_14 w os).abs := by kernel_rfl
theorem top_14 (w : World) (os : OsState) : topRun treeTable pw w 11 annE 2 (S_14 w os).abs (restOf [] envE cE ⟨33, 0, 42, 15⟩ [topFrame ⟨0, 0, 0, 0⟩]) = some (S_14 w os).abs := piece_nil (top_fin w os)
theorem top_13 (w : World) (os : OsState) : topRun treeTable pw w 11 annE 37 (S_13 w os).abs (restOf ([stAt 13] ++ []) envE cE ⟨24, 0, 32, 76⟩ [topFrame ⟨0, 0, 0, 0⟩]) = some (S_14 w os).abs := piece_app (n := 35) (N := 2) (st_13 w os) (top_14 w os)
theorem top_12 (w : World) (os : OsState) : topRun treeTable pw w 11 annE 70 (S_12 w os).abs (restOf ([stAt 12] ++ ([stAt 13] ++ [])) envE cE ⟨23, 0, 23, 8⟩ [topFrame ⟨0, 0, 0, 0⟩]) = some (S_14 w os).abs := piece_app (n := 33) (N := 37) (st_12 w os) (top_13 w os)
theorem top_11 (w : World) (os : OsState) : topRun treeTable pw w 11 annE 80 (S_11 w os).abs (restOf ([stAt 11] ++ ([stAt 12] ++ ([stAt 13] ++ []))) envE cE ⟨21, 0, 22, 30⟩ [topFrame ⟨0, 0, 0, 0⟩]) = some (S_14 w os).abs := piece_app (n := 10) (N := 70) (st_11 w os) (top_12 w os)
theorem top_10 (w : World) (os : OsState) : topRun treeTable pw w 11 annE 110 (S_10 w os).abs (restOf ([stAt 10] ++ ([stAt 11] ++ ([stAt 12] ++ ([stAt 13] ++ [])))) envE cE ⟨20, 0, 20, 6⟩ [topFrame ⟨0, 0, 0, 0⟩]) = some (S_14 w os).abs := piece_app (n := 30) (N := 80) (st_10 w os) (top_11 w os)
theorem top_9 (w : World) (os : OsState) : topRun treeTable pw w 11 annE 3861 (S_9 w os).abs (restOf ([stAt 9] ++ ([stAt 10] ++ ([stAt 11] ++ ([stAt 12] ++ ([stAt 13] ++ []))))) envE cE ⟨18, 0, 19, 30⟩ [topFrame ⟨0, 0, 0, 0⟩]) = some (S_14 w os).abs := piece_app (n := 3751) (N := 110) (st_9 w os) (top_10 w os)
theorem top_8 (w : World) (os : OsState) : topRun treeTable pw w 11 annE 3891 (S_8 w os).abs (restOf ([stAt 8] ++ ([stAt 9] ++ ([stAt 10] ++ ([stAt 11] ++ ([stAt 12] ++ ([stAt 13] ++ [])))))) envE cE ⟨17, 0, 17, 6⟩ [topFrame ⟨0, 0, 0, 0⟩]) = some (S_14 w os).abs := piece_app (n := 30) (N := 3861) (st_8 w os) (top_9 w os)
theorem top_7 (w : World) (os : OsState) : topRun treeTable pw w 11 annE 4666 (S_7 w os).abs (restOf ([stAt 7] ++ ([stAt 8] ++ ([stAt 9] ++ ([stAt 10] ++ ([stAt 11] ++ ([stAt 12] ++ ([stAt 13] ++ []))))))) envE cE ⟨15, 0, 16, 30⟩ [topFrame ⟨0, 0, 0, 0⟩]) = some (S_14 w os).abs := piece_app (n := 775) (N := 3891) (st_7 w os) (top_8 w os)
theorem top_6 (w : World) (os : OsState) : topRun treeTable pw w 11 annE 4696 (S_6 w os).abs (restOf ([stAt 6] ++ ([stAt 7] ++ ([stAt 8] ++ ([stAt 9] ++ ([stAt 10] ++ ([stAt 11] ++ ([stAt 12] ++ ([stAt 13] ++ [])))))))) envE cE ⟨14, 0, 14, 6⟩ [topFrame ⟨0, 0, 0, 0⟩]) = some (S_14 w os).abs := piece_app (n := 30) (N := 4666) (st_6 w os) (top_7 w os)
theorem top_5 (w : World) (os : OsState) : topRun treeTable pw w 11 annE 5057 (S_5 w os).abs (restOf ([stAt 5] ++ ([stAt 6] ++ ([stAt 7] ++ ([stAt 8] ++ ([stAt 9] ++ ([stAt 10] ++ ([stAt 11] ++ ([stAt 12] ++ ([stAt 13] ++ []))))))))) envE cE ⟨12, 0, 13, 30⟩ [topFrame ⟨0, 0, 0, 0⟩]) = some (S_14 w os).abs := piece_app (n := 361) (N := 4696) (st_5 w os) (top_6 w os)
theorem top_4 (w : World) (os : OsState) : topRun treeTable pw w 11 annE 5087 (S_4 w os).abs (restOf ([stAt 4] ++ ([stAt 5] ++ ([stAt 6] ++ ([stAt 7] ++ ([stAt 8] ++ ([stAt 9] ++ ([stAt 10] ++ ([stAt 11] ++ ([stAt 12] ++ ([stAt 13] ++ [])))))))))) envE cE ⟨11, 0, 11, 6⟩ [topFrame ⟨0, 0, 0, 0⟩]) = some (S_14 w os).abs := piece_app (n := 30) (N := 5057) (st_4 w os) (top_5 w os)
theorem top_3 (w : World) (os : OsState) : topRun treeTable pw w 11 annE 5287 (S_3 w os).abs (restOf ([stAt 3] ++ ([stAt 4] ++ ([stAt 5] ++ ([stAt 6] ++ ([stAt 7] ++ ([stAt 8] ++ ([stAt 9] ++ ([stAt 10] ++ ([stAt 11] ++ ([stAt 12] ++ ([stAt 13] ++ []))))))))))) envE cE ⟨4, 0, 10, 46⟩ [topFrame ⟨0, 0, 0, 0⟩]) = some (S_14 w os).abs := piece_app (n := 200) (N := 5087) (st_3 w os) (top_4 w os)
theorem top_2 (w : World) (os : OsState) : topRun treeTable pw w 11 annE 5318 (S_2 w os).abs (restOf ([stAt 2] ++ ([stAt 3] ++ ([stAt 4] ++ ([stAt 5] ++ ([stAt 6] ++ ([stAt 7] ++ ([stAt 8] ++ ([stAt 9] ++ ([stAt 10] ++ ([stAt 11] ++ ([stAt 12] ++ ([stAt 13] ++ [])))))))))))) envE cE ⟨2, 0, 3, 22⟩ [topFrame ⟨0, 0, 0, 0⟩]) = some (S_14 w os).abs := piece_app (n := 31) (N := 5287) (st_2 w os) (top_3 w os)
theorem top_1 (w : World) (os : OsState) : topRun treeTable pw w 11 annE 5348 (S_1 w os).abs (restOf ([stAt 1] ++ ([stAt 2] ++ ([stAt 3] ++ ([stAt 4] ++ ([stAt 5] ++ ([stAt 6] ++ ([stAt 7] ++ ([stAt 8] ++ ([stAt 9] ++ ([stAt 10] ++ ([stAt 11] ++ ([stAt 12] ++ ([stAt 13] ++ []))))))))))))) envE cE ⟨1, 0, 1, 8⟩ [topFrame ⟨0, 0, 0, 0⟩]) = some (S_14 w os).abs := piece_app (n := 30) (N := 5318) (st_1 w os) (top_2 w os)
theorem top_0 (w : World) (os : OsState) : topRun treeTable pw w 11 annE 5358 (S_0 w os).abs (restOf ([stAt 0] ++ ([stAt 1] ++ ([stAt 2] ++ ([stAt 3] ++ ([stAt 4] ++ ([stAt 5] ++ ([stAt 6] ++ ([stAt 7] ++ ([stAt 8] ++ ([stAt 9] ++ ([stAt 10] ++ ([stAt 11] ++ ([stAt 12] ++ ([stAt 13] ++ [])))))))))))))) envE cE ⟨0, 0, 0, 0⟩ [topFrame ⟨0, 0, 0, 0⟩]) = some (S_14 w os).abs := piece_app (n := 10) (N := 5348) (st_0 w os) (top_1 w os)
abbrev sA (w : World) (os : OsState) : Shared := ⟨heapA w.params, ⟨[]⟩, ⟨0, 0, 0, 0⟩, 187, os⟩
theorem top_body (w : World) (os : OsState) : topRun treeTable pw w 11 annE 5358 (S_0 w os).abs (restOf stBody envE cE ⟨0, 0, 0, 0⟩ [topFrame ⟨0, 0, 0, 0⟩]) = some (S_14 w os).abs := by
  have e : restOf stBody envE cE ⟨0, 0, 0, 0⟩ [topFrame ⟨0, 0, 0, 0⟩] = restOf (([stAt 0] ++ ([stAt 1] ++ ([stAt 2] ++ ([stAt 3] ++ ([stAt 4] ++ ([stAt 5] ++ ([stAt 6] ++ ([stAt 7] ++ ([stAt 8] ++ ([stAt 9] ++ ([stAt 10] ++ ([stAt 11] ++ ([stAt 12] ++ ([stAt 13] ++ []))))))))))))))) envE cE ⟨0, 0, 0, 0⟩ [topFrame ⟨0, 0, 0, 0⟩] := congrArg (fun l => restOf l envE cE ⟨0, 0, 0, 0⟩ [topFrame ⟨0, 0, 0, 0⟩]) body_eq
  rw [e]
  exact top_0 w os
theorem top_block (w : World) (os : OsState) : segRun treeTable pw w 11 annE 1 1 (sA w os) (blockOf stBody envE cE ⟨0, 0, 0, 0⟩ [topFrame ⟨0, 0, 0, 0⟩]) = some (.next, (S_0 w os).abs, cE, ⟨0, 0, 0, 0⟩) := by kernel_rfl
theorem top_pre (w : World) (os : OsState) : topGo treeTable pw w 11 annE 12 ⟨boot_heap w.params, Array.mk [], boot_drawn, boot_toks, os⟩ (topStub pw) = some (sA w os, ⟨denote treeTable cE, cE, ⟨0, 0, 0, 0⟩, [topFrame ⟨0, 0, 0, 0⟩]⟩) := by kernel_rfl
theorem top_run (w : World) (os : OsState) : topRun treeTable pw w 11 annE 5371 ⟨boot_heap w.params, Array.mk [], boot_drawn, boot_toks, os⟩ (topStub pw) = some (sZ w os) := by
  have h := go_top (n := 12) (N := 5359) (top_pre w os) (piece_block (n := 1) (N := 5358) (top_block w os) (top_body w os))
  have e : (S_14 w os).abs = sZ w os := by
    show Shared.mk (absHeap (tree_14 w.params) 109 life0) _ _ _ _ = _
    rw [heap_eq]; rfl
  rw [e] at h
  exact h
theorem left : LeftO pw viewQ looseN XtF hk.obs hk.val 20000 := by
  refine LeftO.of_pieces (H₀ := boot_heap) (H₁ := heapZ) (gs₀ := Array.mk []) (gs₁ := ⟨[]⟩) (d₀ := boot_drawn) (d₁ := ⟨0, 0, 0, 0⟩) (k₀ := boot_toks) (k₁ := 539) (m₀ := 11) (ann := annE) (M := 5371) open_w size_w (fun w os => top_run w os) rfl fun w => ?_
  funext os
  refine Prod.ext (look_a w os) (Prod.ext ?_ (look_y w os))
  exact Prod.ext (look_1 w os) (Prod.ext (look_2 w os) (Prod.ext (look_3 w os) (Prod.ext (look_4 w os) (Prod.ext (look_5 w os) (Prod.ext (look_6 w os) (Prod.ext (look_7 w os) (Prod.ext (look_8 w os) (look_9 w os))))))))
end Wy70
end

end
section -- WySet
open PySem PySem.W PyProof.Rows
set_option maxRecDepth 100000
namespace Wy70
/-- the ints that a set's entries hold -/
def ksOf (es : List (Int × Value)) : List Int := es.filterMap fun e => match e.2 with | .int i _ => some i | _ => none
def esOk (es : List (Int × Value)) : Bool := es.all fun e => match e.2 with | .int i _ => hashInt i == e.1 | _ => false
theorem ks_mem {es : List (Int × Value)} (k : Int) : k ∈ ksOf es ↔ ∃ e ∈ es, Value.isInt k e.2 = true := by
  unfold ksOf
  rw [List.mem_filterMap]
  constructor
  · rintro ⟨e, he, h⟩
    refine ⟨e, he, ?_⟩
    split at h
    · rename_i i t q
      cases h
      rw [q]
      simp [Value.isInt]
    · cases h
  · rintro ⟨e, he, h⟩
    refine ⟨e, he, ?_⟩
    obtain ⟨t, q⟩ := Value.isInt_shape h
    rw [q]
theorem set_of {es : List (Int × Value)} {ep : Nat} {t : SetTable} (S : Int → Bool) (h1 : esOk es = true) (h2 : t.fits es.length = true) (h3 : ∀ k, S k = true ↔ k ∈ ksOf es) (prog : Program) (w : World) :
    Obj.SetObjOf (intKind prog w) ⟨.type "set", none, .set ⟨es⟩ ep t, ⟨[]⟩⟩ S es.length := by
  refine ⟨⟨rfl, rfl, rfl⟩, ⟨es⟩, ep, t, rfl, fun e he => ?_, fun k => ?_, rfl, h2⟩
  · have h := List.all_eq_true.mp h1 e he
    split at h
    · rename_i i tk q
      refine ⟨⟨i, ?_, ?_⟩, ?_⟩
      · rw [q]; show Value.isInt i (.int i tk) = true; simp [Value.isInt]
      · exact (beq_iff_eq.mp h).symm
      · rw [q]; rfl
    · cases h
  · rw [h3 k, ks_mem k]; exact Iff.rfl
abbrev S6 (k : Int) : Bool := decide (65529 ≤ k ∧ k ≤ 65533)
abbrev S7 (k : Int) : Bool := decide (12272 ≤ k ∧ k ≤ 12283)
abbrev S8 (k : Int) : Bool := decide ((k = 832 ∨ k = 833 ∨ k = 8206 ∨ k = 8207) ∨ (8234 ≤ k ∧ k ≤ 8238) ∨ (8298 ≤ k ∧ k ≤ 8303))
abbrev S9 (k : Int) : Bool := decide (k = 917505 ∨ (917536 ≤ k ∧ k ≤ 917631))
theorem set30 (b : Bool) (prog : Program) (w : World) : Obj.SetObjOf (intKind prog w) (c_3_0_5 b) S6 5 :=
  set_of S6 (by kernel_rfl) (by kernel_rfl) (fun k => by
    have e : ksOf [(65529, (.int 65529 207)), (65530, (.int 65530 209)), (65531, (.int 65531 211)), (65532, (.int 65532 213)), (65533, (.int 65533 215))] = [65529, 65530, 65531, 65532, 65533] := by kernel_rfl
    rw [e, decide_eq_true_eq]; simp only [List.mem_cons, List.not_mem_nil, or_false]; omega) prog w
theorem set42 (b : Bool) (prog : Program) (w : World) : Obj.SetObjOf (intKind prog w) (c_5_0_12 b) S7 12 :=
  set_of S7 (by kernel_rfl) (by kernel_rfl) (fun k => by
    have e : ∀ l : List Int, l = [12272, 12273, 12274, 12275, 12276, 12277, 12278, 12279, 12280, 12281, 12282, 12283] → (S7 k = true ↔ k ∈ l) := by
      rintro l rfl
      rw [decide_eq_true_eq]; simp only [List.mem_cons, List.not_mem_nil, or_false]; omega
    exact e _ (by kernel_rfl)) prog w
theorem set66 (b : Bool) (prog : Program) (w : World) : Obj.SetObjOf (intKind prog w) (c_7_2_15 b) S8 15 :=
  set_of S8 (by kernel_rfl) (by kernel_rfl) (fun k => by
    have e : ∀ l : List Int, l = [832, 833, 8234, 8235, 8236, 8237, 8206, 8207, 8238, 8298, 8299, 8300, 8301, 8302, 8303] → (S8 k = true ↔ k ∈ l) := by
      rintro l rfl
      rw [decide_eq_true_eq]; simp only [List.mem_cons, List.not_mem_nil, or_false]; omega
    exact e _ (by kernel_rfl)) prog w
theorem set84 (b : Bool) (prog : Program) (w : World) : Obj.SetObjOf (intKind prog w) (c_9_1_97 b) S9 97 :=
  set_of (es := es_9_1.take 97) S9 (by kernel_rfl) (by kernel_rfl) (fun k => by
    have e : ∀ l : List Int, l = 917505 :: (List.range 96).map (fun i : Nat => (917536 : Int) + i) → (S9 k = true ↔ k ∈ l) := by
      rintro l rfl
      rw [decide_eq_true_eq, List.mem_cons, List.mem_map]
      constructor
      · rintro (h | ⟨h, h'⟩)
        · exact .inl h
        · exact .inr ⟨(k - 917536).toNat, List.mem_range.mpr (by omega), by omega⟩
      · rintro (h | ⟨i, hi, rfl⟩)
        · exact .inl h
        · have := List.mem_range.mp hi
          exact .inr ⟨by omega, by omega⟩
    exact e _ (by kernel_rfl)) prog w
section
variable {w : World} {h : Heap} (X : (partK w.params).In h)
include X
theorem at30 : h.get? 30 = some (c_3_0_5 (ledOf w.params)) := X 30 _ (by kernel_rfl)
theorem at42 : h.get? 42 = some (c_5_0_12 (ledOf w.params)) := X 42 _ (by kernel_rfl)
theorem at66 : h.get? 66 = some (c_7_2_15 (ledOf w.params)) := X 66 _ (by kernel_rfl)
theorem at84 : h.get? 84 = some (c_9_1_97 (ledOf w.params)) := X 84 _ (by kernel_rfl)
end
end Wy70

end
section -- WyTab
open PySem PySem.W PyProof.Rows PySem.Spec PySem.Calls
namespace Wy70
abbrev pwr : Program := PySem.Challenge.rw_wy0070_01.row.prog
/-- what a call of the def at f hands back, whatever the caller (the library's own form of such a claim) -/
abbrev Claim1 (w : World) (mean : ExcName → Option Value) (mg mb : Str → Option Value) (f : Addr) (news : CbLed) (pre : Prop) (vs : List Value) (R : Tok → Value) : Prop :=
  CbClaim pwr w (partK w.params) viewQ (looseW viewQ looseN) mean mg mb f news [] pre vs R
abbrev S1 (k : Int) : Bool := decide (k = 32)
abbrev S4 (k : Int) : Bool := decide ((64976 ≤ k ∧ k ≤ 65007) ∨ k % 65536 > 65533)
theorem is11 {c : Int} (h : 0 ≤ c) : ((⟨#[c.toNat]⟩ : Str) == Str.ofString " ") = S1 c := by
  have e : Str.ofString " " = ⟨#[32]⟩ := by kernel_rfl
  rw [e]
  by_cases q : c = 32
  · subst q; rfl
  · have : c.toNat ≠ 32 := by omega
    rw [show S1 c = false from decide_eq_false q]
    exact beq_eq_false_iff_ne.mpr fun z => this (by simpa using z)
theorem is4 {c : Int} (h : 0 ≤ c) (h2 : ¬ ((c.toNat : Nat) : Int) < 65008) : ([65534, 65535].any fun x => x == Builtin.bitAnd ((c.toNat : Nat) : Int) 65535) = S4 c := by
  rw [bitAnd_m16, Int.toNat_of_nonneg h]
  simp only [List.any_cons, List.any_nil, Bool.or_false]
  rw [Bool.eq_iff_iff, Bool.or_eq_true, beq_iff_eq, beq_iff_eq, decide_eq_true_eq]
  omega
theorem same6 {c : Int} (h : 0 ≤ c) : S6 ((c.toNat : Nat) : Int) = S6 c := by rw [Int.toNat_of_nonneg h]
theorem same7 {c : Int} (h : 0 ≤ c) : S7 ((c.toNat : Nat) : Int) = S7 c := by rw [Int.toNat_of_nonneg h]
theorem same8 {c : Int} (h : 0 ≤ c) : S8 ((c.toNat : Nat) : Int) = S8 c := by rw [Int.toNat_of_nonneg h]
theorem same9 {c : Int} (h : 0 ≤ c) : S9 ((c.toNat : Nat) : Int) = S9 c := by rw [Int.toNat_of_nonneg h]
theorem low4 {c : Int} (h : 0 ≤ c) (h1 : ((c.toNat : Nat) : Int) < 64976) : false = S4 c := (decide_eq_false (by omega)).symm
theorem mid4 {c : Int} (h : 0 ≤ c) (h1 : ¬ ((c.toNat : Nat) : Int) < 64976) (h2 : ((c.toNat : Nat) : Int) < 65008) : true = S4 c := (decide_eq_true (by omega)).symm
local macro_rules | `(tactic| walk_at "compareOp In int ref") => `(tactic| (k_here; first
  | k_dflt (refine in_argsetI (by k_asm) (set30 _ _ _) (at30 (by k_asm)) (by decide) ?_)
  | k_dflt (refine in_argsetI (by k_asm) (set42 _ _ _) (at42 (by k_asm)) (by decide) ?_)
  | k_dflt (refine in_argsetI (by k_asm) (set66 _ _ _) (at66 (by k_asm)) (by decide) ?_)
  | k_dflt (refine in_argsetI (by k_asm) (set84 _ _ _) (at84 (by k_asm)) (by decide) ?_)))
local macro_rules | `(tactic| walk_at "call builtin:ord") => `(tactic| (k_here; (refine P.ord_of_char ?_)))
section
variable (w : World) (mean : ExcName → Option Value) (mg mb : Str → Option Value) (cbNews : CbLed) (c : Int) (t : Tok)
set_option maxRecDepth 100000 in
set_option maxHeartbeats 8000000 in
theorem c11_claim : Claim1 w mean mg mb 21 cbNews (0 ≤ c) [Value.str ⟨#[c.toNat]⟩ t] (fun _ => .bool (S1 c)) := by
  dsimp only [Claim1, pwr, CbClaim, CbLists, CbRet]
  k_fill
  intros; rename_i hpre _ _ hret
  refine wpAny_call ?_
  k_dflt cell_enter
  k_steps
  exact cb_retB (Q := fun v s => _) hret (is11 hpre) (by k_asm) (by first | k_asm | (refine' cb_drop ?cbN ?cbS; (case cbN => assumption); (case cbS => kcj_all)))
set_option maxRecDepth 100000 in
set_option maxHeartbeats 8000000 in
theorem c4_claim : Claim1 w mean mg mb 28 cbNews (0 ≤ c) [Value.str ⟨#[c.toNat]⟩ t] (fun _ => .bool (S4 c)) := by
  dsimp only [Claim1, pwr, CbClaim, CbLists, CbRet]
  k_fill
  intros; rename_i hpre _ _ hret
  refine wpAny_call ?_
  k_dflt cell_enter
  k_steps
  all_goals first
    | exact cb_retB hret (low4 hpre (by omega)) (by k_asm) (by first | k_asm | (refine' cb_drop ?cbN ?cbS; (case cbN => assumption); (case cbS => kcj_all)))
    | exact cb_retB hret (mid4 hpre (by omega) (by omega)) (by k_asm) (by first | k_asm | (refine' cb_drop ?cbN ?cbS; (case cbN => assumption); (case cbS => kcj_all)))
    | exact cb_retB hret (is4 hpre (by omega)) (by k_asm) (by first | k_asm | (refine' cb_drop ?cbN ?cbS; (case cbN => assumption); (case cbS => kcj_all)))
set_option maxRecDepth 100000 in
set_option maxHeartbeats 8000000 in
theorem c6_claim : Claim1 w mean mg mb 40 cbNews (0 ≤ c) [Value.str ⟨#[c.toNat]⟩ t] (fun _ => .bool (S6 c)) := by
  dsimp only [Claim1, pwr, CbClaim, CbLists, CbRet]
  k_fill
  intros; rename_i hpre _ _ hret
  refine wpAny_call ?_
  k_dflt cell_enter
  k_steps
  exact cb_retB hret (same6 hpre) (by k_asm) (by first | k_asm | (refine' cb_drop ?cbN ?cbS; (case cbN => assumption); (case cbS => kcj_all)))
set_option maxRecDepth 100000 in
set_option maxHeartbeats 8000000 in
theorem c7_claim : Claim1 w mean mg mb 52 cbNews (0 ≤ c) [Value.str ⟨#[c.toNat]⟩ t] (fun _ => .bool (S7 c)) := by
  dsimp only [Claim1, pwr, CbClaim, CbLists, CbRet]
  k_fill
  intros; rename_i hpre _ _ hret
  refine wpAny_call ?_
  k_dflt cell_enter
  k_steps
  exact cb_retB hret (same7 hpre) (by k_asm) (by first | k_asm | (refine' cb_drop ?cbN ?cbS; (case cbN => assumption); (case cbS => kcj_all)))
set_option maxRecDepth 100000 in
set_option maxHeartbeats 8000000 in
theorem c8_claim : Claim1 w mean mg mb 76 cbNews (0 ≤ c) [Value.str ⟨#[c.toNat]⟩ t] (fun _ => .bool (S8 c)) := by
  dsimp only [Claim1, pwr, CbClaim, CbLists, CbRet]
  k_fill
  intros; rename_i hpre _ _ hret
  refine wpAny_call ?_
  k_dflt cell_enter
  k_steps
  exact cb_retB hret (same8 hpre) (by k_asm) (by first | k_asm | (refine' cb_drop ?cbN ?cbS; (case cbN => assumption); (case cbS => kcj_all)))
set_option maxRecDepth 100000 in
set_option maxHeartbeats 8000000 in
theorem c9_claim : Claim1 w mean mg mb 94 cbNews (0 ≤ c) [Value.str ⟨#[c.toNat]⟩ t] (fun _ => .bool (S9 c)) := by
  dsimp only [Claim1, pwr, CbClaim, CbLists, CbRet]
  k_fill
  intros; rename_i hpre _ _ hret
  refine wpAny_call ?_
  k_dflt cell_enter
  k_steps
  exact cb_retB hret (same9 hpre) (by k_asm) (by first | k_asm | (refine' cb_drop ?cbN ?cbS; (case cbN => assumption); (case cbS => kcj_all)))
end
end Wy70

end
section -- WyGood
open PySem PySem.W PyProof.Rows PySem.Spec PySem.Calls
namespace Wy70
theorem use1 {w : World} {mean : ExcName → Option Value} {mg mb : Str → Option Value} {f : Addr} {news : CbLed} {pre : Prop} {vs : List Value} {R : Tok → Value} (C : Claim1 w mean mg mb f news pre vs R)
    {dp un : Nat} {gd : Option (List Code)} {cn : Str} {cs : Scope} {a : Addr} {ccd : Value} {cl : List (Str × Addr)} {outer : List Env} {A₀ : Around} {base h₀ : Heap} {L : Addr} {m : Str → Option Value} {s : Shared} {Q E : Value → Shared → Prop}
    (k1 : Below A₀ base outer h₀) (k2 : Fr h₀ L s.heap m) (k3 : (partK w.params).In h₀) (k4 : News h₀ L s.heap news) (k5 : Top viewQ (looseW viewQ looseN) mean mg mb h₀) (kK : cs.kind = .function)
    (kp : pre) (kd : dp + 1 < recursionLimit) (ku : un + 8 < cLine)
    (kR : ∀ (t : Tok) (h' : Heap) (tk' : Nat), Fr h₀ L h' m → News h₀ L h' news → Q (R t) { s with heap := h', toks := tk' }) :
    wpAny (model PySem.Challenge.rw_wy0070_01.row.prog w) (ktrTop dp un gd cn cs L a ccd cl outer) (call (.ref f) vs) Q E s :=
  C dp un gd cn cs a ccd cl outer A₀ base h₀ L m s Q E k1 k2 k3 k4 k5 kK kp kd ku kR
theorem any8 (c : Int) : ([832, 833, 8206, 8207].any fun x => x == c) = decide (c = 832 ∨ c = 833 ∨ c = 8206 ∨ c = 8207) := by
  simp only [List.any_cons, List.any_nil, Bool.or_false]
  rw [Bool.eq_iff_iff]
  simp only [Bool.or_eq_true, beq_iff_eq, decide_eq_true_eq]
  omega
theorem split8 {c : Int} {A B : Prop} (h1 : (c = 832 ∨ c = 833 ∨ c = 8206 ∨ c = 8207) → A) (h2 : ¬ (c = 832 ∨ c = 833 ∨ c = 8206 ∨ c = 8207) → B) : if ([832, 833, 8206, 8207].any fun x => x == c) = true then A else B := by
  rw [any8]
  by_cases h : c = 832 ∨ c = 833 ∨ c = 8206 ∨ c = 8207
  · rw [if_pos (decide_eq_true h)]; exact h1 h
  · rw [if_neg (by rw [decide_eq_true_eq]; exact h)]; exact h2 h
theorem fmod6 (c : Int) : c.fmod 65536 = c % 65536 := Int.fmod_eq_emod_of_nonneg c (by decide)
theorem same_eq {x y : Bool} (h : x = y) : (x == y) = true := by subst h; simp
theorem same_ne {x y : Bool} (h : x = y) : ¬ ((x != y) = true) := by subst h; simp
theorem one_is {c : Int} : S1 c = (c == 32) := by rw [Bool.eq_iff_iff, beq_iff_eq, decide_eq_true_eq]
local macro_rules | `(tactic| walk_at "call ref") => `(tactic| (k_here; k_dflt (first
  | refine' use1 (c11_claim _ _ _ _ _ _ _) ?k1 ?k2 ?k3 ?k4 ?k5 ?kK ?kp ?kd ?ku ?_
  | refine' use1 (c4_claim _ _ _ _ _ _ _) ?k1 ?k2 ?k3 ?k4 ?k5 ?kK ?kp ?kd ?ku ?_
  | refine' use1 (c6_claim _ _ _ _ _ _ _) ?k1 ?k2 ?k3 ?k4 ?k5 ?kK ?kp ?kd ?ku ?_
  | refine' use1 (c7_claim _ _ _ _ _ _ _) ?k1 ?k2 ?k3 ?k4 ?k5 ?kK ?kp ?kd ?ku ?_
  | refine' use1 (c8_claim _ _ _ _ _ _ _) ?k1 ?k2 ?k3 ?k4 ?k5 ?kK ?kp ?kd ?ku ?_
  | refine' use1 (c9_claim _ _ _ _ _ _ _) ?k1 ?k2 ?k3 ?k4 ?k5 ?kK ?kp ?kd ?ku ?_); (case k1 => k_asm); (case k2 => k_asm); (case k3 => k_asm); (case k4 => k_asm); (case k5 => k_asm); (case kK => first | exact rfl | assumption); (case kp => omega); (case kd => ktr_room); (case ku => ktr_units); intro t9 h9 tk9 F9 N9; (try dsimp only); (try k_fold); walk_say "CLAIM"))
local macro_rules | `(tactic| walk_at "ite") => `(tactic| (k_here; (with_reducible refine PySem.W.ite_neg (c := (_ != _) = true) ?c9 ?_); (case c9 => refine same_ne ?_; first | exact one_is | (rw [Bool.eq_iff_iff]; (try rw [any8]); (try rw [fmod6]); simp only [decide_eq_true_eq]; omega)); walk_say "SAME"))
local macro_rules | `(tactic| walk_at "ite") => `(tactic| (k_here; (with_reducible refine split8 ?_ ?_) <;> intro h8; walk_say "SPLIT8"))
set_option rowWalk.seconds 0 in
set_option maxRecDepth 100000 in
set_option maxHeartbeats 8000000 in
theorem good_use {w : World} {mean : ExcName → Option Value} {mg mb : Str → Option Value} {news : CbLed} {c : Int} {t : Tok}
    {dp un : Nat} {gd : Option (List Code)} {cn : Str} {cs : Scope} {a : Addr} {ccd : Value} {cl : List (Str × Addr)} {outer : List Env} {A₀ : Around} {base h₀ : Heap} {L : Addr} {m : Str → Option Value} {s : Shared} {Q E : Value → Shared → Prop}
    (k1 : Below A₀ base outer h₀) (k2 : Fr h₀ L s.heap m) (k3 : (partK w.params).In h₀) (k4 : News h₀ L s.heap news) (k5 : Top viewQ (looseW viewQ looseN) mean mg mb h₀) (kK : cs.kind = .function)
    (kp : 0 ≤ c ∧ c < 1114112 ∧ (c < 55296 ∨ 57343 < c)) (kd : dp + 4 < recursionLimit) (ku : un + 40 < cLine)
    (kR : ∀ (t : Tok) (h' : Heap) (tk' : Nat), Fr h₀ L h' m → News h₀ L h' news → Q (.bool true) { s with heap := h', toks := tk' }) :
    wpAny (model PySem.Challenge.rw_wy0070_01.row.prog w) (ktrTop dp un gd cn cs L a ccd cl outer) (call (.ref 101) [Value.int c t]) Q E s := by
  revert k3
  k_fill
  intro k3
  obtain ⟨hp0, hp1, hp2⟩ := kp
  refine wpAny_call ?_
  k_dflt cell_enter
  k_steps
  all_goals (
    refine' cb_retB kR (same_eq ?e9) ?n9 ?m9
    (case n9 => with_reducible assumption)
    (case e9 => (rw [Bool.eq_iff_iff]; simp only [decide_eq_true_eq, beq_iff_eq]); law_clear; omega)
    (case m9 => (refine' cb_drop ?cbN ?cbS; (case cbN => with_reducible assumption); (case cbS => first | exact fun _ h => List.mem_cons_of_mem _ h | exact fun _ h => h | exact fun _ h => List.mem_cons_of_mem _ (List.mem_cons_of_mem _ h)))))
end Wy70

end
section -- WyMain
open PySem PySem.W PyProof.Rows PySem.Spec PySem.Calls
namespace Wy70
theorem edge_at : ∀ n : Nat, n < 16 → 32 ≤ ([32, 832, 8206, 8234, 8298, 8303, 12272, 12283, 64976, 65007, 65529, 65535, 917505, 917536, 917631, 1114100] : List Int).getD n 0 ∧ ([32, 832, 8206, 8234, 8298, 8303, 12272, 12283, 64976, 65007, 65529, 65535, 917505, 917536, 917631, 1114100] : List Int).getD n 0 ≤ 1114100 := by decide
/-- what the law makes of a number in the surrogates' place -/
def norm (x : Int) : Int := if 55296 ≤ x ∧ x ≤ 57343 then 65 else x
theorem norm_in {x : Int} (a : 55296 ≤ x) (b : x ≤ 57343) : 65 = norm x := (if_pos ⟨a, b⟩).symm
theorem norm_lo {x : Int} (a : ¬ 55296 ≤ x) : x = norm x := (if_neg fun q => a q.1).symm
theorem norm_hi {x : Int} (a : ¬ x ≤ 57343) : x = norm x := (if_neg fun q => a q.2).symm
theorem norm_ok {x : Int} (a : 0 ≤ x) (b : x < 1114112) : 0 ≤ norm x ∧ norm x < 1114112 ∧ (norm x < 55296 ∨ 57343 < norm x) := by
  unfold norm
  split <;> omega
theorem ok65 : 0 ≤ (65 : Int) ∧ (65 : Int) < 1114112 ∧ ((65 : Int) < 55296 ∨ 57343 < (65 : Int)) := by decide
theorem code_in (k : Int) : 0 ≤ k.fmod 1114112 ∧ k.fmod 1114112 < 1114112 := by
  have e := Int.fmod_eq_emod_of_nonneg k (show (0 : Int) ≤ 1114112 by decide)
  rw [e]; omega
theorem beside_in (k : Int) : 0 ≤ ([32, 832, 8206, 8234, 8298, 8303, 12272, 12283, 64976, 65007, 65529, 65535, 917505, 917536, 917631, 1114100] : List Int).getD ((k.fdiv 23).fmod 16).toNat 0 + k.fmod 23 - 11 ∧ ([32, 832, 8206, 8234, 8298, 8303, 12272, 12283, 64976, 65007, 65529, 65535, 917505, 917536, 917631, 1114100] : List Int).getD ((k.fdiv 23).fmod 16).toNat 0 + k.fmod 23 - 11 < 1114112 := by
  have e1 := Int.fmod_eq_emod_of_nonneg k (show (0 : Int) ≤ 23 by decide)
  have e2 := Int.fmod_eq_emod_of_nonneg (k.fdiv 23) (show (0 : Int) ≤ 16 by decide)
  have h1 := edge_at ((k.fdiv 23).fmod 16).toNat (by rw [e2]; omega)
  rw [e1]; omega
theorem code_lo {k : Int} (h : ¬ 55296 ≤ k.fmod 1114112) : 0 ≤ k.fmod 1114112 ∧ k.fmod 1114112 < 1114112 ∧ (k.fmod 1114112 < 55296 ∨ 57343 < k.fmod 1114112) := ⟨(code_in k).1, (code_in k).2, .inl (Int.not_le.mp h)⟩
theorem code_hi {k : Int} (h : ¬ k.fmod 1114112 ≤ 57343) : 0 ≤ k.fmod 1114112 ∧ k.fmod 1114112 < 1114112 ∧ (k.fmod 1114112 < 55296 ∨ 57343 < k.fmod 1114112) := ⟨(code_in k).1, (code_in k).2, .inr (Int.not_le.mp h)⟩
theorem beside_lo {k : Int} (h : ¬ 55296 ≤ ([32, 832, 8206, 8234, 8298, 8303, 12272, 12283, 64976, 65007, 65529, 65535, 917505, 917536, 917631, 1114100] : List Int).getD ((k.fdiv 23).fmod 16).toNat 0 + k.fmod 23 - 11) : 0 ≤ ([32, 832, 8206, 8234, 8298, 8303, 12272, 12283, 64976, 65007, 65529, 65535, 917505, 917536, 917631, 1114100] : List Int).getD ((k.fdiv 23).fmod 16).toNat 0 + k.fmod 23 - 11 ∧ ([32, 832, 8206, 8234, 8298, 8303, 12272, 12283, 64976, 65007, 65529, 65535, 917505, 917536, 917631, 1114100] : List Int).getD ((k.fdiv 23).fmod 16).toNat 0 + k.fmod 23 - 11 < 1114112 ∧ (([32, 832, 8206, 8234, 8298, 8303, 12272, 12283, 64976, 65007, 65529, 65535, 917505, 917536, 917631, 1114100] : List Int).getD ((k.fdiv 23).fmod 16).toNat 0 + k.fmod 23 - 11 < 55296 ∨ 57343 < ([32, 832, 8206, 8234, 8298, 8303, 12272, 12283, 64976, 65007, 65529, 65535, 917505, 917536, 917631, 1114100] : List Int).getD ((k.fdiv 23).fmod 16).toNat 0 + k.fmod 23 - 11) := ⟨(beside_in k).1, (beside_in k).2, .inl (Int.not_le.mp h)⟩
theorem beside_hi {k : Int} (h : ¬ ([32, 832, 8206, 8234, 8298, 8303, 12272, 12283, 64976, 65007, 65529, 65535, 917505, 917536, 917631, 1114100] : List Int).getD ((k.fdiv 23).fmod 16).toNat 0 + k.fmod 23 - 11 ≤ 57343) : 0 ≤ ([32, 832, 8206, 8234, 8298, 8303, 12272, 12283, 64976, 65007, 65529, 65535, 917505, 917536, 917631, 1114100] : List Int).getD ((k.fdiv 23).fmod 16).toNat 0 + k.fmod 23 - 11 ∧ ([32, 832, 8206, 8234, 8298, 8303, 12272, 12283, 64976, 65007, 65529, 65535, 917505, 917536, 917631, 1114100] : List Int).getD ((k.fdiv 23).fmod 16).toNat 0 + k.fmod 23 - 11 < 1114112 ∧ (([32, 832, 8206, 8234, 8298, 8303, 12272, 12283, 64976, 65007, 65529, 65535, 917505, 917536, 917631, 1114100] : List Int).getD ((k.fdiv 23).fmod 16).toNat 0 + k.fmod 23 - 11 < 55296 ∨ 57343 < ([32, 832, 8206, 8234, 8298, 8303, 12272, 12283, 64976, 65007, 65529, 65535, 917505, 917536, 917631, 1114100] : List Int).getD ((k.fdiv 23).fmod 16).toNat 0 + k.fmod 23 - 11) := ⟨(beside_in k).1, (beside_in k).2, .inr (Int.not_le.mp h)⟩
local macro_rules | `(tactic| walk_at "pyIter ref") => `(tactic| ((with_reducible show wpAny _ _ (pyIter (Value.ref _)) (fun it s₂ => LoopAtV _ _ _ _ _ _ _ _ _ it s₂) _ _); k_here; (rename Fr _ _ _ _ => lF'); (rename News _ _ _ _ => lN'); (with_unfolding_all refine iter_listUnr (by rfl) lF' lN' (List.Mem.head _) (by rfl) (by rfl) ?_); clear lF'; intro i' hOff9; walk_say "TWO"))
local macro_rules | `(tactic| walk_at "UnrEnd") => `(tactic| (refine UnrEnd.intro (by assumption) (by assumption) _ (fun p hp => hp) (fun p hp => Nat.ne_of_lt (by first | exact (by assumption : ∀ p ∈ _, p.1 < _) p hp)) ⟨List.Mem.head _, ?_⟩))
local macro_rules | `(tactic| walk_at "InvEndN") => `(tactic| (k_dflt ksr_close; walk_say "TURN"))
local macro_rules | `(tactic| walk_at "call ref") => `(tactic| (k_here; k_dflt (refine' good_use ?k1 ?k2 ?k3 ?k4 ?k5 ?kK ?kp ?kd ?ku ?_); (case k1 => k_asm); (case k2 => k_asm); (case k3 => k_asm); (case k4 => k_asm); (case k5 => k_asm); (case kK => first | exact rfl | assumption); (case kp => first | (with_reducible exact ok65) | (with_reducible exact code_lo (by assumption)) | (with_reducible exact code_hi (by assumption)) | (with_reducible exact beside_lo (by assumption)) | (with_reducible exact beside_hi (by assumption)) | exact ok65 | exact code_lo (by omega) | exact code_hi (by omega)); (case kd => ktr_room); (case ku => ktr_units); intro t9 h9 tk9 F9 N9; (try dsimp only); (try k_fold); walk_say "GOOD"))
set_option maxRecDepth 100000 in
set_option maxHeartbeats 8000000 in
theorem holds : PySem.Challenge.rw_wy0070_01.Holds := by
  have kf9 : ∀ w : World, (partK w.params, PySem.Challenge.rw_wy0070_01) = (partK w.params, PySem.Challenge.rw_wy0070_01) := by
    k_fill
    intro w; rfl
  clear kf9
  (w_on; o_law)
  refine PySem.W.holds_open (q := viewQ) (loose := looseN) (Xt := XtF) (XP := XL viewQ []) (Yf := Hook.obs hk) (Ya := Hook.val hk) (YP := Hook.says hk) (N := 20000) left (Hook.of hk) (Hook.keeps hk) (fun s e => xl_of s (Bool.and_eq_true_iff.mp e).1) XL.keeps (by rfl) (by rfl) (by rfl) (fun s e => recFacts_of (Bool.and_eq_true_iff.mp e).2) (by first | rfl | fail "open_line: no head takes a call that writes beside a table") (by first | assumption | decide +kernel) (by decide +kernel) ⟨rfl, rfl, rfl, rfl, rfl, by decide +kernel⟩ ?hw ?hc
  case hw => w_witness2
  k_with "pyIter ref" => (k_of "number" => k_search (fun pre => True))
  w_strict (k_go)
end Wy70

end
theorem PySem.Challenge.cw_wy0070_01_holds : PySem.Challenge.rw_wy0070_01.Holds :=
  Wy70.holds
