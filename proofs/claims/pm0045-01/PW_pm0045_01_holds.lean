import PyProof.Rows.All
import Wide.All
import OpenK.AllK
import Wide.FinOn
import KE.KLcPair
import PySem.Challenge.RW_pm0045_01
set_option Elab.async false

section
set_option maxRecDepth 100000
set_option linter.unusedVariables false
namespace Fz
noncomputable section
open PySem PySem.W PyProof.Rows PySem.Calls
abbrev S := PySem.Str.ofString
abbrev K := PyData.keyHash
abbrev pw : Program := PySem.Challenge.pw_pm0045_01
def stm (i : Nat) : Stmt := (pw.main.body[i]?).getD (.Pass ⟨0, 0, 0, 0⟩)
def noA : Arguments := { posonlyargs := [], args := [], vararg := none, kwonlyargs := [], kw_defaults := [], kwarg := none, defaults := [] }
def dA (i : Nat) : Arguments := match stm i with | .FunctionDef _ a _ _ _ _ _ _ _ _ => a | _ => noA
def dB (i : Nat) : List Stmt := match stm i with | .FunctionDef _ _ b _ _ _ _ _ _ _ => b | .ClassDef _ _ _ b _ _ _ _ _ _ _ => b | _ => []
def noS : Scope := { kind := .function, names := [], isGenerator := false, isCoroutine := false, more := [] }
def dS (i : Nat) : Scope := match stm i with | .FunctionDef _ _ _ _ _ _ s _ _ _ => s | .ClassDef _ _ _ _ _ _ s _ _ _ _ => s | _ => noS
/-- the written table of the fourth statement -/
def pairOf : Option Expr → Expr → Option (Int × Str)
  | some (.Constant (.int i) _ _), .Constant (.str x) _ _ => some (i, x)
  | _, _ => none
def pairsOf : List (Option Expr) → List Expr → List (Int × Str)
  | k :: ks, v :: vs => match pairOf k v with
    | some p => p :: pairsOf ks vs
    | none => pairsOf ks vs
  | _, _ => []
def tbl : List (Int × Str) := match stm 3 with | .Assign _ (.Dict ks vs _) _ => pairsOf ks vs | _ => []
def tokAt (j : Nat) : Nat := if j < 646 then 256 + 3 * j else 2194 + 2 * (j - 646)
def entriesFrom : Nat → List (Int × Str) → List DictEntry
  | _, [] => []
  | j, (i, x) :: r => ⟨hashInt i, .int i (tokAt j), .str x (tokAt j + 1)⟩ :: entriesFrom (j + 1) r
/-- the dicts that the display lays: 33 is the whole one, 34 .. 71 the later runs of seventeen -/
def tdict (a n : Nat) : Obj := if a = 33 then ⟨.type "dict", none, .dict (entriesFrom 0 tbl).toArray n, #[]⟩
  else ⟨.type "dict", none, .dict (entriesFrom (17 * (a - 33)) ((tbl.drop (17 * (a - 33))).take 17)).toArray n, #[]⟩
def o11 (P : Params) : Obj := ⟨.type "tuple", none, .seq #[] 0, #[]⟩
def o12 (P : Params) : Obj := ⟨.none, none, .fields #[], #[]⟩
def o13 (P : Params) : Obj := ⟨.type "code", none, .fields #[.str (S "<module>") 182, .str (S "<module>") 183, .str (S "/claim/cut.py") 184, .int 1 0, .int 0 0, .int 0 0, .int 0 0, .int 0 0, .ref 11, .bool false, .int 181 0, .ref 12, .none, .none, .none, .none, .int 185 0, .int 1 0, .str (S "/claim/cut.py") 186], #[]⟩
def o14 (P : Params) : Obj := ⟨.type "frame", none, .plain, #[(some (.ref 13)), (some (.ref 3)), (some (.ref 3)), none, (some (.str (S "__main__") 164)), none, (some (.ref 0))]⟩
def T0 (P : Params) : BT := (.node (boot_o_0 P) (.node (boot_o_1 P) (.node (boot_o_3 P) (.node (boot_o_7 P) .nil .nil) (.node (o11 P) .nil .nil)) (.node (boot_o_5 P) (.node (boot_o_9 P) .nil .nil) (.node (o13 P) .nil .nil))) (.node (boot_o_2 P) (.node (boot_o_4 P) (.node (boot_o_8 P) .nil .nil) (.node (o12 P) .nil .nil)) (.node (boot_o_6 P) (.node (boot_o_10 P) .nil .nil) (.node (o14 P) .nil .nil))))
-- pre: steps 12 rows []
abbrev s0 (w : World) (os : OsState) : SharedT := ⟨T0 w.params, 15, {}, #[], {}, 187, os⟩
abbrev p0 : Pos := ⟨0, 0, 0, 0⟩
abbrev n0 : Nat := 13
def T1 (P : Params) : BT := (.node (boot_o_0 P) (.node (boot_o_1 P) (.node (boot_o_3 P) (.node (boot_o_7 P) .nil .nil) (.node (o11 P) .nil .nil)) (.node (boot_o_5 P) (.node (boot_o_9 P) .nil .nil) (.node (o13 P) .nil .nil))) (.node (boot_o_2 P) (.node (boot_o_4 P) (.node (boot_o_8 P) .nil .nil) (.node (o12 P) .nil .nil)) (.node (boot_o_6 P) (.node (boot_o_10 P) .nil .nil) (.node (o14 P) .nil .nil))))
-- block: steps 0 rows []
abbrev s1 (w : World) (os : OsState) : SharedT := ⟨T1 w.params, 15, {}, #[], {}, 187, os⟩
abbrev p1 : Pos := ⟨0, 0, 0, 0⟩
abbrev n1 : Nat := 1
def o3v2 (P : Params) : Obj := ⟨.type "dict", none, .dict #[⟨K P (S "__name__"), .str (S "__name__") 165, .str (S "cpy313.stringprep") 187⟩, ⟨K P (S "__doc__"), .str (S "__doc__") 166, .none⟩, ⟨K P (S "__package__"), .str (S "__package__") 167, .none⟩, ⟨K P (S "__loader__"), .str (S "__loader__") 168, .builtin "__main__.__loader__#opaque"⟩, ⟨K P (S "__spec__"), .str (S "__spec__") 169, .none⟩, ⟨K P (S "__annotations__"), .str (S "__annotations__") 170, .ref 6⟩, ⟨K P (S "__builtins__"), .str (S "__builtins__") 171, .ref 4⟩, ⟨K P (S "__file__"), .str (S "__file__") 173, .str (S "/claim/cut.py") 172⟩, ⟨K P (S "__cached__"), .str (S "__cached__") 174, .none⟩] 9, #[]⟩
def T2 (P : Params) : BT := (.node (boot_o_0 P) (.node (boot_o_1 P) (.node (o3v2 P) (.node (boot_o_7 P) .nil .nil) (.node (o11 P) .nil .nil)) (.node (boot_o_5 P) (.node (boot_o_9 P) .nil .nil) (.node (o13 P) .nil .nil))) (.node (boot_o_2 P) (.node (boot_o_4 P) (.node (boot_o_8 P) .nil .nil) (.node (o12 P) .nil .nil)) (.node (boot_o_6 P) (.node (boot_o_10 P) .nil .nil) (.node (o14 P) .nil .nil))))
-- stmt0: steps 9 rows []
abbrev s2 (w : World) (os : OsState) : SharedT := ⟨T2 w.params, 15, {}, #[], {}, 189, os⟩
abbrev p2 : Pos := ⟨1, 0, 1, 8⟩
abbrev n2 : Nat := 10
def o3v3 (P : Params) : Obj := ⟨.type "dict", none, .dict #[⟨K P (S "__name__"), .str (S "__name__") 165, .str (S "cpy313.stringprep") 187⟩, ⟨K P (S "__doc__"), .str (S "__doc__") 166, .none⟩, ⟨K P (S "__package__"), .str (S "__package__") 167, .none⟩, ⟨K P (S "__loader__"), .str (S "__loader__") 168, .builtin "__main__.__loader__#opaque"⟩, ⟨K P (S "__spec__"), .str (S "__spec__") 169, .none⟩, ⟨K P (S "__annotations__"), .str (S "__annotations__") 170, .ref 6⟩, ⟨K P (S "__builtins__"), .str (S "__builtins__") 171, .ref 4⟩, ⟨K P (S "__file__"), .str (S "__file__") 173, .str (S "/claim/cut.py") 172⟩, ⟨K P (S "__cached__"), .str (S "__cached__") 174, .none⟩, ⟨K P (S "b1_set"), .str (S "b1_set") 248, .ref 22⟩] 10, #[]⟩
def o15 (P : Params) : Obj := ⟨.type "list", none, .seq #[.int 173 189, .int 847 190, .int 6150 191, .int 6155 192, .int 6156 193, .int 6157 194, .int 8203 195, .int 8204 196, .int 8205 197, .int 8288 198, .int 65279 199] 0, #[]⟩
def o16 (P : Params) : Obj := ⟨.type "range", none, .fields #[.int 65024 200, .int 65040 201, .int 1 202], #[]⟩
def o17 (P : Params) : Obj := ⟨.type "list", none, .seq #[.int 65024 205, .int 65025 206, .int 65026 207, .int 65027 208, .int 65028 209, .int 65029 210, .int 65030 211, .int 65031 212, .int 65032 213, .int 65033 214, .int 65034 215, .int 65035 216, .int 65036 217, .int 65037 218, .int 65038 219, .int 65039 220] 18, #[]⟩
def o18 (P : Params) : Obj := ⟨.type "range_iterator", none, .fields #[.int 65040 0, .int 0 0, .int 1 0], #[]⟩
def o19 (P : Params) : Obj := ⟨.type "tuple", none, .seq #[] 0, #[]⟩
def o20 (P : Params) : Obj := ⟨.type "StopIteration", none, .fields #[.ref 19, .none, .none, .none, .bool false, .none], #[]⟩
def o21 (P : Params) : Obj := ⟨.type "list", none, .seq #[.int 173 189, .int 847 190, .int 6150 191, .int 6155 192, .int 6156 193, .int 6157 194, .int 8203 195, .int 8204 196, .int 8205 197, .int 8288 198, .int 65279 199, .int 65024 205, .int 65025 206, .int 65026 207, .int 65027 208, .int 65028 209, .int 65029 210, .int 65030 211, .int 65031 212, .int 65032 213, .int 65033 214, .int 65034 215, .int 65035 216, .int 65036 217, .int 65037 218, .int 65038 219, .int 65039 220] 0, #[]⟩
def o22 (P : Params) : Obj := ⟨.type "set", none, .set #[(65024, .int 65024 205), (65025, .int 65025 206), (65026, .int 65026 207), (65027, .int 65027 208), (65028, .int 65028 209), (65029, .int 65029 210), (6150, .int 6150 191), (65030, .int 65030 211), (65031, .int 65031 212), (65032, .int 65032 213), (65033, .int 65033 214), (6155, .int 6155 192), (6156, .int 6156 193), (6157, .int 6157 194), (8203, .int 8203 195), (8204, .int 8204 196), (8205, .int 8205 197), (65034, .int 65034 215), (65035, .int 65035 216), (65036, .int 65036 217), (65037, .int 65037 218), (65038, .int 65038 219), (65039, .int 65039 220), (173, .int 173 189), (847, .int 847 190), (8288, .int 8288 198), (65279, .int 65279 199)] 29 { mask := 127, place := #[0, 1, 2, 3, 4, 5, 6, 7, 8, 9, 10, 11, 12, 13, 14, 15, 16, 17, 18, 19, 20, 21, 22, 45, 79, 96, 127], dummies := #[], finger := 0, led := (!P.followText "set-order"), moves := 2, plain := true }, #[]⟩
def o23 (P : Params) : Obj := ⟨.type "list_iterator", none, .fields #[.none, .int 27 0], #[]⟩
def o24 (P : Params) : Obj := ⟨.type "tuple", none, .seq #[] 0, #[]⟩
def o25 (P : Params) : Obj := ⟨.type "StopIteration", none, .fields #[.ref 24, .none, .none, .none, .bool false, .none], #[]⟩
def T3 (P : Params) : BT := (.node (boot_o_0 P) (.node (boot_o_1 P) (.node (o3v3 P) (.node (boot_o_7 P) (.node (o15 P) .nil .nil) (.node (o23 P) .nil .nil)) (.node (o11 P) (.node (o19 P) .nil .nil) .nil)) (.node (boot_o_5 P) (.node (boot_o_9 P) (.node (o17 P) .nil .nil) (.node (o25 P) .nil .nil)) (.node (o13 P) (.node (o21 P) .nil .nil) .nil))) (.node (boot_o_2 P) (.node (boot_o_4 P) (.node (boot_o_8 P) (.node (o16 P) .nil .nil) (.node (o24 P) .nil .nil)) (.node (o12 P) (.node (o20 P) .nil .nil) .nil)) (.node (boot_o_6 P) (.node (boot_o_10 P) (.node (o18 P) .nil .nil) .nil) (.node (o14 P) (.node (o22 P) .nil .nil) .nil))))
-- stmt1: steps 998 rows [set-order, special-get-raises]
abbrev s3 (w : World) (os : OsState) : SharedT := ⟨T3 w.params, 26, {}, #[], {}, 249, os⟩
abbrev p3 : Pos := ⟨2, 0, 2, 6⟩
abbrev n3 : Nat := 999
def o3v4 (P : Params) : Obj := ⟨.type "dict", none, .dict #[⟨K P (S "__name__"), .str (S "__name__") 165, .str (S "cpy313.stringprep") 187⟩, ⟨K P (S "__doc__"), .str (S "__doc__") 166, .none⟩, ⟨K P (S "__package__"), .str (S "__package__") 167, .none⟩, ⟨K P (S "__loader__"), .str (S "__loader__") 168, .builtin "__main__.__loader__#opaque"⟩, ⟨K P (S "__spec__"), .str (S "__spec__") 169, .none⟩, ⟨K P (S "__annotations__"), .str (S "__annotations__") 170, .ref 6⟩, ⟨K P (S "__builtins__"), .str (S "__builtins__") 171, .ref 4⟩, ⟨K P (S "__file__"), .str (S "__file__") 173, .str (S "/claim/cut.py") 172⟩, ⟨K P (S "__cached__"), .str (S "__cached__") 174, .none⟩, ⟨K P (S "b1_set"), .str (S "b1_set") 248, .ref 22⟩, ⟨K P (S "in_table_b1"), .str (S "in_table_b1") 255, .ref 32⟩] 11, #[]⟩
def o12v4 (P : Params) : Obj := ⟨.none, none, .fields #[.int 3 0, .int 0 0, .ref 31], #[]⟩
def o26 (P : Params) : Obj := ⟨.type "tuple", none, .seq #[] 0, #[]⟩
def o27 (P : Params) : Obj := ⟨.none, none, .fields #[], #[]⟩
def o28 (P : Params) : Obj := ⟨.type "tuple", none, .seq #[.str (S "code") 252] 0, #[]⟩
def o29 (P : Params) : Obj := ⟨.type "tuple", none, .seq #[] 0, #[]⟩
def o30 (P : Params) : Obj := ⟨.none, none, .func { name := (S "in_table_b1"), qualname := (S "in_table_b1"), params := (dA 2), body := (.stmts (dB 2)), scope := (dS 2), globals := 0, closure := [], defaults := .none, kwdefaults := .none, doc := .none, pyModule := .none, annotations := none, code := .none, closureTuple := .none, builtins := 0 }, #[]⟩
def o31 (P : Params) : Obj := ⟨.type "code", none, .fields #[.str (S "in_table_b1") 249, .str (S "in_table_b1") 250, .str (S "/claim/cut.py") 251, .int 3 0, .int 1 0, .int 0 0, .int 0 0, .int 3 0, .ref 26, .bool true, .int 181 0, .ref 27, .none, .ref 28, .ref 29, .ref 30, .int 253 0, .int 3 0, .str (S "/claim/cut.py") 254], #[]⟩
def o32 (P : Params) : Obj := ⟨.type "function", none, .func { name := (S "in_table_b1"), qualname := (S "in_table_b1"), params := (dA 2), body := (.stmts (dB 2)), scope := (dS 2), globals := 3, closure := [], defaults := .none, kwdefaults := .none, doc := .none, pyModule := .str (S "cpy313.stringprep") 187, annotations := none, code := .ref 31, closureTuple := .none, builtins := 0 }, #[]⟩
def T4 (P : Params) : BT := (.node (boot_o_0 P) (.node (boot_o_1 P) (.node (o3v4 P) (.node (boot_o_7 P) (.node (o15 P) (.node (o31 P) .nil .nil) .nil) (.node (o23 P) .nil .nil)) (.node (o11 P) (.node (o19 P) .nil .nil) (.node (o27 P) .nil .nil))) (.node (boot_o_5 P) (.node (boot_o_9 P) (.node (o17 P) .nil .nil) (.node (o25 P) .nil .nil)) (.node (o13 P) (.node (o21 P) .nil .nil) (.node (o29 P) .nil .nil)))) (.node (boot_o_2 P) (.node (boot_o_4 P) (.node (boot_o_8 P) (.node (o16 P) (.node (o32 P) .nil .nil) .nil) (.node (o24 P) .nil .nil)) (.node (o12v4 P) (.node (o20 P) .nil .nil) (.node (o28 P) .nil .nil))) (.node (boot_o_6 P) (.node (boot_o_10 P) (.node (o18 P) .nil .nil) (.node (o26 P) .nil .nil)) (.node (o14 P) (.node (o22 P) .nil .nil) (.node (o30 P) .nil .nil)))))
-- stmt2: steps 29 rows []
abbrev s4 (w : World) (os : OsState) : SharedT := ⟨T4 w.params, 33, {}, #[], {}, 256, os⟩
abbrev p4 : Pos := ⟨3, 0, 4, 30⟩
abbrev n4 : Nat := 30
def o3v5 (P : Params) : Obj := ⟨.type "dict", none, .dict #[⟨K P (S "__name__"), .str (S "__name__") 165, .str (S "cpy313.stringprep") 187⟩, ⟨K P (S "__doc__"), .str (S "__doc__") 166, .none⟩, ⟨K P (S "__package__"), .str (S "__package__") 167, .none⟩, ⟨K P (S "__loader__"), .str (S "__loader__") 168, .builtin "__main__.__loader__#opaque"⟩, ⟨K P (S "__spec__"), .str (S "__spec__") 169, .none⟩, ⟨K P (S "__annotations__"), .str (S "__annotations__") 170, .ref 6⟩, ⟨K P (S "__builtins__"), .str (S "__builtins__") 171, .ref 4⟩, ⟨K P (S "__file__"), .str (S "__file__") 173, .str (S "/claim/cut.py") 172⟩, ⟨K P (S "__cached__"), .str (S "__cached__") 174, .none⟩, ⟨K P (S "b1_set"), .str (S "b1_set") 248, .ref 22⟩, ⟨K P (S "in_table_b1"), .str (S "in_table_b1") 255, .ref 32⟩, ⟨K P (S "b3_exceptions"), .str (S "b3_exceptions") 2206, .ref 33⟩] 12, #[]⟩
-- table dict 33: first 181 size 650 epoch 650
def o33 (_ : Params) : Obj := tdict 33 650
-- table dict 34: first 982 size 17 epoch 17
def o34 (_ : Params) : Obj := tdict 34 17
-- table dict 35: first 8065 size 17 epoch 17
def o35 (_ : Params) : Obj := tdict 35 17
-- table dict 36: first 8082 size 17 epoch 17
def o36 (_ : Params) : Obj := tdict 36 17
-- table dict 37: first 8099 size 17 epoch 17
def o37 (_ : Params) : Obj := tdict 37 17
-- table dict 38: first 8119 size 17 epoch 17
def o38 (_ : Params) : Obj := tdict 38 17
-- table dict 39: first 8167 size 17 epoch 17
def o39 (_ : Params) : Obj := tdict 39 17
-- table dict 40: first 8466 size 17 epoch 17
def o40 (_ : Params) : Obj := tdict 40 17
-- table dict 41: first 8499 size 17 epoch 17
def o41 (_ : Params) : Obj := tdict 41 17
-- table dict 42: first 13196 size 17 epoch 17
def o42 (_ : Params) : Obj := tdict 42 17
-- table dict 43: first 13243 size 17 epoch 17
def o43 (_ : Params) : Obj := tdict 43 17
-- table dict 44: first 13274 size 17 epoch 17
def o44 (_ : Params) : Obj := tdict 44 17
-- table dict 45: first 119810 size 17 epoch 17
def o45 (_ : Params) : Obj := tdict 45 17
-- table dict 46: first 119827 size 17 epoch 17
def o46 (_ : Params) : Obj := tdict 46 17
-- table dict 47: first 119870 size 17 epoch 17
def o47 (_ : Params) : Obj := tdict 47 17
-- table dict 48: first 119913 size 17 epoch 17
def o48 (_ : Params) : Obj := tdict 48 17
-- table dict 49: first 119930 size 17 epoch 17
def o49 (_ : Params) : Obj := tdict 49 17
-- table dict 50: first 119980 size 17 epoch 17
def o50 (_ : Params) : Obj := tdict 50 17
-- table dict 51: first 120024 size 17 epoch 17
def o51 (_ : Params) : Obj := tdict 51 17
-- table dict 52: first 120041 size 17 epoch 17
def o52 (_ : Params) : Obj := tdict 52 17
-- table dict 53: first 120088 size 17 epoch 17
def o53 (_ : Params) : Obj := tdict 53 17
-- table dict 54: first 120138 size 17 epoch 17
def o54 (_ : Params) : Obj := tdict 54 17
-- table dict 55: first 120182 size 17 epoch 17
def o55 (_ : Params) : Obj := tdict 55 17
-- table dict 56: first 120225 size 17 epoch 17
def o56 (_ : Params) : Obj := tdict 56 17
-- table dict 57: first 120242 size 17 epoch 17
def o57 (_ : Params) : Obj := tdict 57 17
-- table dict 58: first 120285 size 17 epoch 17
def o58 (_ : Params) : Obj := tdict 58 17
-- table dict 59: first 120328 size 17 epoch 17
def o59 (_ : Params) : Obj := tdict 59 17
-- table dict 60: first 120345 size 17 epoch 17
def o60 (_ : Params) : Obj := tdict 60 17
-- table dict 61: first 120388 size 17 epoch 17
def o61 (_ : Params) : Obj := tdict 61 17
-- table dict 62: first 120405 size 17 epoch 17
def o62 (_ : Params) : Obj := tdict 62 17
-- table dict 63: first 120448 size 17 epoch 17
def o63 (_ : Params) : Obj := tdict 63 17
-- table dict 64: first 120495 size 17 epoch 17
def o64 (_ : Params) : Obj := tdict 64 17
-- table dict 65: first 120512 size 17 epoch 17
def o65 (_ : Params) : Obj := tdict 65 17
-- table dict 66: first 120561 size 17 epoch 17
def o66 (_ : Params) : Obj := tdict 66 17
-- table dict 67: first 120610 size 17 epoch 17
def o67 (_ : Params) : Obj := tdict 67 17
-- table dict 68: first 120627 size 17 epoch 17
def o68 (_ : Params) : Obj := tdict 68 17
-- table dict 69: first 120676 size 17 epoch 17
def o69 (_ : Params) : Obj := tdict 69 17
-- table dict 70: first 120725 size 17 epoch 17
def o70 (_ : Params) : Obj := tdict 70 17
-- table dict 71: first 120742 size 4 epoch 4
def o71 (_ : Params) : Obj := tdict 71 4
def T5 (P : Params) : BT := (.node (boot_o_0 P) (.node (boot_o_1 P) (.node (o3v5 P) (.node (boot_o_7 P) (.node (o15 P) (.node (o31 P) (.node (o63 P) .nil .nil) .nil) (.node (o47 P) .nil .nil)) (.node (o23 P) (.node (o39 P) (.node (o71 P) .nil .nil) .nil) (.node (o55 P) .nil .nil))) (.node (o11 P) (.node (o19 P) (.node (o35 P) (.node (o67 P) .nil .nil) .nil) (.node (o51 P) .nil .nil)) (.node (o27 P) (.node (o43 P) .nil .nil) (.node (o59 P) .nil .nil)))) (.node (boot_o_5 P) (.node (boot_o_9 P) (.node (o17 P) (.node (o33 P) (.node (o65 P) .nil .nil) .nil) (.node (o49 P) .nil .nil)) (.node (o25 P) (.node (o41 P) .nil .nil) (.node (o57 P) .nil .nil))) (.node (o13 P) (.node (o21 P) (.node (o37 P) (.node (o69 P) .nil .nil) .nil) (.node (o53 P) .nil .nil)) (.node (o29 P) (.node (o45 P) .nil .nil) (.node (o61 P) .nil .nil))))) (.node (boot_o_2 P) (.node (boot_o_4 P) (.node (boot_o_8 P) (.node (o16 P) (.node (o32 P) (.node (o64 P) .nil .nil) .nil) (.node (o48 P) .nil .nil)) (.node (o24 P) (.node (o40 P) .nil .nil) (.node (o56 P) .nil .nil))) (.node (o12v4 P) (.node (o20 P) (.node (o36 P) (.node (o68 P) .nil .nil) .nil) (.node (o52 P) .nil .nil)) (.node (o28 P) (.node (o44 P) .nil .nil) (.node (o60 P) .nil .nil)))) (.node (boot_o_6 P) (.node (boot_o_10 P) (.node (o18 P) (.node (o34 P) (.node (o66 P) .nil .nil) .nil) (.node (o50 P) .nil .nil)) (.node (o26 P) (.node (o42 P) .nil .nil) (.node (o58 P) .nil .nil))) (.node (o14 P) (.node (o22 P) (.node (o38 P) (.node (o70 P) .nil .nil) .nil) (.node (o54 P) .nil .nil)) (.node (o30 P) (.node (o46 P) .nil .nil) (.node (o62 P) .nil .nil))))))
-- stmt3: steps 12524 rows [special-get-raises]
abbrev s5 (w : World) (os : OsState) : SharedT := ⟨T5 w.params, 72, {}, #[], {}, 2207, os⟩
abbrev p5 : Pos := ⟨5, 0, 5, 13⟩
abbrev n5 : Nat := 12525
def o3v6 (P : Params) : Obj := ⟨.type "dict", none, .dict #[⟨K P (S "__name__"), .str (S "__name__") 165, .str (S "cpy313.stringprep") 187⟩, ⟨K P (S "__doc__"), .str (S "__doc__") 166, .none⟩, ⟨K P (S "__package__"), .str (S "__package__") 167, .none⟩, ⟨K P (S "__loader__"), .str (S "__loader__") 168, .builtin "__main__.__loader__#opaque"⟩, ⟨K P (S "__spec__"), .str (S "__spec__") 169, .none⟩, ⟨K P (S "__annotations__"), .str (S "__annotations__") 170, .ref 6⟩, ⟨K P (S "__builtins__"), .str (S "__builtins__") 171, .ref 4⟩, ⟨K P (S "__file__"), .str (S "__file__") 173, .str (S "/claim/cut.py") 172⟩, ⟨K P (S "__cached__"), .str (S "__cached__") 174, .none⟩, ⟨K P (S "b1_set"), .str (S "b1_set") 248, .ref 22⟩, ⟨K P (S "in_table_b1"), .str (S "in_table_b1") 255, .ref 32⟩, ⟨K P (S "b3_exceptions"), .str (S "b3_exceptions") 2206, .ref 33⟩, ⟨K P (S "map_table_b3"), .str (S "map_table_b3") 2214, .ref 78⟩] 13, #[]⟩
def o12v6 (P : Params) : Obj := ⟨.none, none, .fields #[.int 3 0, .int 0 0, .ref 31, .int 6 0, .int 0 0, .ref 77], #[]⟩
def o72 (P : Params) : Obj := ⟨.type "tuple", none, .seq #[] 0, #[]⟩
def o73 (P : Params) : Obj := ⟨.none, none, .fields #[], #[]⟩
def o74 (P : Params) : Obj := ⟨.type "tuple", none, .seq #[.str (S "code") 2210, .str (S "r") 2211] 0, #[]⟩
def o75 (P : Params) : Obj := ⟨.type "tuple", none, .seq #[] 0, #[]⟩
def o76 (P : Params) : Obj := ⟨.none, none, .func { name := (S "map_table_b3"), qualname := (S "map_table_b3"), params := (dA 4), body := (.stmts (dB 4)), scope := (dS 4), globals := 0, closure := [], defaults := .none, kwdefaults := .none, doc := .none, pyModule := .none, annotations := none, code := .none, closureTuple := .none, builtins := 0 }, #[]⟩
def o77 (P : Params) : Obj := ⟨.type "code", none, .fields #[.str (S "map_table_b3") 2207, .str (S "map_table_b3") 2208, .str (S "/claim/cut.py") 2209, .int 6 0, .int 1 0, .int 0 0, .int 0 0, .int 3 0, .ref 72, .bool true, .int 181 0, .ref 73, .none, .ref 74, .ref 75, .ref 76, .int 2212 0, .int 6 0, .str (S "/claim/cut.py") 2213], #[]⟩
def o78 (P : Params) : Obj := ⟨.type "function", none, .func { name := (S "map_table_b3"), qualname := (S "map_table_b3"), params := (dA 4), body := (.stmts (dB 4)), scope := (dS 4), globals := 3, closure := [], defaults := .none, kwdefaults := .none, doc := .none, pyModule := .str (S "cpy313.stringprep") 187, annotations := none, code := .ref 77, closureTuple := .none, builtins := 0 }, #[]⟩
def T6 (P : Params) : BT := (.node (boot_o_0 P) (.node (boot_o_1 P) (.node (o3v6 P) (.node (boot_o_7 P) (.node (o15 P) (.node (o31 P) (.node (o63 P) .nil .nil) .nil) (.node (o47 P) .nil .nil)) (.node (o23 P) (.node (o39 P) (.node (o71 P) .nil .nil) .nil) (.node (o55 P) .nil .nil))) (.node (o11 P) (.node (o19 P) (.node (o35 P) (.node (o67 P) .nil .nil) .nil) (.node (o51 P) .nil .nil)) (.node (o27 P) (.node (o43 P) (.node (o75 P) .nil .nil) .nil) (.node (o59 P) .nil .nil)))) (.node (boot_o_5 P) (.node (boot_o_9 P) (.node (o17 P) (.node (o33 P) (.node (o65 P) .nil .nil) .nil) (.node (o49 P) .nil .nil)) (.node (o25 P) (.node (o41 P) (.node (o73 P) .nil .nil) .nil) (.node (o57 P) .nil .nil))) (.node (o13 P) (.node (o21 P) (.node (o37 P) (.node (o69 P) .nil .nil) .nil) (.node (o53 P) .nil .nil)) (.node (o29 P) (.node (o45 P) (.node (o77 P) .nil .nil) .nil) (.node (o61 P) .nil .nil))))) (.node (boot_o_2 P) (.node (boot_o_4 P) (.node (boot_o_8 P) (.node (o16 P) (.node (o32 P) (.node (o64 P) .nil .nil) .nil) (.node (o48 P) .nil .nil)) (.node (o24 P) (.node (o40 P) (.node (o72 P) .nil .nil) .nil) (.node (o56 P) .nil .nil))) (.node (o12v6 P) (.node (o20 P) (.node (o36 P) (.node (o68 P) .nil .nil) .nil) (.node (o52 P) .nil .nil)) (.node (o28 P) (.node (o44 P) (.node (o76 P) .nil .nil) .nil) (.node (o60 P) .nil .nil)))) (.node (boot_o_6 P) (.node (boot_o_10 P) (.node (o18 P) (.node (o34 P) (.node (o66 P) .nil .nil) .nil) (.node (o50 P) .nil .nil)) (.node (o26 P) (.node (o42 P) (.node (o74 P) .nil .nil) .nil) (.node (o58 P) .nil .nil))) (.node (o14 P) (.node (o22 P) (.node (o38 P) (.node (o70 P) .nil .nil) .nil) (.node (o54 P) .nil .nil)) (.node (o30 P) (.node (o46 P) (.node (o78 P) .nil .nil) .nil) (.node (o62 P) .nil .nil))))))
-- stmt4: steps 30 rows []
abbrev s6 (w : World) (os : OsState) : SharedT := ⟨T6 w.params, 79, {}, #[], {}, 2215, os⟩
abbrev p6 : Pos := ⟨6, 0, 10, 23⟩
abbrev n6 : Nat := 31
def o3v7 (P : Params) : Obj := ⟨.type "dict", none, .dict #[⟨K P (S "__name__"), .str (S "__name__") 165, .str (S "cpy313.ftplib") 2215⟩, ⟨K P (S "__doc__"), .str (S "__doc__") 166, .none⟩, ⟨K P (S "__package__"), .str (S "__package__") 167, .none⟩, ⟨K P (S "__loader__"), .str (S "__loader__") 168, .builtin "__main__.__loader__#opaque"⟩, ⟨K P (S "__spec__"), .str (S "__spec__") 169, .none⟩, ⟨K P (S "__annotations__"), .str (S "__annotations__") 170, .ref 6⟩, ⟨K P (S "__builtins__"), .str (S "__builtins__") 171, .ref 4⟩, ⟨K P (S "__file__"), .str (S "__file__") 173, .str (S "/claim/cut.py") 172⟩, ⟨K P (S "__cached__"), .str (S "__cached__") 174, .none⟩, ⟨K P (S "b1_set"), .str (S "b1_set") 248, .ref 22⟩, ⟨K P (S "in_table_b1"), .str (S "in_table_b1") 255, .ref 32⟩, ⟨K P (S "b3_exceptions"), .str (S "b3_exceptions") 2206, .ref 33⟩, ⟨K P (S "map_table_b3"), .str (S "map_table_b3") 2214, .ref 78⟩] 13, #[]⟩
def T7 (P : Params) : BT := (.node (boot_o_0 P) (.node (boot_o_1 P) (.node (o3v7 P) (.node (boot_o_7 P) (.node (o15 P) (.node (o31 P) (.node (o63 P) .nil .nil) .nil) (.node (o47 P) .nil .nil)) (.node (o23 P) (.node (o39 P) (.node (o71 P) .nil .nil) .nil) (.node (o55 P) .nil .nil))) (.node (o11 P) (.node (o19 P) (.node (o35 P) (.node (o67 P) .nil .nil) .nil) (.node (o51 P) .nil .nil)) (.node (o27 P) (.node (o43 P) (.node (o75 P) .nil .nil) .nil) (.node (o59 P) .nil .nil)))) (.node (boot_o_5 P) (.node (boot_o_9 P) (.node (o17 P) (.node (o33 P) (.node (o65 P) .nil .nil) .nil) (.node (o49 P) .nil .nil)) (.node (o25 P) (.node (o41 P) (.node (o73 P) .nil .nil) .nil) (.node (o57 P) .nil .nil))) (.node (o13 P) (.node (o21 P) (.node (o37 P) (.node (o69 P) .nil .nil) .nil) (.node (o53 P) .nil .nil)) (.node (o29 P) (.node (o45 P) (.node (o77 P) .nil .nil) .nil) (.node (o61 P) .nil .nil))))) (.node (boot_o_2 P) (.node (boot_o_4 P) (.node (boot_o_8 P) (.node (o16 P) (.node (o32 P) (.node (o64 P) .nil .nil) .nil) (.node (o48 P) .nil .nil)) (.node (o24 P) (.node (o40 P) (.node (o72 P) .nil .nil) .nil) (.node (o56 P) .nil .nil))) (.node (o12v6 P) (.node (o20 P) (.node (o36 P) (.node (o68 P) .nil .nil) .nil) (.node (o52 P) .nil .nil)) (.node (o28 P) (.node (o44 P) (.node (o76 P) .nil .nil) .nil) (.node (o60 P) .nil .nil)))) (.node (boot_o_6 P) (.node (boot_o_10 P) (.node (o18 P) (.node (o34 P) (.node (o66 P) .nil .nil) .nil) (.node (o50 P) .nil .nil)) (.node (o26 P) (.node (o42 P) (.node (o74 P) .nil .nil) .nil) (.node (o58 P) .nil .nil))) (.node (o14 P) (.node (o22 P) (.node (o38 P) (.node (o70 P) .nil .nil) .nil) (.node (o54 P) .nil .nil)) (.node (o30 P) (.node (o46 P) (.node (o78 P) .nil .nil) .nil) (.node (o62 P) .nil .nil))))))
-- stmt5: steps 9 rows []
abbrev s7 (w : World) (os : OsState) : SharedT := ⟨T7 w.params, 79, {}, #[], {}, 2217, os⟩
abbrev p7 : Pos := ⟨11, 0, 11, 8⟩
abbrev n7 : Nat := 10
def o2v8 (P : Params) : Obj := ⟨.none, none, .dict #[⟨K P (S "type.__subclasses__.Exception.0"), .str (S "type.__subclasses__.Exception.0") 2233, .int 88 0⟩, ⟨K P (S "type.__subclasses__.Exception.n"), .str (S "type.__subclasses__.Exception.n") 2234, .int 1 0⟩] 2, #[]⟩
def o3v8 (P : Params) : Obj := ⟨.type "dict", none, .dict #[⟨K P (S "__name__"), .str (S "__name__") 165, .str (S "cpy313.ftplib") 2215⟩, ⟨K P (S "__doc__"), .str (S "__doc__") 166, .none⟩, ⟨K P (S "__package__"), .str (S "__package__") 167, .none⟩, ⟨K P (S "__loader__"), .str (S "__loader__") 168, .builtin "__main__.__loader__#opaque"⟩, ⟨K P (S "__spec__"), .str (S "__spec__") 169, .none⟩, ⟨K P (S "__annotations__"), .str (S "__annotations__") 170, .ref 6⟩, ⟨K P (S "__builtins__"), .str (S "__builtins__") 171, .ref 4⟩, ⟨K P (S "__file__"), .str (S "__file__") 173, .str (S "/claim/cut.py") 172⟩, ⟨K P (S "__cached__"), .str (S "__cached__") 174, .none⟩, ⟨K P (S "b1_set"), .str (S "b1_set") 248, .ref 22⟩, ⟨K P (S "in_table_b1"), .str (S "in_table_b1") 255, .ref 32⟩, ⟨K P (S "b3_exceptions"), .str (S "b3_exceptions") 2206, .ref 33⟩, ⟨K P (S "map_table_b3"), .str (S "map_table_b3") 2214, .ref 78⟩, ⟨K P (S "Error"), .str (S "Error") 2236, .ref 88⟩] 14, #[]⟩
def o12v8 (P : Params) : Obj := ⟨.none, none, .fields #[.int 3 0, .int 0 0, .ref 31, .int 6 0, .int 0 0, .ref 77, .int 12 0, .int 0 0, .ref 84], #[]⟩
def o79 (P : Params) : Obj := ⟨.type "tuple", none, .seq #[.type "Exception"] 0, #[]⟩
def o80 (P : Params) : Obj := ⟨.type "builtin_function_or_method", none, .fields #[.builtin "type.__prepare__", .type "type"], #[]⟩
def o81 (P : Params) : Obj := ⟨.type "dict", none, .dict #[⟨K P (S "__module__"), .str (S "__module__") 2224, .str (S "cpy313.ftplib") 2215⟩, ⟨K P (S "__qualname__"), .str (S "__qualname__") 2226, .str (S "Error") 2225⟩, ⟨K P (S "__firstlineno__"), .str (S "__firstlineno__") 2228, .int 12 2227⟩, ⟨K P (S "__static_attributes__"), .str (S "__static_attributes__") 2229, .ref 86⟩] 4, #[]⟩
def o82 (P : Params) : Obj := ⟨.type "tuple", none, .seq #[] 0, #[]⟩
def o83 (P : Params) : Obj := ⟨.none, none, .fields #[], #[]⟩
def o84 (P : Params) : Obj := ⟨.type "code", none, .fields #[.str (S "Error") 2219, .str (S "Error") 2220, .str (S "/claim/cut.py") 2221, .int 12 0, .int 0 0, .int 0 0, .int 0 0, .int 0 0, .ref 82, .bool false, .int 181 0, .ref 83, .none, .none, .none, .none, .int 2222 0, .int 12 0, .str (S "/claim/cut.py") 2223], #[]⟩
def o85 (P : Params) : Obj := ⟨.type "frame", none, .plain, #[(some (.ref 84)), (some (.ref 3)), (some (.ref 81)), none, (some (.str (S "cpy313.ftplib") 2215)), none, (some (.ref 0))]⟩
def o86 (P : Params) : Obj := ⟨.type "tuple", none, .seq #[] 0, #[]⟩
def o87 (P : Params) : Obj := ⟨.type "dict", none, .dict #[⟨K P (S "__module__"), .str (S "__module__") 2224, .str (S "cpy313.ftplib") 2215⟩, ⟨K P (S "__firstlineno__"), .str (S "__firstlineno__") 2228, .int 12 2227⟩, ⟨K P (S "__static_attributes__"), .str (S "__static_attributes__") 2229, .ref 86⟩, ⟨K P (S "__weakref__"), .str (S "__weakref__") 2231, .ref 89⟩, ⟨K P (S "__doc__"), .str (S "__doc__") 2232, .none⟩] 3, #[]⟩
def o88 (P : Params) : Obj := ⟨.type "type", none, .cls { name := (S "Error"), bases := [.type "Exception"], mro := [.ref 88, .type "Exception", .type "BaseException", .type "object"], ns := 87, qualname := (S "Error"), hasDict := true, slotNames := [], subclasses := [], abstract := false, collection := none, hasDel := false }, #[(some (.ref 79)), none, (some (.str (S "Error") 2217)), (some (.str (S "Error") 2225)), (some (.builtin "Exception.__new__")), (some (.bool true))]⟩
def o89 (P : Params) : Obj := ⟨.type "getset_descriptor", none, .fields #[.str (S "__weakref__") 2230, .ref 88, .builtin "ExceptionGroup.__weakref__", .none], #[]⟩
def o90 (P : Params) : Obj := ⟨.type "super", none, .fields #[.ref 88, .ref 88, .ref 88], #[]⟩
def o91 (P : Params) : Obj := ⟨.type "builtin_function_or_method", none, .fields #[.builtin "object.__init_subclass__", .ref 88], #[]⟩
def T8 (P : Params) : BT := (.node (boot_o_0 P) (.node (boot_o_1 P) (.node (o3v8 P) (.node (boot_o_7 P) (.node (o15 P) (.node (o31 P) (.node (o63 P) .nil .nil) .nil) (.node (o47 P) (.node (o79 P) .nil .nil) .nil)) (.node (o23 P) (.node (o39 P) (.node (o71 P) .nil .nil) .nil) (.node (o55 P) (.node (o87 P) .nil .nil) .nil))) (.node (o11 P) (.node (o19 P) (.node (o35 P) (.node (o67 P) .nil .nil) .nil) (.node (o51 P) (.node (o83 P) .nil .nil) .nil)) (.node (o27 P) (.node (o43 P) (.node (o75 P) .nil .nil) .nil) (.node (o59 P) (.node (o91 P) .nil .nil) .nil)))) (.node (boot_o_5 P) (.node (boot_o_9 P) (.node (o17 P) (.node (o33 P) (.node (o65 P) .nil .nil) .nil) (.node (o49 P) (.node (o81 P) .nil .nil) .nil)) (.node (o25 P) (.node (o41 P) (.node (o73 P) .nil .nil) .nil) (.node (o57 P) (.node (o89 P) .nil .nil) .nil))) (.node (o13 P) (.node (o21 P) (.node (o37 P) (.node (o69 P) .nil .nil) .nil) (.node (o53 P) (.node (o85 P) .nil .nil) .nil)) (.node (o29 P) (.node (o45 P) (.node (o77 P) .nil .nil) .nil) (.node (o61 P) .nil .nil))))) (.node (o2v8 P) (.node (boot_o_4 P) (.node (boot_o_8 P) (.node (o16 P) (.node (o32 P) (.node (o64 P) .nil .nil) .nil) (.node (o48 P) (.node (o80 P) .nil .nil) .nil)) (.node (o24 P) (.node (o40 P) (.node (o72 P) .nil .nil) .nil) (.node (o56 P) (.node (o88 P) .nil .nil) .nil))) (.node (o12v8 P) (.node (o20 P) (.node (o36 P) (.node (o68 P) .nil .nil) .nil) (.node (o52 P) (.node (o84 P) .nil .nil) .nil)) (.node (o28 P) (.node (o44 P) (.node (o76 P) .nil .nil) .nil) (.node (o60 P) .nil .nil)))) (.node (boot_o_6 P) (.node (boot_o_10 P) (.node (o18 P) (.node (o34 P) (.node (o66 P) .nil .nil) .nil) (.node (o50 P) (.node (o82 P) .nil .nil) .nil)) (.node (o26 P) (.node (o42 P) (.node (o74 P) .nil .nil) .nil) (.node (o58 P) (.node (o90 P) .nil .nil) .nil))) (.node (o14 P) (.node (o22 P) (.node (o38 P) (.node (o70 P) .nil .nil) .nil) (.node (o54 P) (.node (o86 P) .nil .nil) .nil)) (.node (o30 P) (.node (o46 P) (.node (o78 P) .nil .nil) .nil) (.node (o62 P) .nil .nil))))))
-- stmt6: steps 196 rows []
abbrev s8 (w : World) (os : OsState) : SharedT := ⟨T8 w.params, 92, {}, #[], {}, 2237, os⟩
abbrev p8 : Pos := ⟨12, 0, 13, 8⟩
abbrev n8 : Nat := 197
def o3v9 (P : Params) : Obj := ⟨.type "dict", none, .dict #[⟨K P (S "__name__"), .str (S "__name__") 165, .str (S "cpy313.ftplib") 2215⟩, ⟨K P (S "__doc__"), .str (S "__doc__") 166, .none⟩, ⟨K P (S "__package__"), .str (S "__package__") 167, .none⟩, ⟨K P (S "__loader__"), .str (S "__loader__") 168, .builtin "__main__.__loader__#opaque"⟩, ⟨K P (S "__spec__"), .str (S "__spec__") 169, .none⟩, ⟨K P (S "__annotations__"), .str (S "__annotations__") 170, .ref 6⟩, ⟨K P (S "__builtins__"), .str (S "__builtins__") 171, .ref 4⟩, ⟨K P (S "__file__"), .str (S "__file__") 173, .str (S "/claim/cut.py") 172⟩, ⟨K P (S "__cached__"), .str (S "__cached__") 174, .none⟩, ⟨K P (S "b1_set"), .str (S "b1_set") 248, .ref 22⟩, ⟨K P (S "in_table_b1"), .str (S "in_table_b1") 255, .ref 32⟩, ⟨K P (S "b3_exceptions"), .str (S "b3_exceptions") 2206, .ref 33⟩, ⟨K P (S "map_table_b3"), .str (S "map_table_b3") 2214, .ref 78⟩, ⟨K P (S "Error"), .str (S "Error") 2236, .ref 88⟩, ⟨K P (S "error_reply"), .str (S "error_reply") 2252, .ref 101⟩] 15, #[]⟩
def o12v9 (P : Params) : Obj := ⟨.none, none, .fields #[.int 3 0, .int 0 0, .ref 31, .int 6 0, .int 0 0, .ref 77, .int 12 0, .int 0 0, .ref 84, .int 14 0, .int 0 0, .ref 97], #[]⟩
def o88v9 (P : Params) : Obj := ⟨.type "type", none, .cls { name := (S "Error"), bases := [.type "Exception"], mro := [.ref 88, .type "Exception", .type "BaseException", .type "object"], ns := 87, qualname := (S "Error"), hasDict := true, slotNames := [], subclasses := [.ref 101], abstract := false, collection := none, hasDel := false }, #[(some (.ref 79)), none, (some (.str (S "Error") 2217)), (some (.str (S "Error") 2225)), (some (.builtin "Exception.__new__")), (some (.bool true))]⟩
def o92 (P : Params) : Obj := ⟨.type "tuple", none, .seq #[.ref 88] 0, #[]⟩
def o93 (P : Params) : Obj := ⟨.type "builtin_function_or_method", none, .fields #[.builtin "type.__prepare__", .type "type"], #[]⟩
def o94 (P : Params) : Obj := ⟨.type "dict", none, .dict #[⟨K P (S "__module__"), .str (S "__module__") 2244, .str (S "cpy313.ftplib") 2215⟩, ⟨K P (S "__qualname__"), .str (S "__qualname__") 2246, .str (S "error_reply") 2245⟩, ⟨K P (S "__firstlineno__"), .str (S "__firstlineno__") 2248, .int 14 2247⟩, ⟨K P (S "__static_attributes__"), .str (S "__static_attributes__") 2249, .ref 99⟩] 4, #[]⟩
def o95 (P : Params) : Obj := ⟨.type "tuple", none, .seq #[] 0, #[]⟩
def o96 (P : Params) : Obj := ⟨.none, none, .fields #[], #[]⟩
def o97 (P : Params) : Obj := ⟨.type "code", none, .fields #[.str (S "error_reply") 2239, .str (S "error_reply") 2240, .str (S "/claim/cut.py") 2241, .int 14 0, .int 0 0, .int 0 0, .int 0 0, .int 0 0, .ref 95, .bool false, .int 181 0, .ref 96, .none, .none, .none, .none, .int 2242 0, .int 14 0, .str (S "/claim/cut.py") 2243], #[]⟩
def o98 (P : Params) : Obj := ⟨.type "frame", none, .plain, #[(some (.ref 97)), (some (.ref 3)), (some (.ref 94)), none, (some (.str (S "cpy313.ftplib") 2215)), none, (some (.ref 0))]⟩
def o99 (P : Params) : Obj := ⟨.type "tuple", none, .seq #[] 0, #[]⟩
def o100 (P : Params) : Obj := ⟨.type "dict", none, .dict #[⟨K P (S "__module__"), .str (S "__module__") 2244, .str (S "cpy313.ftplib") 2215⟩, ⟨K P (S "__firstlineno__"), .str (S "__firstlineno__") 2248, .int 14 2247⟩, ⟨K P (S "__static_attributes__"), .str (S "__static_attributes__") 2249, .ref 99⟩, ⟨K P (S "__doc__"), .str (S "__doc__") 2250, .none⟩] 2, #[]⟩
def o101 (P : Params) : Obj := ⟨.type "type", none, .cls { name := (S "error_reply"), bases := [.ref 88], mro := [.ref 101, .ref 88, .type "Exception", .type "BaseException", .type "object"], ns := 100, qualname := (S "error_reply"), hasDict := true, slotNames := [], subclasses := [], abstract := false, collection := none, hasDel := false }, #[(some (.ref 92)), none, (some (.str (S "error_reply") 2237)), (some (.str (S "error_reply") 2245)), (some (.builtin "Exception.__new__")), (some (.bool true))]⟩
def o102 (P : Params) : Obj := ⟨.type "super", none, .fields #[.ref 101, .ref 101, .ref 101], #[]⟩
def o103 (P : Params) : Obj := ⟨.type "builtin_function_or_method", none, .fields #[.builtin "object.__init_subclass__", .ref 101], #[]⟩
def T9 (P : Params) : BT := (.node (boot_o_0 P) (.node (boot_o_1 P) (.node (o3v9 P) (.node (boot_o_7 P) (.node (o15 P) (.node (o31 P) (.node (o63 P) .nil .nil) (.node (o95 P) .nil .nil)) (.node (o47 P) (.node (o79 P) .nil .nil) .nil)) (.node (o23 P) (.node (o39 P) (.node (o71 P) .nil .nil) (.node (o103 P) .nil .nil)) (.node (o55 P) (.node (o87 P) .nil .nil) .nil))) (.node (o11 P) (.node (o19 P) (.node (o35 P) (.node (o67 P) .nil .nil) (.node (o99 P) .nil .nil)) (.node (o51 P) (.node (o83 P) .nil .nil) .nil)) (.node (o27 P) (.node (o43 P) (.node (o75 P) .nil .nil) .nil) (.node (o59 P) (.node (o91 P) .nil .nil) .nil)))) (.node (boot_o_5 P) (.node (boot_o_9 P) (.node (o17 P) (.node (o33 P) (.node (o65 P) .nil .nil) (.node (o97 P) .nil .nil)) (.node (o49 P) (.node (o81 P) .nil .nil) .nil)) (.node (o25 P) (.node (o41 P) (.node (o73 P) .nil .nil) .nil) (.node (o57 P) (.node (o89 P) .nil .nil) .nil))) (.node (o13 P) (.node (o21 P) (.node (o37 P) (.node (o69 P) .nil .nil) (.node (o101 P) .nil .nil)) (.node (o53 P) (.node (o85 P) .nil .nil) .nil)) (.node (o29 P) (.node (o45 P) (.node (o77 P) .nil .nil) .nil) (.node (o61 P) (.node (o93 P) .nil .nil) .nil))))) (.node (o2v8 P) (.node (boot_o_4 P) (.node (boot_o_8 P) (.node (o16 P) (.node (o32 P) (.node (o64 P) .nil .nil) (.node (o96 P) .nil .nil)) (.node (o48 P) (.node (o80 P) .nil .nil) .nil)) (.node (o24 P) (.node (o40 P) (.node (o72 P) .nil .nil) .nil) (.node (o56 P) (.node (o88v9 P) .nil .nil) .nil))) (.node (o12v9 P) (.node (o20 P) (.node (o36 P) (.node (o68 P) .nil .nil) (.node (o100 P) .nil .nil)) (.node (o52 P) (.node (o84 P) .nil .nil) .nil)) (.node (o28 P) (.node (o44 P) (.node (o76 P) .nil .nil) .nil) (.node (o60 P) (.node (o92 P) .nil .nil) .nil)))) (.node (boot_o_6 P) (.node (boot_o_10 P) (.node (o18 P) (.node (o34 P) (.node (o66 P) .nil .nil) (.node (o98 P) .nil .nil)) (.node (o50 P) (.node (o82 P) .nil .nil) .nil)) (.node (o26 P) (.node (o42 P) (.node (o74 P) .nil .nil) .nil) (.node (o58 P) (.node (o90 P) .nil .nil) .nil))) (.node (o14 P) (.node (o22 P) (.node (o38 P) (.node (o70 P) .nil .nil) (.node (o102 P) .nil .nil)) (.node (o54 P) (.node (o86 P) .nil .nil) .nil)) (.node (o30 P) (.node (o46 P) (.node (o78 P) .nil .nil) .nil) (.node (o62 P) (.node (o94 P) .nil .nil) .nil))))))
-- stmt7: steps 213 rows []
abbrev s9 (w : World) (os : OsState) : SharedT := ⟨T9 w.params, 104, {}, #[], {}, 2253, os⟩
abbrev p9 : Pos := ⟨14, 0, 15, 8⟩
abbrev n9 : Nat := 214
def o3v10 (P : Params) : Obj := ⟨.type "dict", none, .dict #[⟨K P (S "__name__"), .str (S "__name__") 165, .str (S "cpy313.ftplib") 2215⟩, ⟨K P (S "__doc__"), .str (S "__doc__") 166, .none⟩, ⟨K P (S "__package__"), .str (S "__package__") 167, .none⟩, ⟨K P (S "__loader__"), .str (S "__loader__") 168, .builtin "__main__.__loader__#opaque"⟩, ⟨K P (S "__spec__"), .str (S "__spec__") 169, .none⟩, ⟨K P (S "__annotations__"), .str (S "__annotations__") 170, .ref 6⟩, ⟨K P (S "__builtins__"), .str (S "__builtins__") 171, .ref 4⟩, ⟨K P (S "__file__"), .str (S "__file__") 173, .str (S "/claim/cut.py") 172⟩, ⟨K P (S "__cached__"), .str (S "__cached__") 174, .none⟩, ⟨K P (S "b1_set"), .str (S "b1_set") 248, .ref 22⟩, ⟨K P (S "in_table_b1"), .str (S "in_table_b1") 255, .ref 32⟩, ⟨K P (S "b3_exceptions"), .str (S "b3_exceptions") 2206, .ref 33⟩, ⟨K P (S "map_table_b3"), .str (S "map_table_b3") 2214, .ref 78⟩, ⟨K P (S "Error"), .str (S "Error") 2236, .ref 88⟩, ⟨K P (S "error_reply"), .str (S "error_reply") 2252, .ref 101⟩, ⟨K P (S "parse257"), .str (S "parse257") 2263, .ref 110⟩] 16, #[]⟩
def o12v10 (P : Params) : Obj := ⟨.none, none, .fields #[.int 3 0, .int 0 0, .ref 31, .int 6 0, .int 0 0, .ref 77, .int 12 0, .int 0 0, .ref 84, .int 14 0, .int 0 0, .ref 97, .int 16 0, .int 0 0, .ref 109], #[]⟩
def o104 (P : Params) : Obj := ⟨.type "tuple", none, .seq #[] 0, #[]⟩
def o105 (P : Params) : Obj := ⟨.none, none, .fields #[], #[]⟩
def o106 (P : Params) : Obj := ⟨.type "tuple", none, .seq #[.str (S "resp") 2256, .str (S "dirname") 2257, .str (S "i") 2258, .str (S "n") 2259, .str (S "c") 2260] 0, #[]⟩
def o107 (P : Params) : Obj := ⟨.type "tuple", none, .seq #[] 0, #[]⟩
def o108 (P : Params) : Obj := ⟨.none, none, .func { name := (S "parse257"), qualname := (S "parse257"), params := (dA 8), body := (.stmts (dB 8)), scope := (dS 8), globals := 0, closure := [], defaults := .none, kwdefaults := .none, doc := .none, pyModule := .none, annotations := none, code := .none, closureTuple := .none, builtins := 0 }, #[]⟩
def o109 (P : Params) : Obj := ⟨.type "code", none, .fields #[.str (S "parse257") 2253, .str (S "parse257") 2254, .str (S "/claim/cut.py") 2255, .int 16 0, .int 1 0, .int 0 0, .int 0 0, .int 3 0, .ref 104, .bool true, .int 181 0, .ref 105, .none, .ref 106, .ref 107, .ref 108, .int 2261 0, .int 16 0, .str (S "/claim/cut.py") 2262], #[]⟩
def o110 (P : Params) : Obj := ⟨.type "function", none, .func { name := (S "parse257"), qualname := (S "parse257"), params := (dA 8), body := (.stmts (dB 8)), scope := (dS 8), globals := 3, closure := [], defaults := .none, kwdefaults := .none, doc := .none, pyModule := .str (S "cpy313.ftplib") 2215, annotations := none, code := .ref 109, closureTuple := .none, builtins := 0 }, #[]⟩
def T10 (P : Params) : BT := (.node (boot_o_0 P) (.node (boot_o_1 P) (.node (o3v10 P) (.node (boot_o_7 P) (.node (o15 P) (.node (o31 P) (.node (o63 P) .nil .nil) (.node (o95 P) .nil .nil)) (.node (o47 P) (.node (o79 P) .nil .nil) .nil)) (.node (o23 P) (.node (o39 P) (.node (o71 P) .nil .nil) (.node (o103 P) .nil .nil)) (.node (o55 P) (.node (o87 P) .nil .nil) .nil))) (.node (o11 P) (.node (o19 P) (.node (o35 P) (.node (o67 P) .nil .nil) (.node (o99 P) .nil .nil)) (.node (o51 P) (.node (o83 P) .nil .nil) .nil)) (.node (o27 P) (.node (o43 P) (.node (o75 P) .nil .nil) (.node (o107 P) .nil .nil)) (.node (o59 P) (.node (o91 P) .nil .nil) .nil)))) (.node (boot_o_5 P) (.node (boot_o_9 P) (.node (o17 P) (.node (o33 P) (.node (o65 P) .nil .nil) (.node (o97 P) .nil .nil)) (.node (o49 P) (.node (o81 P) .nil .nil) .nil)) (.node (o25 P) (.node (o41 P) (.node (o73 P) .nil .nil) (.node (o105 P) .nil .nil)) (.node (o57 P) (.node (o89 P) .nil .nil) .nil))) (.node (o13 P) (.node (o21 P) (.node (o37 P) (.node (o69 P) .nil .nil) (.node (o101 P) .nil .nil)) (.node (o53 P) (.node (o85 P) .nil .nil) .nil)) (.node (o29 P) (.node (o45 P) (.node (o77 P) .nil .nil) (.node (o109 P) .nil .nil)) (.node (o61 P) (.node (o93 P) .nil .nil) .nil))))) (.node (o2v8 P) (.node (boot_o_4 P) (.node (boot_o_8 P) (.node (o16 P) (.node (o32 P) (.node (o64 P) .nil .nil) (.node (o96 P) .nil .nil)) (.node (o48 P) (.node (o80 P) .nil .nil) .nil)) (.node (o24 P) (.node (o40 P) (.node (o72 P) .nil .nil) (.node (o104 P) .nil .nil)) (.node (o56 P) (.node (o88v9 P) .nil .nil) .nil))) (.node (o12v10 P) (.node (o20 P) (.node (o36 P) (.node (o68 P) .nil .nil) (.node (o100 P) .nil .nil)) (.node (o52 P) (.node (o84 P) .nil .nil) .nil)) (.node (o28 P) (.node (o44 P) (.node (o76 P) .nil .nil) (.node (o108 P) .nil .nil)) (.node (o60 P) (.node (o92 P) .nil .nil) .nil)))) (.node (boot_o_6 P) (.node (boot_o_10 P) (.node (o18 P) (.node (o34 P) (.node (o66 P) .nil .nil) (.node (o98 P) .nil .nil)) (.node (o50 P) (.node (o82 P) .nil .nil) .nil)) (.node (o26 P) (.node (o42 P) (.node (o74 P) .nil .nil) (.node (o106 P) .nil .nil)) (.node (o58 P) (.node (o90 P) .nil .nil) .nil))) (.node (o14 P) (.node (o22 P) (.node (o38 P) (.node (o70 P) .nil .nil) (.node (o102 P) .nil .nil)) (.node (o54 P) (.node (o86 P) .nil .nil) .nil)) (.node (o30 P) (.node (o46 P) (.node (o78 P) .nil .nil) (.node (o110 P) .nil .nil)) (.node (o62 P) (.node (o94 P) .nil .nil) .nil))))))
-- stmt8: steps 33 rows []
abbrev s10 (w : World) (os : OsState) : SharedT := ⟨T10 w.params, 111, {}, #[], {}, 2264, os⟩
abbrev p10 : Pos := ⟨16, 0, 32, 18⟩
abbrev n10 : Nat := 34
def o3v11 (P : Params) : Obj := ⟨.type "dict", none, .dict #[⟨K P (S "__name__"), .str (S "__name__") 165, .str (S "law_pm0045_01") 2264⟩, ⟨K P (S "__doc__"), .str (S "__doc__") 166, .none⟩, ⟨K P (S "__package__"), .str (S "__package__") 167, .none⟩, ⟨K P (S "__loader__"), .str (S "__loader__") 168, .builtin "__main__.__loader__#opaque"⟩, ⟨K P (S "__spec__"), .str (S "__spec__") 169, .none⟩, ⟨K P (S "__annotations__"), .str (S "__annotations__") 170, .ref 6⟩, ⟨K P (S "__builtins__"), .str (S "__builtins__") 171, .ref 4⟩, ⟨K P (S "__file__"), .str (S "__file__") 173, .str (S "/claim/cut.py") 172⟩, ⟨K P (S "__cached__"), .str (S "__cached__") 174, .none⟩, ⟨K P (S "b1_set"), .str (S "b1_set") 248, .ref 22⟩, ⟨K P (S "in_table_b1"), .str (S "in_table_b1") 255, .ref 32⟩, ⟨K P (S "b3_exceptions"), .str (S "b3_exceptions") 2206, .ref 33⟩, ⟨K P (S "map_table_b3"), .str (S "map_table_b3") 2214, .ref 78⟩, ⟨K P (S "Error"), .str (S "Error") 2236, .ref 88⟩, ⟨K P (S "error_reply"), .str (S "error_reply") 2252, .ref 101⟩, ⟨K P (S "parse257"), .str (S "parse257") 2263, .ref 110⟩] 16, #[]⟩
def T11 (P : Params) : BT := (.node (boot_o_0 P) (.node (boot_o_1 P) (.node (o3v11 P) (.node (boot_o_7 P) (.node (o15 P) (.node (o31 P) (.node (o63 P) .nil .nil) (.node (o95 P) .nil .nil)) (.node (o47 P) (.node (o79 P) .nil .nil) .nil)) (.node (o23 P) (.node (o39 P) (.node (o71 P) .nil .nil) (.node (o103 P) .nil .nil)) (.node (o55 P) (.node (o87 P) .nil .nil) .nil))) (.node (o11 P) (.node (o19 P) (.node (o35 P) (.node (o67 P) .nil .nil) (.node (o99 P) .nil .nil)) (.node (o51 P) (.node (o83 P) .nil .nil) .nil)) (.node (o27 P) (.node (o43 P) (.node (o75 P) .nil .nil) (.node (o107 P) .nil .nil)) (.node (o59 P) (.node (o91 P) .nil .nil) .nil)))) (.node (boot_o_5 P) (.node (boot_o_9 P) (.node (o17 P) (.node (o33 P) (.node (o65 P) .nil .nil) (.node (o97 P) .nil .nil)) (.node (o49 P) (.node (o81 P) .nil .nil) .nil)) (.node (o25 P) (.node (o41 P) (.node (o73 P) .nil .nil) (.node (o105 P) .nil .nil)) (.node (o57 P) (.node (o89 P) .nil .nil) .nil))) (.node (o13 P) (.node (o21 P) (.node (o37 P) (.node (o69 P) .nil .nil) (.node (o101 P) .nil .nil)) (.node (o53 P) (.node (o85 P) .nil .nil) .nil)) (.node (o29 P) (.node (o45 P) (.node (o77 P) .nil .nil) (.node (o109 P) .nil .nil)) (.node (o61 P) (.node (o93 P) .nil .nil) .nil))))) (.node (o2v8 P) (.node (boot_o_4 P) (.node (boot_o_8 P) (.node (o16 P) (.node (o32 P) (.node (o64 P) .nil .nil) (.node (o96 P) .nil .nil)) (.node (o48 P) (.node (o80 P) .nil .nil) .nil)) (.node (o24 P) (.node (o40 P) (.node (o72 P) .nil .nil) (.node (o104 P) .nil .nil)) (.node (o56 P) (.node (o88v9 P) .nil .nil) .nil))) (.node (o12v10 P) (.node (o20 P) (.node (o36 P) (.node (o68 P) .nil .nil) (.node (o100 P) .nil .nil)) (.node (o52 P) (.node (o84 P) .nil .nil) .nil)) (.node (o28 P) (.node (o44 P) (.node (o76 P) .nil .nil) (.node (o108 P) .nil .nil)) (.node (o60 P) (.node (o92 P) .nil .nil) .nil)))) (.node (boot_o_6 P) (.node (boot_o_10 P) (.node (o18 P) (.node (o34 P) (.node (o66 P) .nil .nil) (.node (o98 P) .nil .nil)) (.node (o50 P) (.node (o82 P) .nil .nil) .nil)) (.node (o26 P) (.node (o42 P) (.node (o74 P) .nil .nil) (.node (o106 P) .nil .nil)) (.node (o58 P) (.node (o90 P) .nil .nil) .nil))) (.node (o14 P) (.node (o22 P) (.node (o38 P) (.node (o70 P) .nil .nil) (.node (o102 P) .nil .nil)) (.node (o54 P) (.node (o86 P) .nil .nil) .nil)) (.node (o30 P) (.node (o46 P) (.node (o78 P) .nil .nil) (.node (o110 P) .nil .nil)) (.node (o62 P) (.node (o94 P) .nil .nil) .nil))))))
-- stmt9: steps 9 rows []
abbrev s11 (w : World) (os : OsState) : SharedT := ⟨T11 w.params, 111, {}, #[], {}, 2266, os⟩
abbrev p11 : Pos := ⟨33, 0, 33, 8⟩
abbrev n11 : Nat := 10
def o3v12 (P : Params) : Obj := ⟨.type "dict", none, .dict #[⟨K P (S "__name__"), .str (S "__name__") 165, .str (S "law_pm0045_01") 2264⟩, ⟨K P (S "__doc__"), .str (S "__doc__") 166, .none⟩, ⟨K P (S "__package__"), .str (S "__package__") 167, .none⟩, ⟨K P (S "__loader__"), .str (S "__loader__") 168, .builtin "__main__.__loader__#opaque"⟩, ⟨K P (S "__spec__"), .str (S "__spec__") 169, .none⟩, ⟨K P (S "__annotations__"), .str (S "__annotations__") 170, .ref 6⟩, ⟨K P (S "__builtins__"), .str (S "__builtins__") 171, .ref 4⟩, ⟨K P (S "__file__"), .str (S "__file__") 173, .str (S "/claim/cut.py") 172⟩, ⟨K P (S "__cached__"), .str (S "__cached__") 174, .none⟩, ⟨K P (S "b1_set"), .str (S "b1_set") 248, .ref 22⟩, ⟨K P (S "in_table_b1"), .str (S "in_table_b1") 255, .ref 32⟩, ⟨K P (S "b3_exceptions"), .str (S "b3_exceptions") 2206, .ref 33⟩, ⟨K P (S "map_table_b3"), .str (S "map_table_b3") 2214, .ref 78⟩, ⟨K P (S "Error"), .str (S "Error") 2236, .ref 88⟩, ⟨K P (S "error_reply"), .str (S "error_reply") 2252, .ref 101⟩, ⟨K P (S "parse257"), .str (S "parse257") 2263, .ref 110⟩, ⟨K P (S "_law_twos"), .str (S "_law_twos") 2271, .ref 117⟩] 17, #[]⟩
def o12v12 (P : Params) : Obj := ⟨.none, none, .fields #[.int 3 0, .int 0 0, .ref 31, .int 6 0, .int 0 0, .ref 77, .int 12 0, .int 0 0, .ref 84, .int 14 0, .int 0 0, .ref 97, .int 16 0, .int 0 0, .ref 109, .int 34 0, .int 0 0, .ref 116], #[]⟩
def o111 (P : Params) : Obj := ⟨.type "tuple", none, .seq #[] 0, #[]⟩
def o112 (P : Params) : Obj := ⟨.none, none, .fields #[], #[]⟩
def o113 (P : Params) : Obj := ⟨.type "tuple", none, .seq #[] 0, #[]⟩
def o114 (P : Params) : Obj := ⟨.type "tuple", none, .seq #[] 0, #[]⟩
def o115 (P : Params) : Obj := ⟨.none, none, .func { name := (S "_law_twos"), qualname := (S "_law_twos"), params := (dA 10), body := (.stmts (dB 10)), scope := (dS 10), globals := 0, closure := [], defaults := .none, kwdefaults := .none, doc := .none, pyModule := .none, annotations := none, code := .none, closureTuple := .none, builtins := 0 }, #[]⟩
def o116 (P : Params) : Obj := ⟨.type "code", none, .fields #[.str (S "_law_twos") 2266, .str (S "_law_twos") 2267, .str (S "/claim/cut.py") 2268, .int 34 0, .int 0 0, .int 0 0, .int 0 0, .int 3 0, .ref 111, .bool true, .int 181 0, .ref 112, .none, .ref 113, .ref 114, .ref 115, .int 2269 0, .int 34 0, .str (S "/claim/cut.py") 2270], #[]⟩
def o117 (P : Params) : Obj := ⟨.type "function", none, .func { name := (S "_law_twos"), qualname := (S "_law_twos"), params := (dA 10), body := (.stmts (dB 10)), scope := (dS 10), globals := 3, closure := [], defaults := .none, kwdefaults := .none, doc := .none, pyModule := .str (S "law_pm0045_01") 2264, annotations := none, code := .ref 116, closureTuple := .none, builtins := 0 }, #[]⟩
def T12 (P : Params) : BT := (.node (boot_o_0 P) (.node (boot_o_1 P) (.node (o3v12 P) (.node (boot_o_7 P) (.node (o15 P) (.node (o31 P) (.node (o63 P) .nil .nil) (.node (o95 P) .nil .nil)) (.node (o47 P) (.node (o79 P) .nil .nil) (.node (o111 P) .nil .nil))) (.node (o23 P) (.node (o39 P) (.node (o71 P) .nil .nil) (.node (o103 P) .nil .nil)) (.node (o55 P) (.node (o87 P) .nil .nil) .nil))) (.node (o11 P) (.node (o19 P) (.node (o35 P) (.node (o67 P) .nil .nil) (.node (o99 P) .nil .nil)) (.node (o51 P) (.node (o83 P) .nil .nil) (.node (o115 P) .nil .nil))) (.node (o27 P) (.node (o43 P) (.node (o75 P) .nil .nil) (.node (o107 P) .nil .nil)) (.node (o59 P) (.node (o91 P) .nil .nil) .nil)))) (.node (boot_o_5 P) (.node (boot_o_9 P) (.node (o17 P) (.node (o33 P) (.node (o65 P) .nil .nil) (.node (o97 P) .nil .nil)) (.node (o49 P) (.node (o81 P) .nil .nil) (.node (o113 P) .nil .nil))) (.node (o25 P) (.node (o41 P) (.node (o73 P) .nil .nil) (.node (o105 P) .nil .nil)) (.node (o57 P) (.node (o89 P) .nil .nil) .nil))) (.node (o13 P) (.node (o21 P) (.node (o37 P) (.node (o69 P) .nil .nil) (.node (o101 P) .nil .nil)) (.node (o53 P) (.node (o85 P) .nil .nil) (.node (o117 P) .nil .nil))) (.node (o29 P) (.node (o45 P) (.node (o77 P) .nil .nil) (.node (o109 P) .nil .nil)) (.node (o61 P) (.node (o93 P) .nil .nil) .nil))))) (.node (o2v8 P) (.node (boot_o_4 P) (.node (boot_o_8 P) (.node (o16 P) (.node (o32 P) (.node (o64 P) .nil .nil) (.node (o96 P) .nil .nil)) (.node (o48 P) (.node (o80 P) .nil .nil) (.node (o112 P) .nil .nil))) (.node (o24 P) (.node (o40 P) (.node (o72 P) .nil .nil) (.node (o104 P) .nil .nil)) (.node (o56 P) (.node (o88v9 P) .nil .nil) .nil))) (.node (o12v12 P) (.node (o20 P) (.node (o36 P) (.node (o68 P) .nil .nil) (.node (o100 P) .nil .nil)) (.node (o52 P) (.node (o84 P) .nil .nil) (.node (o116 P) .nil .nil))) (.node (o28 P) (.node (o44 P) (.node (o76 P) .nil .nil) (.node (o108 P) .nil .nil)) (.node (o60 P) (.node (o92 P) .nil .nil) .nil)))) (.node (boot_o_6 P) (.node (boot_o_10 P) (.node (o18 P) (.node (o34 P) (.node (o66 P) .nil .nil) (.node (o98 P) .nil .nil)) (.node (o50 P) (.node (o82 P) .nil .nil) (.node (o114 P) .nil .nil))) (.node (o26 P) (.node (o42 P) (.node (o74 P) .nil .nil) (.node (o106 P) .nil .nil)) (.node (o58 P) (.node (o90 P) .nil .nil) .nil))) (.node (o14 P) (.node (o22 P) (.node (o38 P) (.node (o70 P) .nil .nil) (.node (o102 P) .nil .nil)) (.node (o54 P) (.node (o86 P) .nil .nil) .nil)) (.node (o30 P) (.node (o46 P) (.node (o78 P) .nil .nil) (.node (o110 P) .nil .nil)) (.node (o62 P) (.node (o94 P) .nil .nil) .nil))))))
-- stmt10: steps 28 rows []
abbrev s12 (w : World) (os : OsState) : SharedT := ⟨T12 w.params, 118, {}, #[], {}, 2272, os⟩
abbrev p12 : Pos := ⟨34, 0, 35, 191⟩
abbrev n12 : Nat := 29
def o3v13 (P : Params) : Obj := ⟨.type "dict", none, .dict #[⟨K P (S "__name__"), .str (S "__name__") 165, .str (S "law_pm0045_01") 2264⟩, ⟨K P (S "__doc__"), .str (S "__doc__") 166, .none⟩, ⟨K P (S "__package__"), .str (S "__package__") 167, .none⟩, ⟨K P (S "__loader__"), .str (S "__loader__") 168, .builtin "__main__.__loader__#opaque"⟩, ⟨K P (S "__spec__"), .str (S "__spec__") 169, .none⟩, ⟨K P (S "__annotations__"), .str (S "__annotations__") 170, .ref 6⟩, ⟨K P (S "__builtins__"), .str (S "__builtins__") 171, .ref 4⟩, ⟨K P (S "__file__"), .str (S "__file__") 173, .str (S "/claim/cut.py") 172⟩, ⟨K P (S "__cached__"), .str (S "__cached__") 174, .none⟩, ⟨K P (S "b1_set"), .str (S "b1_set") 248, .ref 22⟩, ⟨K P (S "in_table_b1"), .str (S "in_table_b1") 255, .ref 32⟩, ⟨K P (S "b3_exceptions"), .str (S "b3_exceptions") 2206, .ref 33⟩, ⟨K P (S "map_table_b3"), .str (S "map_table_b3") 2214, .ref 78⟩, ⟨K P (S "Error"), .str (S "Error") 2236, .ref 88⟩, ⟨K P (S "error_reply"), .str (S "error_reply") 2252, .ref 101⟩, ⟨K P (S "parse257"), .str (S "parse257") 2263, .ref 110⟩, ⟨K P (S "_law_twos"), .str (S "_law_twos") 2271, .ref 117⟩, ⟨K P (S "_law_piece"), .str (S "_law_piece") 2282, .ref 124⟩] 18, #[]⟩
def o12v13 (P : Params) : Obj := ⟨.none, none, .fields #[.int 3 0, .int 0 0, .ref 31, .int 6 0, .int 0 0, .ref 77, .int 12 0, .int 0 0, .ref 84, .int 14 0, .int 0 0, .ref 97, .int 16 0, .int 0 0, .ref 109, .int 34 0, .int 0 0, .ref 116, .int 36 0, .int 0 0, .ref 123], #[]⟩
def o118 (P : Params) : Obj := ⟨.type "tuple", none, .seq #[] 0, #[]⟩
def o119 (P : Params) : Obj := ⟨.none, none, .fields #[], #[]⟩
def o120 (P : Params) : Obj := ⟨.type "tuple", none, .seq #[.str (S "x") 2275, .str (S "rest") 2276, .str (S "unseen") 2277, .str (S "beside") 2278, .str (S "start") 2279] 0, #[]⟩
def o121 (P : Params) : Obj := ⟨.type "tuple", none, .seq #[] 0, #[]⟩
def o122 (P : Params) : Obj := ⟨.none, none, .func { name := (S "_law_piece"), qualname := (S "_law_piece"), params := (dA 11), body := (.stmts (dB 11)), scope := (dS 11), globals := 0, closure := [], defaults := .none, kwdefaults := .none, doc := .none, pyModule := .none, annotations := none, code := .none, closureTuple := .none, builtins := 0 }, #[]⟩
def o123 (P : Params) : Obj := ⟨.type "code", none, .fields #[.str (S "_law_piece") 2272, .str (S "_law_piece") 2273, .str (S "/claim/cut.py") 2274, .int 36 0, .int 1 0, .int 0 0, .int 0 0, .int 3 0, .ref 118, .bool true, .int 181 0, .ref 119, .none, .ref 120, .ref 121, .ref 122, .int 2280 0, .int 36 0, .str (S "/claim/cut.py") 2281], #[]⟩
def o124 (P : Params) : Obj := ⟨.type "function", none, .func { name := (S "_law_piece"), qualname := (S "_law_piece"), params := (dA 11), body := (.stmts (dB 11)), scope := (dS 11), globals := 3, closure := [], defaults := .none, kwdefaults := .none, doc := .none, pyModule := .str (S "law_pm0045_01") 2264, annotations := none, code := .ref 123, closureTuple := .none, builtins := 0 }, #[]⟩
def T13 (P : Params) : BT := (.node (boot_o_0 P) (.node (boot_o_1 P) (.node (o3v13 P) (.node (boot_o_7 P) (.node (o15 P) (.node (o31 P) (.node (o63 P) .nil .nil) (.node (o95 P) .nil .nil)) (.node (o47 P) (.node (o79 P) .nil .nil) (.node (o111 P) .nil .nil))) (.node (o23 P) (.node (o39 P) (.node (o71 P) .nil .nil) (.node (o103 P) .nil .nil)) (.node (o55 P) (.node (o87 P) .nil .nil) (.node (o119 P) .nil .nil)))) (.node (o11 P) (.node (o19 P) (.node (o35 P) (.node (o67 P) .nil .nil) (.node (o99 P) .nil .nil)) (.node (o51 P) (.node (o83 P) .nil .nil) (.node (o115 P) .nil .nil))) (.node (o27 P) (.node (o43 P) (.node (o75 P) .nil .nil) (.node (o107 P) .nil .nil)) (.node (o59 P) (.node (o91 P) .nil .nil) (.node (o123 P) .nil .nil))))) (.node (boot_o_5 P) (.node (boot_o_9 P) (.node (o17 P) (.node (o33 P) (.node (o65 P) .nil .nil) (.node (o97 P) .nil .nil)) (.node (o49 P) (.node (o81 P) .nil .nil) (.node (o113 P) .nil .nil))) (.node (o25 P) (.node (o41 P) (.node (o73 P) .nil .nil) (.node (o105 P) .nil .nil)) (.node (o57 P) (.node (o89 P) .nil .nil) (.node (o121 P) .nil .nil)))) (.node (o13 P) (.node (o21 P) (.node (o37 P) (.node (o69 P) .nil .nil) (.node (o101 P) .nil .nil)) (.node (o53 P) (.node (o85 P) .nil .nil) (.node (o117 P) .nil .nil))) (.node (o29 P) (.node (o45 P) (.node (o77 P) .nil .nil) (.node (o109 P) .nil .nil)) (.node (o61 P) (.node (o93 P) .nil .nil) .nil))))) (.node (o2v8 P) (.node (boot_o_4 P) (.node (boot_o_8 P) (.node (o16 P) (.node (o32 P) (.node (o64 P) .nil .nil) (.node (o96 P) .nil .nil)) (.node (o48 P) (.node (o80 P) .nil .nil) (.node (o112 P) .nil .nil))) (.node (o24 P) (.node (o40 P) (.node (o72 P) .nil .nil) (.node (o104 P) .nil .nil)) (.node (o56 P) (.node (o88v9 P) .nil .nil) (.node (o120 P) .nil .nil)))) (.node (o12v13 P) (.node (o20 P) (.node (o36 P) (.node (o68 P) .nil .nil) (.node (o100 P) .nil .nil)) (.node (o52 P) (.node (o84 P) .nil .nil) (.node (o116 P) .nil .nil))) (.node (o28 P) (.node (o44 P) (.node (o76 P) .nil .nil) (.node (o108 P) .nil .nil)) (.node (o60 P) (.node (o92 P) .nil .nil) (.node (o124 P) .nil .nil))))) (.node (boot_o_6 P) (.node (boot_o_10 P) (.node (o18 P) (.node (o34 P) (.node (o66 P) .nil .nil) (.node (o98 P) .nil .nil)) (.node (o50 P) (.node (o82 P) .nil .nil) (.node (o114 P) .nil .nil))) (.node (o26 P) (.node (o42 P) (.node (o74 P) .nil .nil) (.node (o106 P) .nil .nil)) (.node (o58 P) (.node (o90 P) .nil .nil) (.node (o122 P) .nil .nil)))) (.node (o14 P) (.node (o22 P) (.node (o38 P) (.node (o70 P) .nil .nil) (.node (o102 P) .nil .nil)) (.node (o54 P) (.node (o86 P) .nil .nil) (.node (o118 P) .nil .nil))) (.node (o30 P) (.node (o46 P) (.node (o78 P) .nil .nil) (.node (o110 P) .nil .nil)) (.node (o62 P) (.node (o94 P) .nil .nil) .nil))))))
-- stmt11: steps 33 rows []
abbrev s13 (w : World) (os : OsState) : SharedT := ⟨T13 w.params, 125, {}, #[], {}, 2283, os⟩
abbrev p13 : Pos := ⟨36, 0, 53, 122⟩
abbrev n13 : Nat := 34
def o3v14 (P : Params) : Obj := ⟨.type "dict", none, .dict #[⟨K P (S "__name__"), .str (S "__name__") 165, .str (S "law_pm0045_01") 2264⟩, ⟨K P (S "__doc__"), .str (S "__doc__") 166, .none⟩, ⟨K P (S "__package__"), .str (S "__package__") 167, .none⟩, ⟨K P (S "__loader__"), .str (S "__loader__") 168, .builtin "__main__.__loader__#opaque"⟩, ⟨K P (S "__spec__"), .str (S "__spec__") 169, .none⟩, ⟨K P (S "__annotations__"), .str (S "__annotations__") 170, .ref 6⟩, ⟨K P (S "__builtins__"), .str (S "__builtins__") 171, .ref 4⟩, ⟨K P (S "__file__"), .str (S "__file__") 173, .str (S "/claim/cut.py") 172⟩, ⟨K P (S "__cached__"), .str (S "__cached__") 174, .none⟩, ⟨K P (S "b1_set"), .str (S "b1_set") 248, .ref 22⟩, ⟨K P (S "in_table_b1"), .str (S "in_table_b1") 255, .ref 32⟩, ⟨K P (S "b3_exceptions"), .str (S "b3_exceptions") 2206, .ref 33⟩, ⟨K P (S "map_table_b3"), .str (S "map_table_b3") 2214, .ref 78⟩, ⟨K P (S "Error"), .str (S "Error") 2236, .ref 88⟩, ⟨K P (S "error_reply"), .str (S "error_reply") 2252, .ref 101⟩, ⟨K P (S "parse257"), .str (S "parse257") 2263, .ref 110⟩, ⟨K P (S "_law_twos"), .str (S "_law_twos") 2271, .ref 117⟩, ⟨K P (S "_law_piece"), .str (S "_law_piece") 2282, .ref 124⟩, ⟨K P (S "_law_ring"), .str (S "_law_ring") 2288, .ref 129⟩] 19, #[]⟩
def o12v14 (P : Params) : Obj := ⟨.none, none, .fields #[.int 3 0, .int 0 0, .ref 31, .int 6 0, .int 0 0, .ref 77, .int 12 0, .int 0 0, .ref 84, .int 14 0, .int 0 0, .ref 97, .int 16 0, .int 0 0, .ref 109, .int 34 0, .int 0 0, .ref 116, .int 36 0, .int 0 0, .ref 123, .int 54 0, .int 0 0, .ref 128], #[]⟩
def o125 (P : Params) : Obj := ⟨.type "tuple", none, .seq #[] 0, #[]⟩
def o126 (P : Params) : Obj := ⟨.none, none, .fields #[], #[]⟩
def o127 (P : Params) : Obj := ⟨.none, none, .func { name := (S "_law_ring"), qualname := (S "_law_ring"), params := (dA 12), body := (.stmts (dB 12)), scope := (dS 12), globals := 0, closure := [], defaults := .none, kwdefaults := .none, doc := .none, pyModule := .none, annotations := none, code := .none, closureTuple := .none, builtins := 0 }, #[]⟩
def o128 (P : Params) : Obj := ⟨.type "code", none, .fields #[.str (S "_law_ring") 2283, .str (S "_law_ring") 2284, .str (S "/claim/cut.py") 2285, .int 54 0, .int 1 0, .int 0 0, .int 0 0, .int 3 0, .ref 125, .bool true, .int 181 0, .ref 126, .none, .none, .none, .ref 127, .int 2286 0, .int 54 0, .str (S "/claim/cut.py") 2287], #[]⟩
def o129 (P : Params) : Obj := ⟨.type "function", none, .func { name := (S "_law_ring"), qualname := (S "_law_ring"), params := (dA 12), body := (.stmts (dB 12)), scope := (dS 12), globals := 3, closure := [], defaults := .none, kwdefaults := .none, doc := .none, pyModule := .str (S "law_pm0045_01") 2264, annotations := none, code := .ref 128, closureTuple := .none, builtins := 0 }, #[]⟩
def T14 (P : Params) : BT := (.node (boot_o_0 P) (.node (boot_o_1 P) (.node (o3v14 P) (.node (boot_o_7 P) (.node (o15 P) (.node (o31 P) (.node (o63 P) (.node (o127 P) .nil .nil) .nil) (.node (o95 P) .nil .nil)) (.node (o47 P) (.node (o79 P) .nil .nil) (.node (o111 P) .nil .nil))) (.node (o23 P) (.node (o39 P) (.node (o71 P) .nil .nil) (.node (o103 P) .nil .nil)) (.node (o55 P) (.node (o87 P) .nil .nil) (.node (o119 P) .nil .nil)))) (.node (o11 P) (.node (o19 P) (.node (o35 P) (.node (o67 P) .nil .nil) (.node (o99 P) .nil .nil)) (.node (o51 P) (.node (o83 P) .nil .nil) (.node (o115 P) .nil .nil))) (.node (o27 P) (.node (o43 P) (.node (o75 P) .nil .nil) (.node (o107 P) .nil .nil)) (.node (o59 P) (.node (o91 P) .nil .nil) (.node (o123 P) .nil .nil))))) (.node (boot_o_5 P) (.node (boot_o_9 P) (.node (o17 P) (.node (o33 P) (.node (o65 P) (.node (o129 P) .nil .nil) .nil) (.node (o97 P) .nil .nil)) (.node (o49 P) (.node (o81 P) .nil .nil) (.node (o113 P) .nil .nil))) (.node (o25 P) (.node (o41 P) (.node (o73 P) .nil .nil) (.node (o105 P) .nil .nil)) (.node (o57 P) (.node (o89 P) .nil .nil) (.node (o121 P) .nil .nil)))) (.node (o13 P) (.node (o21 P) (.node (o37 P) (.node (o69 P) .nil .nil) (.node (o101 P) .nil .nil)) (.node (o53 P) (.node (o85 P) .nil .nil) (.node (o117 P) .nil .nil))) (.node (o29 P) (.node (o45 P) (.node (o77 P) .nil .nil) (.node (o109 P) .nil .nil)) (.node (o61 P) (.node (o93 P) .nil .nil) (.node (o125 P) .nil .nil)))))) (.node (o2v8 P) (.node (boot_o_4 P) (.node (boot_o_8 P) (.node (o16 P) (.node (o32 P) (.node (o64 P) (.node (o128 P) .nil .nil) .nil) (.node (o96 P) .nil .nil)) (.node (o48 P) (.node (o80 P) .nil .nil) (.node (o112 P) .nil .nil))) (.node (o24 P) (.node (o40 P) (.node (o72 P) .nil .nil) (.node (o104 P) .nil .nil)) (.node (o56 P) (.node (o88v9 P) .nil .nil) (.node (o120 P) .nil .nil)))) (.node (o12v14 P) (.node (o20 P) (.node (o36 P) (.node (o68 P) .nil .nil) (.node (o100 P) .nil .nil)) (.node (o52 P) (.node (o84 P) .nil .nil) (.node (o116 P) .nil .nil))) (.node (o28 P) (.node (o44 P) (.node (o76 P) .nil .nil) (.node (o108 P) .nil .nil)) (.node (o60 P) (.node (o92 P) .nil .nil) (.node (o124 P) .nil .nil))))) (.node (boot_o_6 P) (.node (boot_o_10 P) (.node (o18 P) (.node (o34 P) (.node (o66 P) .nil .nil) (.node (o98 P) .nil .nil)) (.node (o50 P) (.node (o82 P) .nil .nil) (.node (o114 P) .nil .nil))) (.node (o26 P) (.node (o42 P) (.node (o74 P) .nil .nil) (.node (o106 P) .nil .nil)) (.node (o58 P) (.node (o90 P) .nil .nil) (.node (o122 P) .nil .nil)))) (.node (o14 P) (.node (o22 P) (.node (o38 P) (.node (o70 P) .nil .nil) (.node (o102 P) .nil .nil)) (.node (o54 P) (.node (o86 P) .nil .nil) (.node (o118 P) .nil .nil))) (.node (o30 P) (.node (o46 P) (.node (o78 P) .nil .nil) (.node (o110 P) .nil .nil)) (.node (o62 P) (.node (o94 P) .nil .nil) (.node (o126 P) .nil .nil)))))))
-- stmt12: steps 26 rows []
abbrev s14 (w : World) (os : OsState) : SharedT := ⟨T14 w.params, 130, {}, #[], {}, 2289, os⟩
abbrev p14 : Pos := ⟨54, 0, 59, 118⟩
abbrev n14 : Nat := 27
def o3v15 (P : Params) : Obj := ⟨.type "dict", none, .dict #[⟨K P (S "__name__"), .str (S "__name__") 165, .str (S "law_pm0045_01") 2264⟩, ⟨K P (S "__doc__"), .str (S "__doc__") 166, .none⟩, ⟨K P (S "__package__"), .str (S "__package__") 167, .none⟩, ⟨K P (S "__loader__"), .str (S "__loader__") 168, .builtin "__main__.__loader__#opaque"⟩, ⟨K P (S "__spec__"), .str (S "__spec__") 169, .none⟩, ⟨K P (S "__annotations__"), .str (S "__annotations__") 170, .ref 6⟩, ⟨K P (S "__builtins__"), .str (S "__builtins__") 171, .ref 4⟩, ⟨K P (S "__file__"), .str (S "__file__") 173, .str (S "/claim/cut.py") 172⟩, ⟨K P (S "__cached__"), .str (S "__cached__") 174, .none⟩, ⟨K P (S "b1_set"), .str (S "b1_set") 248, .ref 22⟩, ⟨K P (S "in_table_b1"), .str (S "in_table_b1") 255, .ref 32⟩, ⟨K P (S "b3_exceptions"), .str (S "b3_exceptions") 2206, .ref 33⟩, ⟨K P (S "map_table_b3"), .str (S "map_table_b3") 2214, .ref 78⟩, ⟨K P (S "Error"), .str (S "Error") 2236, .ref 88⟩, ⟨K P (S "error_reply"), .str (S "error_reply") 2252, .ref 101⟩, ⟨K P (S "parse257"), .str (S "parse257") 2263, .ref 110⟩, ⟨K P (S "_law_twos"), .str (S "_law_twos") 2271, .ref 117⟩, ⟨K P (S "_law_piece"), .str (S "_law_piece") 2282, .ref 124⟩, ⟨K P (S "_law_ring"), .str (S "_law_ring") 2288, .ref 129⟩, ⟨K P (S "_law_prepared"), .str (S "_law_prepared") 2294, .ref 134⟩] 20, #[]⟩
def o12v15 (P : Params) : Obj := ⟨.none, none, .fields #[.int 3 0, .int 0 0, .ref 31, .int 6 0, .int 0 0, .ref 77, .int 12 0, .int 0 0, .ref 84, .int 14 0, .int 0 0, .ref 97, .int 16 0, .int 0 0, .ref 109, .int 34 0, .int 0 0, .ref 116, .int 36 0, .int 0 0, .ref 123, .int 54 0, .int 0 0, .ref 128, .int 60 0, .int 0 0, .ref 133], #[]⟩
def o130 (P : Params) : Obj := ⟨.type "tuple", none, .seq #[] 0, #[]⟩
def o131 (P : Params) : Obj := ⟨.none, none, .fields #[], #[]⟩
def o132 (P : Params) : Obj := ⟨.none, none, .func { name := (S "_law_prepared"), qualname := (S "_law_prepared"), params := (dA 13), body := (.stmts (dB 13)), scope := (dS 13), globals := 0, closure := [], defaults := .none, kwdefaults := .none, doc := .none, pyModule := .none, annotations := none, code := .none, closureTuple := .none, builtins := 0 }, #[]⟩
def o133 (P : Params) : Obj := ⟨.type "code", none, .fields #[.str (S "_law_prepared") 2289, .str (S "_law_prepared") 2290, .str (S "/claim/cut.py") 2291, .int 60 0, .int 1 0, .int 0 0, .int 0 0, .int 3 0, .ref 130, .bool true, .int 181 0, .ref 131, .none, .none, .none, .ref 132, .int 2292 0, .int 60 0, .str (S "/claim/cut.py") 2293], #[]⟩
def o134 (P : Params) : Obj := ⟨.type "function", none, .func { name := (S "_law_prepared"), qualname := (S "_law_prepared"), params := (dA 13), body := (.stmts (dB 13)), scope := (dS 13), globals := 3, closure := [], defaults := .none, kwdefaults := .none, doc := .none, pyModule := .str (S "law_pm0045_01") 2264, annotations := none, code := .ref 133, closureTuple := .none, builtins := 0 }, #[]⟩
def T15 (P : Params) : BT := (.node (boot_o_0 P) (.node (boot_o_1 P) (.node (o3v15 P) (.node (boot_o_7 P) (.node (o15 P) (.node (o31 P) (.node (o63 P) (.node (o127 P) .nil .nil) .nil) (.node (o95 P) .nil .nil)) (.node (o47 P) (.node (o79 P) .nil .nil) (.node (o111 P) .nil .nil))) (.node (o23 P) (.node (o39 P) (.node (o71 P) .nil .nil) (.node (o103 P) .nil .nil)) (.node (o55 P) (.node (o87 P) .nil .nil) (.node (o119 P) .nil .nil)))) (.node (o11 P) (.node (o19 P) (.node (o35 P) (.node (o67 P) (.node (o131 P) .nil .nil) .nil) (.node (o99 P) .nil .nil)) (.node (o51 P) (.node (o83 P) .nil .nil) (.node (o115 P) .nil .nil))) (.node (o27 P) (.node (o43 P) (.node (o75 P) .nil .nil) (.node (o107 P) .nil .nil)) (.node (o59 P) (.node (o91 P) .nil .nil) (.node (o123 P) .nil .nil))))) (.node (boot_o_5 P) (.node (boot_o_9 P) (.node (o17 P) (.node (o33 P) (.node (o65 P) (.node (o129 P) .nil .nil) .nil) (.node (o97 P) .nil .nil)) (.node (o49 P) (.node (o81 P) .nil .nil) (.node (o113 P) .nil .nil))) (.node (o25 P) (.node (o41 P) (.node (o73 P) .nil .nil) (.node (o105 P) .nil .nil)) (.node (o57 P) (.node (o89 P) .nil .nil) (.node (o121 P) .nil .nil)))) (.node (o13 P) (.node (o21 P) (.node (o37 P) (.node (o69 P) (.node (o133 P) .nil .nil) .nil) (.node (o101 P) .nil .nil)) (.node (o53 P) (.node (o85 P) .nil .nil) (.node (o117 P) .nil .nil))) (.node (o29 P) (.node (o45 P) (.node (o77 P) .nil .nil) (.node (o109 P) .nil .nil)) (.node (o61 P) (.node (o93 P) .nil .nil) (.node (o125 P) .nil .nil)))))) (.node (o2v8 P) (.node (boot_o_4 P) (.node (boot_o_8 P) (.node (o16 P) (.node (o32 P) (.node (o64 P) (.node (o128 P) .nil .nil) .nil) (.node (o96 P) .nil .nil)) (.node (o48 P) (.node (o80 P) .nil .nil) (.node (o112 P) .nil .nil))) (.node (o24 P) (.node (o40 P) (.node (o72 P) .nil .nil) (.node (o104 P) .nil .nil)) (.node (o56 P) (.node (o88v9 P) .nil .nil) (.node (o120 P) .nil .nil)))) (.node (o12v15 P) (.node (o20 P) (.node (o36 P) (.node (o68 P) (.node (o132 P) .nil .nil) .nil) (.node (o100 P) .nil .nil)) (.node (o52 P) (.node (o84 P) .nil .nil) (.node (o116 P) .nil .nil))) (.node (o28 P) (.node (o44 P) (.node (o76 P) .nil .nil) (.node (o108 P) .nil .nil)) (.node (o60 P) (.node (o92 P) .nil .nil) (.node (o124 P) .nil .nil))))) (.node (boot_o_6 P) (.node (boot_o_10 P) (.node (o18 P) (.node (o34 P) (.node (o66 P) (.node (o130 P) .nil .nil) .nil) (.node (o98 P) .nil .nil)) (.node (o50 P) (.node (o82 P) .nil .nil) (.node (o114 P) .nil .nil))) (.node (o26 P) (.node (o42 P) (.node (o74 P) .nil .nil) (.node (o106 P) .nil .nil)) (.node (o58 P) (.node (o90 P) .nil .nil) (.node (o122 P) .nil .nil)))) (.node (o14 P) (.node (o22 P) (.node (o38 P) (.node (o70 P) (.node (o134 P) .nil .nil) .nil) (.node (o102 P) .nil .nil)) (.node (o54 P) (.node (o86 P) .nil .nil) (.node (o118 P) .nil .nil))) (.node (o30 P) (.node (o46 P) (.node (o78 P) .nil .nil) (.node (o110 P) .nil .nil)) (.node (o62 P) (.node (o94 P) .nil .nil) (.node (o126 P) .nil .nil)))))))
-- stmt13: steps 26 rows []
abbrev s15 (w : World) (os : OsState) : SharedT := ⟨T15 w.params, 135, {}, #[], {}, 2295, os⟩
abbrev p15 : Pos := ⟨60, 0, 61, 82⟩
abbrev n15 : Nat := 27
def o3v16 (P : Params) : Obj := ⟨.type "dict", none, .dict #[⟨K P (S "__name__"), .str (S "__name__") 165, .str (S "law_pm0045_01") 2264⟩, ⟨K P (S "__doc__"), .str (S "__doc__") 166, .none⟩, ⟨K P (S "__package__"), .str (S "__package__") 167, .none⟩, ⟨K P (S "__loader__"), .str (S "__loader__") 168, .builtin "__main__.__loader__#opaque"⟩, ⟨K P (S "__spec__"), .str (S "__spec__") 169, .none⟩, ⟨K P (S "__annotations__"), .str (S "__annotations__") 170, .ref 6⟩, ⟨K P (S "__builtins__"), .str (S "__builtins__") 171, .ref 4⟩, ⟨K P (S "__file__"), .str (S "__file__") 173, .str (S "/claim/cut.py") 172⟩, ⟨K P (S "__cached__"), .str (S "__cached__") 174, .none⟩, ⟨K P (S "b1_set"), .str (S "b1_set") 248, .ref 22⟩, ⟨K P (S "in_table_b1"), .str (S "in_table_b1") 255, .ref 32⟩, ⟨K P (S "b3_exceptions"), .str (S "b3_exceptions") 2206, .ref 33⟩, ⟨K P (S "map_table_b3"), .str (S "map_table_b3") 2214, .ref 78⟩, ⟨K P (S "Error"), .str (S "Error") 2236, .ref 88⟩, ⟨K P (S "error_reply"), .str (S "error_reply") 2252, .ref 101⟩, ⟨K P (S "parse257"), .str (S "parse257") 2263, .ref 110⟩, ⟨K P (S "_law_twos"), .str (S "_law_twos") 2271, .ref 117⟩, ⟨K P (S "_law_piece"), .str (S "_law_piece") 2282, .ref 124⟩, ⟨K P (S "_law_ring"), .str (S "_law_ring") 2288, .ref 129⟩, ⟨K P (S "_law_prepared"), .str (S "_law_prepared") 2294, .ref 134⟩, ⟨K P (S "_law_places"), .str (S "_law_places") 2300, .ref 139⟩] 21, #[]⟩
def o12v16 (P : Params) : Obj := ⟨.none, none, .fields #[.int 3 0, .int 0 0, .ref 31, .int 6 0, .int 0 0, .ref 77, .int 12 0, .int 0 0, .ref 84, .int 14 0, .int 0 0, .ref 97, .int 16 0, .int 0 0, .ref 109, .int 34 0, .int 0 0, .ref 116, .int 36 0, .int 0 0, .ref 123, .int 54 0, .int 0 0, .ref 128, .int 60 0, .int 0 0, .ref 133, .int 62 0, .int 0 0, .ref 138], #[]⟩
def o135 (P : Params) : Obj := ⟨.type "tuple", none, .seq #[] 0, #[]⟩
def o136 (P : Params) : Obj := ⟨.none, none, .fields #[], #[]⟩
def o137 (P : Params) : Obj := ⟨.none, none, .func { name := (S "_law_places"), qualname := (S "_law_places"), params := (dA 14), body := (.stmts (dB 14)), scope := (dS 14), globals := 0, closure := [], defaults := .none, kwdefaults := .none, doc := .none, pyModule := .none, annotations := none, code := .none, closureTuple := .none, builtins := 0 }, #[]⟩
def o138 (P : Params) : Obj := ⟨.type "code", none, .fields #[.str (S "_law_places") 2295, .str (S "_law_places") 2296, .str (S "/claim/cut.py") 2297, .int 62 0, .int 1 0, .int 0 0, .int 0 0, .int 3 0, .ref 135, .bool true, .int 181 0, .ref 136, .none, .none, .none, .ref 137, .int 2298 0, .int 62 0, .str (S "/claim/cut.py") 2299], #[]⟩
def o139 (P : Params) : Obj := ⟨.type "function", none, .func { name := (S "_law_places"), qualname := (S "_law_places"), params := (dA 14), body := (.stmts (dB 14)), scope := (dS 14), globals := 3, closure := [], defaults := .none, kwdefaults := .none, doc := .none, pyModule := .str (S "law_pm0045_01") 2264, annotations := none, code := .ref 138, closureTuple := .none, builtins := 0 }, #[]⟩
def T16 (P : Params) : BT := (.node (boot_o_0 P) (.node (boot_o_1 P) (.node (o3v16 P) (.node (boot_o_7 P) (.node (o15 P) (.node (o31 P) (.node (o63 P) (.node (o127 P) .nil .nil) .nil) (.node (o95 P) .nil .nil)) (.node (o47 P) (.node (o79 P) .nil .nil) (.node (o111 P) .nil .nil))) (.node (o23 P) (.node (o39 P) (.node (o71 P) (.node (o135 P) .nil .nil) .nil) (.node (o103 P) .nil .nil)) (.node (o55 P) (.node (o87 P) .nil .nil) (.node (o119 P) .nil .nil)))) (.node (o11 P) (.node (o19 P) (.node (o35 P) (.node (o67 P) (.node (o131 P) .nil .nil) .nil) (.node (o99 P) .nil .nil)) (.node (o51 P) (.node (o83 P) .nil .nil) (.node (o115 P) .nil .nil))) (.node (o27 P) (.node (o43 P) (.node (o75 P) (.node (o139 P) .nil .nil) .nil) (.node (o107 P) .nil .nil)) (.node (o59 P) (.node (o91 P) .nil .nil) (.node (o123 P) .nil .nil))))) (.node (boot_o_5 P) (.node (boot_o_9 P) (.node (o17 P) (.node (o33 P) (.node (o65 P) (.node (o129 P) .nil .nil) .nil) (.node (o97 P) .nil .nil)) (.node (o49 P) (.node (o81 P) .nil .nil) (.node (o113 P) .nil .nil))) (.node (o25 P) (.node (o41 P) (.node (o73 P) (.node (o137 P) .nil .nil) .nil) (.node (o105 P) .nil .nil)) (.node (o57 P) (.node (o89 P) .nil .nil) (.node (o121 P) .nil .nil)))) (.node (o13 P) (.node (o21 P) (.node (o37 P) (.node (o69 P) (.node (o133 P) .nil .nil) .nil) (.node (o101 P) .nil .nil)) (.node (o53 P) (.node (o85 P) .nil .nil) (.node (o117 P) .nil .nil))) (.node (o29 P) (.node (o45 P) (.node (o77 P) .nil .nil) (.node (o109 P) .nil .nil)) (.node (o61 P) (.node (o93 P) .nil .nil) (.node (o125 P) .nil .nil)))))) (.node (o2v8 P) (.node (boot_o_4 P) (.node (boot_o_8 P) (.node (o16 P) (.node (o32 P) (.node (o64 P) (.node (o128 P) .nil .nil) .nil) (.node (o96 P) .nil .nil)) (.node (o48 P) (.node (o80 P) .nil .nil) (.node (o112 P) .nil .nil))) (.node (o24 P) (.node (o40 P) (.node (o72 P) (.node (o136 P) .nil .nil) .nil) (.node (o104 P) .nil .nil)) (.node (o56 P) (.node (o88v9 P) .nil .nil) (.node (o120 P) .nil .nil)))) (.node (o12v16 P) (.node (o20 P) (.node (o36 P) (.node (o68 P) (.node (o132 P) .nil .nil) .nil) (.node (o100 P) .nil .nil)) (.node (o52 P) (.node (o84 P) .nil .nil) (.node (o116 P) .nil .nil))) (.node (o28 P) (.node (o44 P) (.node (o76 P) .nil .nil) (.node (o108 P) .nil .nil)) (.node (o60 P) (.node (o92 P) .nil .nil) (.node (o124 P) .nil .nil))))) (.node (boot_o_6 P) (.node (boot_o_10 P) (.node (o18 P) (.node (o34 P) (.node (o66 P) (.node (o130 P) .nil .nil) .nil) (.node (o98 P) .nil .nil)) (.node (o50 P) (.node (o82 P) .nil .nil) (.node (o114 P) .nil .nil))) (.node (o26 P) (.node (o42 P) (.node (o74 P) (.node (o138 P) .nil .nil) .nil) (.node (o106 P) .nil .nil)) (.node (o58 P) (.node (o90 P) .nil .nil) (.node (o122 P) .nil .nil)))) (.node (o14 P) (.node (o22 P) (.node (o38 P) (.node (o70 P) (.node (o134 P) .nil .nil) .nil) (.node (o102 P) .nil .nil)) (.node (o54 P) (.node (o86 P) .nil .nil) (.node (o118 P) .nil .nil))) (.node (o30 P) (.node (o46 P) (.node (o78 P) .nil .nil) (.node (o110 P) .nil .nil)) (.node (o62 P) (.node (o94 P) .nil .nil) (.node (o126 P) .nil .nil)))))))
-- stmt14: steps 26 rows []
abbrev s16 (w : World) (os : OsState) : SharedT := ⟨T16 w.params, 140, {}, #[], {}, 2301, os⟩
abbrev p16 : Pos := ⟨62, 0, 74, 17⟩
abbrev n16 : Nat := 27
def o3v17 (P : Params) : Obj := ⟨.type "dict", none, .dict #[⟨K P (S "__name__"), .str (S "__name__") 165, .str (S "law_pm0045_01") 2264⟩, ⟨K P (S "__doc__"), .str (S "__doc__") 166, .none⟩, ⟨K P (S "__package__"), .str (S "__package__") 167, .none⟩, ⟨K P (S "__loader__"), .str (S "__loader__") 168, .builtin "__main__.__loader__#opaque"⟩, ⟨K P (S "__spec__"), .str (S "__spec__") 169, .none⟩, ⟨K P (S "__annotations__"), .str (S "__annotations__") 170, .ref 6⟩, ⟨K P (S "__builtins__"), .str (S "__builtins__") 171, .ref 4⟩, ⟨K P (S "__file__"), .str (S "__file__") 173, .str (S "/claim/cut.py") 172⟩, ⟨K P (S "__cached__"), .str (S "__cached__") 174, .none⟩, ⟨K P (S "b1_set"), .str (S "b1_set") 248, .ref 22⟩, ⟨K P (S "in_table_b1"), .str (S "in_table_b1") 255, .ref 32⟩, ⟨K P (S "b3_exceptions"), .str (S "b3_exceptions") 2206, .ref 33⟩, ⟨K P (S "map_table_b3"), .str (S "map_table_b3") 2214, .ref 78⟩, ⟨K P (S "Error"), .str (S "Error") 2236, .ref 88⟩, ⟨K P (S "error_reply"), .str (S "error_reply") 2252, .ref 101⟩, ⟨K P (S "parse257"), .str (S "parse257") 2263, .ref 110⟩, ⟨K P (S "_law_twos"), .str (S "_law_twos") 2271, .ref 117⟩, ⟨K P (S "_law_piece"), .str (S "_law_piece") 2282, .ref 124⟩, ⟨K P (S "_law_ring"), .str (S "_law_ring") 2288, .ref 129⟩, ⟨K P (S "_law_prepared"), .str (S "_law_prepared") 2294, .ref 134⟩, ⟨K P (S "_law_places"), .str (S "_law_places") 2300, .ref 139⟩, ⟨K P (S "law"), .str (S "law") 2306, .ref 144⟩] 22, #[]⟩
def o12v17 (P : Params) : Obj := ⟨.none, none, .fields #[.int 3 0, .int 0 0, .ref 31, .int 6 0, .int 0 0, .ref 77, .int 12 0, .int 0 0, .ref 84, .int 14 0, .int 0 0, .ref 97, .int 16 0, .int 0 0, .ref 109, .int 34 0, .int 0 0, .ref 116, .int 36 0, .int 0 0, .ref 123, .int 54 0, .int 0 0, .ref 128, .int 60 0, .int 0 0, .ref 133, .int 62 0, .int 0 0, .ref 138, .int 75 0, .int 0 0, .ref 143], #[]⟩
def o140 (P : Params) : Obj := ⟨.type "tuple", none, .seq #[] 0, #[]⟩
def o141 (P : Params) : Obj := ⟨.none, none, .fields #[], #[]⟩
def o142 (P : Params) : Obj := ⟨.none, none, .func { name := (S "law"), qualname := (S "law"), params := (dA 15), body := (.stmts (dB 15)), scope := (dS 15), globals := 0, closure := [], defaults := .none, kwdefaults := .none, doc := .none, pyModule := .none, annotations := none, code := .none, closureTuple := .none, builtins := 0 }, #[]⟩
def o143 (P : Params) : Obj := ⟨.type "code", none, .fields #[.str (S "law") 2301, .str (S "law") 2302, .str (S "/claim/cut.py") 2303, .int 75 0, .int 1 0, .int 0 0, .int 0 0, .int 3 0, .ref 140, .bool true, .int 181 0, .ref 141, .none, .none, .none, .ref 142, .int 2304 0, .int 75 0, .str (S "/claim/cut.py") 2305], #[]⟩
def o144 (P : Params) : Obj := ⟨.type "function", none, .func { name := (S "law"), qualname := (S "law"), params := (dA 15), body := (.stmts (dB 15)), scope := (dS 15), globals := 3, closure := [], defaults := .none, kwdefaults := .none, doc := .none, pyModule := .str (S "law_pm0045_01") 2264, annotations := none, code := .ref 143, closureTuple := .none, builtins := 0 }, #[]⟩
def T17 (P : Params) : BT := (.node (boot_o_0 P) (.node (boot_o_1 P) (.node (o3v17 P) (.node (boot_o_7 P) (.node (o15 P) (.node (o31 P) (.node (o63 P) (.node (o127 P) .nil .nil) .nil) (.node (o95 P) .nil .nil)) (.node (o47 P) (.node (o79 P) (.node (o143 P) .nil .nil) .nil) (.node (o111 P) .nil .nil))) (.node (o23 P) (.node (o39 P) (.node (o71 P) (.node (o135 P) .nil .nil) .nil) (.node (o103 P) .nil .nil)) (.node (o55 P) (.node (o87 P) .nil .nil) (.node (o119 P) .nil .nil)))) (.node (o11 P) (.node (o19 P) (.node (o35 P) (.node (o67 P) (.node (o131 P) .nil .nil) .nil) (.node (o99 P) .nil .nil)) (.node (o51 P) (.node (o83 P) .nil .nil) (.node (o115 P) .nil .nil))) (.node (o27 P) (.node (o43 P) (.node (o75 P) (.node (o139 P) .nil .nil) .nil) (.node (o107 P) .nil .nil)) (.node (o59 P) (.node (o91 P) .nil .nil) (.node (o123 P) .nil .nil))))) (.node (boot_o_5 P) (.node (boot_o_9 P) (.node (o17 P) (.node (o33 P) (.node (o65 P) (.node (o129 P) .nil .nil) .nil) (.node (o97 P) .nil .nil)) (.node (o49 P) (.node (o81 P) .nil .nil) (.node (o113 P) .nil .nil))) (.node (o25 P) (.node (o41 P) (.node (o73 P) (.node (o137 P) .nil .nil) .nil) (.node (o105 P) .nil .nil)) (.node (o57 P) (.node (o89 P) .nil .nil) (.node (o121 P) .nil .nil)))) (.node (o13 P) (.node (o21 P) (.node (o37 P) (.node (o69 P) (.node (o133 P) .nil .nil) .nil) (.node (o101 P) .nil .nil)) (.node (o53 P) (.node (o85 P) .nil .nil) (.node (o117 P) .nil .nil))) (.node (o29 P) (.node (o45 P) (.node (o77 P) (.node (o141 P) .nil .nil) .nil) (.node (o109 P) .nil .nil)) (.node (o61 P) (.node (o93 P) .nil .nil) (.node (o125 P) .nil .nil)))))) (.node (o2v8 P) (.node (boot_o_4 P) (.node (boot_o_8 P) (.node (o16 P) (.node (o32 P) (.node (o64 P) (.node (o128 P) .nil .nil) .nil) (.node (o96 P) .nil .nil)) (.node (o48 P) (.node (o80 P) (.node (o144 P) .nil .nil) .nil) (.node (o112 P) .nil .nil))) (.node (o24 P) (.node (o40 P) (.node (o72 P) (.node (o136 P) .nil .nil) .nil) (.node (o104 P) .nil .nil)) (.node (o56 P) (.node (o88v9 P) .nil .nil) (.node (o120 P) .nil .nil)))) (.node (o12v17 P) (.node (o20 P) (.node (o36 P) (.node (o68 P) (.node (o132 P) .nil .nil) .nil) (.node (o100 P) .nil .nil)) (.node (o52 P) (.node (o84 P) .nil .nil) (.node (o116 P) .nil .nil))) (.node (o28 P) (.node (o44 P) (.node (o76 P) (.node (o140 P) .nil .nil) .nil) (.node (o108 P) .nil .nil)) (.node (o60 P) (.node (o92 P) .nil .nil) (.node (o124 P) .nil .nil))))) (.node (boot_o_6 P) (.node (boot_o_10 P) (.node (o18 P) (.node (o34 P) (.node (o66 P) (.node (o130 P) .nil .nil) .nil) (.node (o98 P) .nil .nil)) (.node (o50 P) (.node (o82 P) .nil .nil) (.node (o114 P) .nil .nil))) (.node (o26 P) (.node (o42 P) (.node (o74 P) (.node (o138 P) .nil .nil) .nil) (.node (o106 P) .nil .nil)) (.node (o58 P) (.node (o90 P) .nil .nil) (.node (o122 P) .nil .nil)))) (.node (o14 P) (.node (o22 P) (.node (o38 P) (.node (o70 P) (.node (o134 P) .nil .nil) .nil) (.node (o102 P) .nil .nil)) (.node (o54 P) (.node (o86 P) .nil .nil) (.node (o118 P) .nil .nil))) (.node (o30 P) (.node (o46 P) (.node (o78 P) (.node (o142 P) .nil .nil) .nil) (.node (o110 P) .nil .nil)) (.node (o62 P) (.node (o94 P) .nil .nil) (.node (o126 P) .nil .nil)))))))
-- stmt15: steps 26 rows []
abbrev s17 (w : World) (os : OsState) : SharedT := ⟨T17 w.params, 145, {}, #[], {}, 2307, os⟩
abbrev p17 : Pos := ⟨75, 0, 78, 115⟩
abbrev n17 : Nat := 27
def env : Env := { scope := pw.main.scope, locals := mainNs, globals := mainNs, cells := [], code := .ref 13, frame := some 14 }
def bE : List Stmt := behindTheImports pw
def cE : Code := .body bE env
abbrev q0 : Pos := ⟨0, 0, 0, 0⟩
abbrev B0 : List Frame := [topFrame q0]
abbrev ann : Option Value := some (.ref 6)
end
end Fz

end

section
set_option maxRecDepth 100000
set_option maxHeartbeats 0
open PySem PySem.W PyProof.Rows PySem.Calls
namespace Fz
theorem r0 : ∀ w : World, (fun os => segRunT treeTable pw w 11 ann 1 n2 (s1 w os) (pieceOf (stm 0) env cE p1 B0)) = fun os => some (Flow.next, s2 w os, cE, p2) := fun w => by kernel_rfl
theorem r2 : ∀ w : World, (fun os => segRunT treeTable pw w 11 ann 1 n4 (s3 w os) (pieceOf (stm 2) env cE p3 B0)) = fun os => some (Flow.next, s4 w os, cE, p4) := fun w => by kernel_rfl
theorem r4 : ∀ w : World, (fun os => segRunT treeTable pw w 11 ann 1 n6 (s5 w os) (pieceOf (stm 4) env cE p5 B0)) = fun os => some (Flow.next, s6 w os, cE, p6) := fun w => by kernel_rfl
theorem r5 : ∀ w : World, (fun os => segRunT treeTable pw w 11 ann 1 n7 (s6 w os) (pieceOf (stm 5) env cE p6 B0)) = fun os => some (Flow.next, s7 w os, cE, p7) := fun w => by kernel_rfl
theorem r6 : ∀ w : World, (fun os => segRunT treeTable pw w 11 ann 1 n8 (s7 w os) (pieceOf (stm 6) env cE p7 B0)) = fun os => some (Flow.next, s8 w os, cE, p8) := fun w => by kernel_rfl
theorem r7 : ∀ w : World, (fun os => segRunT treeTable pw w 11 ann 1 n9 (s8 w os) (pieceOf (stm 7) env cE p8 B0)) = fun os => some (Flow.next, s9 w os, cE, p9) := fun w => by kernel_rfl
theorem r8 : ∀ w : World, (fun os => segRunT treeTable pw w 11 ann 1 n10 (s9 w os) (pieceOf (stm 8) env cE p9 B0)) = fun os => some (Flow.next, s10 w os, cE, p10) := fun w => by kernel_rfl
theorem r9 : ∀ w : World, (fun os => segRunT treeTable pw w 11 ann 1 n11 (s10 w os) (pieceOf (stm 9) env cE p10 B0)) = fun os => some (Flow.next, s11 w os, cE, p11) := fun w => by kernel_rfl
theorem r10 : ∀ w : World, (fun os => segRunT treeTable pw w 11 ann 1 n12 (s11 w os) (pieceOf (stm 10) env cE p11 B0)) = fun os => some (Flow.next, s12 w os, cE, p12) := fun w => by kernel_rfl
theorem r11 : ∀ w : World, (fun os => segRunT treeTable pw w 11 ann 1 n13 (s12 w os) (pieceOf (stm 11) env cE p12 B0)) = fun os => some (Flow.next, s13 w os, cE, p13) := fun w => by kernel_rfl
theorem r12 : ∀ w : World, (fun os => segRunT treeTable pw w 11 ann 1 n14 (s13 w os) (pieceOf (stm 12) env cE p13 B0)) = fun os => some (Flow.next, s14 w os, cE, p14) := fun w => by kernel_rfl
theorem r13 : ∀ w : World, (fun os => segRunT treeTable pw w 11 ann 1 n15 (s14 w os) (pieceOf (stm 13) env cE p14 B0)) = fun os => some (Flow.next, s15 w os, cE, p15) := fun w => by kernel_rfl
theorem r14 : ∀ w : World, (fun os => segRunT treeTable pw w 11 ann 1 n16 (s15 w os) (pieceOf (stm 14) env cE p15 B0)) = fun os => some (Flow.next, s16 w os, cE, p16) := fun w => by kernel_rfl
theorem r15 : ∀ w : World, (fun os => segRunT treeTable pw w 11 ann 1 n17 (s16 w os) (pieceOf (stm 15) env cE p16 B0)) = fun os => some (Flow.next, s17 w os, cE, p17) := fun w => by kernel_rfl
end Fz

end

section
set_option maxRecDepth 100000
set_option maxHeartbeats 0
open PySem PySem.W PyProof.Rows PySem.Calls
namespace Fz
abbrev teSeg := @PySem.W.Fast.te10110043849684766642
abbrev teTab := @PySem.W.Fast.te14364793385576792824
abbrev teExecs := @PySem.W.Fast.te12563942051412417395
theorem r1 : ∀ w : World, (fun os => segRunT treeTable pw w 11 ann 1 n3 (s2 w os) (piecesOf [stm 1] env cE p2 B0)) = fun os => some (Flow.next, s3 w os, cE, p3) := by
  unfold piecesOf
  rw [PySem.W.Fast.te10110043849684766642, PySem.W.Fast.te14364793385576792824, PySem.W.Fast.te12563942051412417395]
  exact byRow2 "set-order"
    (byRow2 "special-get-raises" (fun w => by kernel_rfl) (fun w => by kernel_rfl))
    (byRow2 "special-get-raises" (fun w => by kernel_rfl) (fun w => by kernel_rfl))
end Fz

end

section
set_option maxRecDepth 100000
set_option maxHeartbeats 0
open PySem PySem.W PyProof.Rows PySem.Calls
namespace Fz
/-- a call-free part of the top's own frame, run to its end -/
def Go {α : Type} (w : World) (m : Sem α) (p : Pos) (s : Shared) (a : α) (p' : Pos) (s' : Shared) (N : Nat) : Prop :=
  ∀ (K : α → Sem Fin) (H : Value → Sem Fin) (gd : Bool → Bool) (lv : List Value → List Value), ∃ n, n ≤ N ∧
    segGo treeTable pw w 11 ann 1 n s ⟨m.wrap K H gd lv, cE, p, B0⟩ = some (s', ⟨K a, cE, p', B0⟩)
section
variable {α β : Type} {w : World} {p p' p'' : Pos} {s s' s'' : Shared} {N N' : Nat}
theorem segGo_add : ∀ {n k : Nat} {s s' : Shared} {t t' : Thread} {r : Shared × Thread}, segGo treeTable pw w 11 ann 1 n s t = some (s', t') →
    segGo treeTable pw w 11 ann 1 k s' t' = some r → segGo treeTable pw w 11 ann 1 (n + k) s t = some r
  | 0, k, s, s', t, t', r, h, q => by
    obtain ⟨rfl, rfl⟩ : s = s' ∧ t = t' := by simpa [segGo] using h
    rw [Nat.zero_add]; exact q
  | n + 1, k, s, s', t, t', r, h, q => by
    rw [show n + 1 + k = n + k + 1 by omega]
    unfold segGo at h ⊢
    cases he : endAt 1 t with
    | some f => rw [he] at h; cases h
    | none =>
      rw [he] at h
      cases hk : stepOk 11 ann t with
      | false => rw [hk] at h; cases h
      | true =>
        rw [hk] at h
        cases hs : step (denote treeTable) pw w s t with
        | halt o s₂ => rw [hs] at h; cases h
        | go s₂ t₂ => rw [hs] at h; exact segGo_add h q
theorem Go.pure {a : α} : Go w (Pure.pure a : Sem α) p s a p s 0 := fun _ _ _ _ => ⟨0, Nat.le_refl _, rfl⟩
theorem Go.mono {m : Sem α} {a : α} (h : Go w m p s a p' s' N) (hN : N ≤ N') : Go w m p s a p' s' N' := fun K H gd lv =>
  let ⟨n, h1, h2⟩ := h K H gd lv; ⟨n, Nat.le_trans h1 hN, h2⟩
theorem Go.of_eq {m m' : Sem α} {a : α} (e : m' = m) (h : Go w m p s a p' s' N) : Go w m' p s a p' s' N := e ▸ h
theorem Go.bind {m : Sem α} {f : α → Sem β} {a : α} {b : β} (h : Go w m p s a p' s' N) (k : Go w (f a) p' s' b p'' s'' N') : Go w (m >>= f) p s b p'' s'' (N + N') := fun K H gd lv => by
  obtain ⟨n', h1, h2⟩ := k K H gd lv
  obtain ⟨n, h3, h4⟩ := h (fun a => (f a).wrap K H gd lv) (fun e => (Sem.raise e : Sem β).wrap K H gd lv) (fun g => gd (id g)) (fun l => lv (id l))
  refine ⟨n + n', by omega, ?_⟩
  rw [Sem.bind_eq_wrap', Sem.wrap_wrap]
  exact segGo_add h4 h2
theorem Go.keep {m : Sem α} {a : α} {vs : List Value} (h : Go w m p s a p' s' N) : Go w (m.keep vs) p s a p' s' N := fun K H gd lv => by
  rw [Sem.keep_eq_wrap, Sem.wrap_wrap]
  exact h _ _ _ _
theorem Go.holding {m : Sem α} {a : α} {vs : List Value} (h : Go w m p s a p' s' N) : Go w (PySem.holding vs m) p s a p' s' N := by
  unfold PySem.holding
  split
  · exact h
  · exact h.keep
theorem Go.tryCatch {m : Sem α} {f : Value → Sem α} {a : α} (h : Go w m p s a p' s' N) : Go w (m.tryCatch f) p s a p' s' N := fun K H gd lv => by
  rw [Sem.tryCatch_eq_wrap, Sem.wrap_wrap]
  exact h _ _ _ _
theorem Go.onRaise {m : Sem α} {f : Value → Sem Unit} {a : α} (h : Go w m p s a p' s' N) : Go w (m.onRaise f) p s a p' s' N := fun K H gd lv => by
  rw [Sem.onRaise_eq_wrap, Sem.wrap_wrap]
  exact h _ _ _ _
theorem Go.rule {tag : String} : Go w (PySem.rule tag) p s () p s 1 := fun _ _ _ _ => ⟨1, Nat.le_refl _, rfl⟩
theorem Go.standAt {q : Pos} : Go w (PySem.standAt q) p s () q s 1 := fun _ _ _ _ => ⟨1, Nat.le_refl _, rfl⟩
theorem Go.point : Go w PySem.point p s () p s 1 := fun _ _ _ _ => ⟨1, Nat.le_refl _, rfl⟩
theorem Go.fresh : Go w PySem.fresh p s s.toks p { s with toks := s.toks + 1 } 1 := fun _ _ _ _ => ⟨1, Nat.le_refl _, rfl⟩
theorem Go.mkInt {i : Int} : Go w (PySem.mkInt i) p s (.int i s.toks) p { s with toks := s.toks + 1 } 1 := fun _ _ _ _ => ⟨1, Nat.le_refl _, rfl⟩
theorem Go.mkText {x : Str} : Go w (PySem.mkText x) p s (.str x s.toks) p { s with toks := s.toks + 1 } 1 := fun _ _ _ _ => ⟨1, Nat.le_refl _, rfl⟩
theorem Go.ask : Go w PySem.ask p s ⟨pw, w.params⟩ p s 1 := fun _ _ _ _ => ⟨1, Nat.le_refl _, rfl⟩
theorem Go.alloc {o : Obj} : Go w (PySem.alloc o) p s s.heap.objs.size p { s with heap := s.heap.push o } 1 := fun _ _ _ _ => ⟨1, Nat.le_refl _, rfl⟩
theorem Go.loadPart {a : Addr} {part : Option Value} {o : Obj} (ho : s.heap.get? a = some o) : Go w (PySem.loadPart a part) p s o p s 1 := fun K H gd lv => by
  refine ⟨1, Nat.le_refl _, ?_⟩
  obtain ⟨heap, gens, drawn, toks, os⟩ := s
  change (match step (denote treeTable) pw w ⟨heap, gens, drawn, toks, os⟩ ⟨.load a part fun x => (Sem.pure x).wrap K H gd lv, cE, p, B0⟩ with | .go s' t' => some (s', t') | .halt _ _ => none) = _
  simp only [step, ho]
  rfl
theorem Go.load {a : Addr} {o : Obj} (ho : s.heap.get? a = some o) : Go w (PySem.load a) p s o p s 1 := Go.loadPart ho
theorem Go.updatePart {a : Addr} {part : Option Value} {f : Obj → Obj} {o : Obj} (ho : s.heap.get? a = some o) (ha : 11 ≤ a) : Go w (PySem.updatePart a part f) p s () p { s with heap := s.heap.update a f } 1 := fun K H gd lv => by
  refine ⟨1, Nat.le_refl _, ?_⟩
  obtain ⟨heap, gens, drawn, toks, os⟩ := s
  have hk : stepOk 11 ann ⟨.update a part f fun x => (Sem.pure x).wrap K H gd lv, cE, p, B0⟩ = true := by
    show (_ && (Nat.ble 11 a || a == mainNs || a == cStatics || ann == some (.ref a))) = true
    rw [Nat.ble_eq_true_of_le ha]
    rfl
  change (match stepOk 11 ann ⟨.update a part f fun x => (Sem.pure x).wrap K H gd lv, cE, p, B0⟩ with
    | false => none
    | true => match step (denote treeTable) pw w ⟨heap, gens, drawn, toks, os⟩ ⟨.update a part f fun x => (Sem.pure x).wrap K H gd lv, cE, p, B0⟩ with | .go s' t' => some (s', t') | .halt _ _ => none) = _
  rw [hk]
  have hs : (heap.get? a).isSome = true := by rw [show heap.get? a = some o from ho]; rfl
  simp only [step, hs, if_true]
  rfl
end
end Fz

end

section
set_option maxRecDepth 100000
set_option maxHeartbeats 0
open PySem PySem.W PyProof.Rows PySem.Calls
namespace Fz
section
variable {w : World} {p : Pos} {s : Shared}
theorem call_hash {k : Int} {t : Tok} : Go w (PySem.call (.builtin "int.__hash__") [.int k t]) p s (.int (rawHash k) s.toks) p { s with toks := s.toks + 1 } 8 := fun K H gd lv => by
  obtain ⟨heap, gens, drawn, toks, os⟩ := s
  first
  | exact ⟨4, by decide, by kernel_rfl⟩
  | exact ⟨5, by decide, by kernel_rfl⟩
  | exact ⟨6, by decide, by kernel_rfl⟩
  | exact ⟨7, by decide, by kernel_rfl⟩
  | exact ⟨8, by decide, by kernel_rfl⟩
theorem bound_go {T id : String} {self : Value} {name : Str} (hs : Slot T name id) (ht : typeOf self = pure (.type T)) :
    Go w (bindSpecialIfBound? self name) p s (some (.builtin id, [self])) p s 2 := by
  have e1 : specialOf self name = pure (some (.builtin id)) := by
    unfold specialOf
    rw [ht, pure_bind, hs.lookup]
  have e2 : Go w (do return some (← bindSpecial (.builtin id) self) : Sem (Option (Value × List Value))) p s (some (.builtin id, [self])) p s 0 := by
    rw [hs.bind]
    exact Go.mono (Go.bind Go.pure Go.pure) (by decide)
  refine Go.mono (N := 0 + (1 + 0)) ?_ (by decide)
  unfold bindSpecialIfBound?
  rw [e1]
  refine Go.bind Go.pure ?_
  refine Go.bind Go.ask ?_
  dsimp only
  cases w.params.followText "special-get-raises" with
  | true => exact e2
  | false => exact Go.tryCatch e2
theorem pyHash_go {k : Int} {t : Tok} : Go w (pyHash (.int k t)) p s (hashInt k) p { s with toks := s.toks + 1 } 20 := by
  have hr := rawHash_range k
  have e1 : specialOf (.int k t) "__hash__" = pure (some (.builtin "int.__hash__")) := by
    show (pure (.type "int") >>= fun x => typeLookup x "__hash__") = _
    rw [pure_bind, slot_int_hash.lookup]
  have e3 : Go w (callSpecialIfBoundUnlessNone? (.int k t) "__hash__" (do PySem.rule "hash.unhashable"; raiseError "TypeError" s!"unhashable type: '{← typeNameOf (.int k t)}'")) p s (some (.int (rawHash k) s.toks)) p { s with toks := s.toks + 1 } 12 := by
    refine Go.mono (N := 2 + (8 + 0)) ?_ (by decide)
    unfold callSpecialIfBoundUnlessNone?
    refine Go.holding (Go.bind (bound_go slot_int_hash rfl) ?_)
    show Go w (if ((Value.builtin "int.__hash__") == .none) = true then _ else _) p s _ p _ _
    rw [if_neg (by decide)]
    exact Go.bind call_hash Go.pure
  refine Go.mono (N := 0 + (0 + (0 + (12 + 0)))) ?_ (by decide)
  unfold pyHash pyHashByItsType
  refine Go.bind (a := ()) (Go.of_eq rfl Go.pure) ?_
  rw [e1]
  refine Go.bind Go.pure ?_
  rw [if_neg (by rw [beq_builtin_none]; exact Bool.false_ne_true)]
  refine Go.bind Go.pure ?_
  refine Go.bind e3 ?_
  show Go w (if (decide (-(2 : Int) ^ 63 ≤ rawHash k) && decide (rawHash k < 2 ^ 63)) = true then _ else _) p _ _ p _ _
  rw [if_pos (by rw [decide_eq_true hr.1, decide_eq_true hr.2]; rfl)]
  exact Go.pure
/-- no entry of that hash: nothing is found -/
theorem find_go {d : Addr} {o : Obj} {es : Array DictEntry} {ep : Nat} {k : Int} {t : Tok} {h : Int} (ho : s.heap.get? d = some o) (hd : o.data = .dict es ep) (hn : ∀ e ∈ es.toList, e.hash ≠ h) :
    Go w (dictFind d (.int k t) h) p s none p s 1 := by
  have hp : placesWithHash es.size (fun i => es[i]?.map (·.hash)) h = [] := by
    unfold placesWithHash
    rw [List.filter_eq_nil_iff]
    intro i hi
    rw [List.mem_range] at hi
    dsimp only
    rw [Array.getElem?_eq_getElem hi]
    simp only [Option.map_some, beq_iff_eq, Option.some.injEq]
    exact hn _ (Array.mem_toList_iff.mpr (Array.getElem_mem hi))
  refine Go.mono (N := 1 + 0) ?_ (by decide)
  unfold dictFind
  refine Go.holding ?_
  refine Go.bind (a := es) (s' := s) (p' := p) ?_ ?_
  · unfold dictEntries
    refine Go.mono (Go.bind (Go.loadPart ho) ?_) (Nat.le_of_eq (Nat.add_zero 1))
    rw [hd]
    exact Go.pure
  · dsimp only
    rw [hp]
    exact Go.pure
/-- a new key goes behind the others -/
theorem push_go {d : Addr} {o : Obj} {es : Array DictEntry} {ep : Nat} {e : DictEntry} {part : Option Value} (ho : s.heap.get? d = some o) (hd : o.data = .dict es ep) (h11 : 11 ≤ d) (hz : es.size ≤ 1000) :
    Go w (updateDictKeys d (·.push e) part) p s () p { s with heap := s.heap.update d (Obj.mapDictKeys (·.push e)) } 3 := by
  have ho' : (s.heap.update d (Obj.mapDictKeys (·.push e))).get? d = some (o.mapDictKeys (·.push e)) := Heap.get?_update_self _ ho (Obj.isFreed_of_dict (Obj.data_mapDictKeys hd _))
  refine Go.mono (N := 1 + (1 + (1 + 0))) ?_ (by decide)
  unfold updateDictKeys
  refine Go.bind (Go.loadPart ho) ?_
  rw [hd]
  dsimp only
  refine Go.bind (Go.updatePart ho h11) ?_
  unfold lookBehind
  refine Go.bind (Go.loadPart (s := { s with heap := s.heap.update d (Obj.mapDictKeys (·.push e)) }) ho') ?_
  rw [Obj.data_mapDictKeys hd]
  unfold Data.pastItsLine
  dsimp only
  rw [if_neg (by rw [Array.size_push, sizeLine_eq]; omega)]
  exact Go.pure
end
end Fz

end

section
set_option maxRecDepth 100000
set_option maxHeartbeats 0
open PySem PySem.W PyProof.Rows PySem.Calls
namespace Fz
/-- objects laid behind a heap -/
def lay (H : Heap) (ls : List Obj) : Heap := ⟨H.objs ++ ls.toArray, H.life⟩
theorem lay_size (H : Heap) (ls : List Obj) : (lay H ls).objs.size = H.objs.size + ls.length := by simp [lay]
theorem lay_push (H : Heap) (ls : List Obj) (o : Obj) : (lay H ls).push o = lay H (ls ++ [o]) := by
  show (⟨(H.objs ++ ls.toArray).push o, H.life⟩ : Heap) = ⟨H.objs ++ (ls ++ [o]).toArray, H.life⟩
  refine congrArg (Heap.mk · H.life) (Array.ext' ?_)
  rw [Array.toList_push, Array.toList_append, Array.toList_append, List.append_assoc]
theorem lay_get {H : Heap} {ls : List Obj} {j : Nat} {o : Obj} (h : ls[j]? = some o) (hf : o.isFreed = false) : (lay H ls).get? (H.objs.size + j) = some o := by
  have e : (lay H ls).objs[H.objs.size + j]? = some o := by
    unfold lay
    rw [Array.getElem?_append_right (by omega)]
    simpa using h
  unfold Heap.get?
  rw [e]
  obtain ⟨c, d, dt, sl⟩ := o
  cases dt <;> first | rfl | (simp [Obj.isFreed] at hf)
theorem lay_upd (H : Heap) (ls : List Obj) (j : Nat) (f : Obj → Obj) : (lay H ls).update (H.objs.size + j) f = lay H (ls.modify j f) := by
  show (⟨(H.objs ++ ls.toArray).modify (H.objs.size + j) f, H.life⟩ : Heap) = ⟨H.objs ++ (ls.modify j f).toArray, H.life⟩
  refine congrArg (Heap.mk · H.life) (Array.ext_getElem? fun i => ?_)
  rw [Array.getElem?_modify]
  by_cases hi : i < H.objs.size
  · rw [Array.getElem?_append_left hi, Array.getElem?_append_left hi]
    have : ¬ (H.objs.size + j = i) := by omega
    simp [this]
  · rw [Array.getElem?_append_right (by omega), Array.getElem?_append_right (by omega)]
    simp only [List.getElem?_toArray, List.getElem?_modify]
    by_cases e : H.objs.size + j = i
    · subst e
      simp
    · have : ¬ (j = i - H.objs.size) := by omega
      simp [e, this]
/-- a dict as a display lays it -/
def dobj (es : List DictEntry) : Obj := ⟨.type "dict", none, .dict es.toArray es.length, #[]⟩
theorem dobj_push (es : List DictEntry) (e : DictEntry) : (dobj es).mapDictKeys (·.push e) = dobj (es ++ [e]) := by
  simp [dobj, Obj.mapDictKeys]
theorem dobj_new : ({ cls := .type "dict", data := .dict #[] } : Obj) = dobj [] := rfl
theorem dobj_live (es : List DictEntry) : (dobj es).isFreed = false := rfl
theorem set_at {ls : List Obj} {j : Nat} {es : List DictEntry} {e : DictEntry} (h : ls[j]? = some (dobj es)) : ls.modify j (Obj.mapDictKeys (·.push e)) = ls.set j (dobj (es ++ [e])) := by
  apply List.ext_getElem?
  intro i
  rw [List.getElem?_modify, List.getElem?_set]
  by_cases hij : j = i
  · subst hij
    have hl : j < ls.length := by
      rcases Nat.lt_or_ge j ls.length with q | q
      · exact q
      · rw [List.getElem?_eq_none q] at h; cases h
    have h' : ls[j] = dobj es := by rw [List.getElem?_eq_getElem hl] at h; exact Option.some.inj h
    simp [hl, h', dobj_push]
  · simp [hij]
section
variable {w : World} {p : Pos} {H : Heap} {ls : List Obj} {g : Array GenState} {d : Drawn} {tk : Nat} {os : OsState}
abbrev st (H : Heap) (ls : List Obj) (g : Array GenState) (d : Drawn) (tk : Nat) (os : OsState) : Shared := ⟨lay H ls, g, d, tk, os⟩
theorem dset_go {j : Nat} {es : List DictEntry} {k : Int} {t : Tok} {v : Value} (hH : 11 ≤ H.objs.size) (hj : ls[j]? = some (dobj es)) (hn : ∀ e ∈ es, e.hash ≠ hashInt k) (hz : es.length ≤ 1000) :
    Go w (dictSet (H.objs.size + j) (.int k t) v) p (st H ls g d tk os) () p (st H (ls.set j (dobj (es ++ [⟨hashInt k, .int k t, v⟩]))) g d (tk + 1) os) 30 := by
  refine Go.mono (N := 20 + (1 + (1 + 3))) ?_ (by decide)
  unfold dictSet
  refine Go.holding (Go.bind pyHash_go ?_)
  unfold dictSetHashed
  refine Go.holding (Go.bind (find_go (es := es.toArray) (ep := es.length) (lay_get hj rfl) rfl (by simpa using hn)) ?_)
  dsimp only
  refine Go.bind Go.rule ?_
  have h := push_go (w := w) (p := p) (d := H.objs.size + j) (s := st H ls g d (tk + 1) os) (e := ⟨hashInt k, .int k t, v⟩) (part := keyPart (.int k t)) (lay_get (H := H) hj rfl) (es := es.toArray) (ep := es.length) rfl (Nat.le_trans hH (Nat.le_add_right _ _)) (by simpa using hz)
  have e : (st H ls g d (tk + 1) os).heap.update (H.objs.size + j) (Obj.mapDictKeys (·.push ⟨hashInt k, .int k t, v⟩)) = lay H (ls.set j (dobj (es ++ [⟨hashInt k, .int k t, v⟩]))) := by
    rw [← set_at hj]; exact lay_upd H ls j _
  rw [e] at h
  exact h
end
end Fz

end

section
set_option maxRecDepth 100000
set_option maxHeartbeats 0
open PySem PySem.W PyProof.Rows PySem.Calls
namespace Fz
/-- a key and a value of a written display: an int, a text -/
def PairOk (P : Pos) (a : Sem Value × Sem Value) (q : Int × Str) : Prop :=
  ∃ p', (∀ (w : World) (s : Shared), Go w a.1 P s (.int q.1 s.toks) p' { s with toks := s.toks + 1 } 2) ∧ (∀ (w : World) (s : Shared), Go w a.2 p' s (.str q.2 s.toks) P { s with toks := s.toks + 1 } 3)
inductive PairsOk (P : Pos) : List (Sem Value × Sem Value) → List (Int × Str) → Prop
  | nil : PairsOk P [] []
  | cons {a : Sem Value × Sem Value} {as : List (Sem Value × Sem Value)} {q : Int × Str} {qs : List (Int × Str)} : PairOk P a q → PairsOk P as qs → PairsOk P (a :: as) (q :: qs)
theorem PairsOk.len {P : Pos} : ∀ {as : List (Sem Value × Sem Value)} {qs : List (Int × Str)}, PairsOk P as qs → as.length = qs.length
  | _, _, .nil => rfl
  | _, _, .cons _ h => by rw [List.length_cons, List.length_cons, h.len]
theorem PairsOk.take {P : Pos} : ∀ (n : Nat) {as : List (Sem Value × Sem Value)} {qs : List (Int × Str)}, PairsOk P as qs → PairsOk P (as.take n) (qs.take n)
  | 0, _, _, _ => by rw [List.take_zero, List.take_zero]; exact .nil
  | n + 1, _, _, .nil => by rw [List.take_nil, List.take_nil]; exact .nil
  | n + 1, _, _, .cons a h => by rw [List.take_succ_cons, List.take_succ_cons]; exact .cons a (h.take n)
theorem PairsOk.drop {P : Pos} : ∀ (n : Nat) {as : List (Sem Value × Sem Value)} {qs : List (Int × Str)}, PairsOk P as qs → PairsOk P (as.drop n) (qs.drop n)
  | 0, _, _, h => by rw [List.drop_zero, List.drop_zero]; exact h
  | n + 1, _, _, .nil => by rw [List.drop_nil, List.drop_nil]; exact .nil
  | n + 1, _, _, .cons a h => by rw [List.drop_succ_cons, List.drop_succ_cons]; exact h.drop n
/-- the entries of a run of more than fifteen (each token of a key, a value, a hash) -/
def entA : Nat → List (Int × Str) → List DictEntry
  | _, [] => []
  | t, (i, x) :: r => ⟨hashInt i, .int i t, .str x (t + 1)⟩ :: entA (t + 3) r
/-- the entries of a run of fifteen or fewer -/
def entB : Nat → List (Int × Str) → List DictEntry
  | _, [] => []
  | t, (i, x) :: r => ⟨hashInt i, .int i t, .str x (t + 1)⟩ :: entB (t + 2) r
theorem entA_len : ∀ (t : Nat) (ps : List (Int × Str)), (entA t ps).length = ps.length
  | _, [] => rfl
  | t, (i, x) :: r => by rw [entA, List.length_cons, List.length_cons, entA_len]
theorem entB_len : ∀ (t : Nat) (ps : List (Int × Str)), (entB t ps).length = ps.length
  | _, [] => rfl
  | t, (i, x) :: r => by rw [entB, List.length_cons, List.length_cons, entB_len]
theorem entA_hash : ∀ (t : Nat) (ps : List (Int × Str)), (entA t ps).map (·.hash) = ps.map (fun q => hashInt q.1)
  | _, [] => rfl
  | t, (i, x) :: r => by rw [entA, List.map_cons, List.map_cons, entA_hash]
theorem entB_hash : ∀ (t : Nat) (ps : List (Int × Str)), (entB t ps).map (·.hash) = ps.map (fun q => hashInt q.1)
  | _, [] => rfl
  | t, (i, x) :: r => by rw [entB, List.map_cons, List.map_cons, entB_hash]
theorem at_end {α : Type} (ls : List α) (x : α) : (ls ++ [x])[ls.length]? = some x := by simp
theorem set_end {α : Type} (ls : List α) (x y : α) : (ls ++ [x]).set ls.length y = ls ++ [y] := by simp
section
variable {w : World} {P : Pos} {H : Heap} {ls : List Obj} {g : Array GenState} {d : Drawn} {os : OsState}
theorem long_go (hH : 11 ≤ H.objs.size) : ∀ (as : List (Sem Value × Sem Value)) (ps : List (Int × Str)) (es : List DictEntry) (tk : Nat), PairsOk P as ps → es.length + ps.length ≤ 1000 →
    (es.map (·.hash) ++ ps.map (fun q => hashInt q.1)).Nodup →
    Go w (forIn as PUnit.unit fun (x : Sem Value × Sem Value) (_ : PUnit) => (do
        let kv ← x.1
        let vv ← holding [kv] x.2
        holding [kv, vv] (dictSet (H.objs.size + ls.length) kv vv)
        Pure.pure (ForInStep.yield PUnit.unit) : Sem (ForInStep PUnit))) P (st H (ls ++ [dobj es]) g d tk os) PUnit.unit P
      (st H (ls ++ [dobj (es ++ entA tk ps)]) g d (tk + 3 * ps.length) os) (35 * ps.length)
  | _, _, es, tk, .nil, _, _ => by
    rw [List.forIn_nil, entA, List.append_nil]
    exact Go.pure
  | _, _, es, tk, .cons (q := (i, x)) (qs := qs) ⟨p', h1, h2⟩ h, hz, hn => by
    rw [List.forIn_cons]
    rw [List.length_cons] at hz
    have ih := long_go hH _ _ (es ++ [⟨hashInt i, .int i tk, .str x (tk + 1)⟩]) (tk + 3) h (by rw [List.length_append, List.length_singleton]; omega)
      (by rw [List.map_append, List.append_assoc]; exact hn)
    refine Go.mono (N := (2 + (3 + (30 + 0))) + 35 * qs.length) (Go.bind (a := ForInStep.yield PUnit.unit) (p' := P) (s' := st H (ls ++ [dobj (es ++ [⟨hashInt i, .int i tk, .str x (tk + 1)⟩])]) g d (tk + 3) os) ?_ ?_) (by rw [List.length_cons]; omega)
    · refine Go.bind (h1 w _) (Go.bind (Go.holding (h2 w _)) (Go.bind (a := ()) (p' := P) (s' := st H (ls ++ [dobj (es ++ [⟨hashInt i, .int i tk, .str x (tk + 1)⟩])]) g d (tk + 3) os) ?_ Go.pure))
      have := dset_go (w := w) (p := P) (H := H) (ls := ls ++ [dobj es]) (g := g) (d := d) (tk := tk + 1 + 1) (os := os) (j := ls.length) (es := es) (k := i) (t := tk) (v := .str x (tk + 1)) hH (at_end ls _) (fun e he hh => by
        rw [List.nodup_append] at hn
        exact hn.2.2 e.hash (List.mem_map.mpr ⟨e, he, rfl⟩) (hashInt i) (by simp) hh) (by omega)
      rw [set_end] at this
      exact Go.holding this
    · dsimp only
      have e : entA tk ((i, x) :: qs) = ⟨hashInt i, .int i tk, .str x (tk + 1)⟩ :: entA (tk + 3) qs := rfl
      rw [List.append_assoc] at ih
      rw [e, show tk + 3 * ((i, x) :: qs).length = tk + 3 + 3 * qs.length by rw [List.length_cons]; omega]
      exact ih
theorem sub_go {as : List (Sem Value × Sem Value)} {ps : List (Int × Str)} {tk : Nat} (hH : 11 ≤ H.objs.size) (h : PairsOk P as ps) (hl : 15 < ps.length) (hz : ps.length ≤ 1000) (hn : (ps.map (fun q => hashInt q.1)).Nodup) :
    Go w (subDict as) P (st H ls g d tk os) (H.objs.size + ls.length) P (st H (ls ++ [dobj (entA tk ps)]) g d (tk + 3 * ps.length) os) (2 + 35 * ps.length) := by
  refine Go.mono (N := 1 + ((1 + (35 * ps.length + 0)) + 0)) ?_ (by omega)
  unfold subDict
  have ha : Go w (PySem.alloc { cls := .type "dict", data := .dict #[] }) P (st H ls g d tk os) (H.objs.size + ls.length) P (st H (ls ++ [dobj []]) g d tk os) 1 := by
    have := Go.alloc (w := w) (p := P) (s := st H ls g d tk os) (o := dobj [])
    rw [show (st H ls g d tk os).heap.objs.size = H.objs.size + ls.length from lay_size H ls, show (st H ls g d tk os).heap.push (dobj []) = lay H (ls ++ [dobj []]) from lay_push H ls _] at this
    exact this
  refine Go.bind ha (Go.bind (a := PUnit.unit) (Go.holding ?_) Go.pure)
  rw [if_neg (by rw [h.len]; omega)]
  refine Go.bind Go.rule ?_
  have := long_go (w := w) (ls := ls) (g := g) (d := d) (os := os) hH as ps [] tk h (by simpa using hz) (by simpa using hn)
  rw [List.nil_append] at this
  exact Go.bind this Go.pure

theorem even_go (hH : 11 ≤ H.objs.size) {j : Nat} : ∀ (vs : List (Value × Value)) (qs : List (Int × Value)) (es : List DictEntry) (tk : Nat) (ls : List Obj),
    (∃ ts : List Tok, vs = (qs.zip ts).map (fun x => (Value.int x.1.1 x.2, x.1.2)) ∧ ts.length = qs.length) → ls[j]? = some (dobj es) → es.length + qs.length ≤ 1000 →
    (es.map (·.hash) ++ qs.map (fun q => hashInt q.1)).Nodup →
    Go w (forIn vs PUnit.unit fun (x : Value × Value) (_ : PUnit) => (do
        dictSet (H.objs.size + j) x.1 x.2
        Pure.pure (ForInStep.yield PUnit.unit) : Sem (ForInStep PUnit))) P (st H ls g d tk os) PUnit.unit P
      (st H (ls.set j (dobj (es ++ (vs.zip qs).map fun x => ⟨hashInt x.2.1, x.1.1, x.1.2⟩))) g d (tk + qs.length) os) (30 * qs.length)
  | _, [], es, tk, ls, ⟨ts, hv, ht⟩, hj, _, _ => by
    subst hv
    have : ls.set j (dobj es) = ls := by
      apply List.ext_getElem?
      intro i
      rw [List.getElem?_set]
      by_cases h : j = i
      · subst h
        split
        · split
          · exact hj.symm
          · rename_i q; rw [List.getElem?_eq_none (by omega)]
        · rfl
      · simp [h]
    simp only [List.zip_nil_left, List.map_nil, List.forIn_nil, List.append_nil, List.length_nil, Nat.mul_zero, Nat.add_zero, this]
    exact Go.pure
  | _, (i, v) :: qs, es, tk, ls, ⟨ts, hv, ht⟩, hj, hz, hn => by
    obtain ⟨t, ts, rfl⟩ : ∃ t ts', ts = t :: ts' := by
      cases ts with
      | nil => simp at ht
      | cons t ts' => exact ⟨t, ts', rfl⟩
    subst hv
    rw [List.length_cons] at hz
    have hl : j < ls.length := by
      rcases Nat.lt_or_ge j ls.length with q | q
      · exact q
      · rw [List.getElem?_eq_none q] at hj; cases hj
    rw [List.zip_cons_cons, List.map_cons, List.forIn_cons]
    have ih := even_go hH (j := j) ((qs.zip ts).map (fun x => (Value.int x.1.1 x.2, x.1.2))) qs (es ++ [⟨hashInt i, .int i t, v⟩]) (tk + 1) (ls.set j (dobj (es ++ [⟨hashInt i, .int i t, v⟩]))) ⟨ts, rfl, by simpa using ht⟩ (by simp [hl]) (by rw [List.length_append, List.length_singleton]; omega)
      (by rw [List.map_append, List.append_assoc]; exact hn)
    refine Go.mono (N := (30 + 0) + 30 * qs.length) (Go.bind (a := ForInStep.yield PUnit.unit) (p' := P) (s' := st H (ls.set j (dobj (es ++ [⟨hashInt i, .int i t, v⟩]))) g d (tk + 1) os) (Go.bind (dset_go hH hj (fun e he hh => by
        rw [List.nodup_append] at hn
        exact hn.2.2 e.hash (List.mem_map.mpr ⟨e, he, rfl⟩) (hashInt i) (by simp) hh) (by omega)) Go.pure) ?_) (by rw [List.length_cons]; omega)
    dsimp only
    rw [List.set_set, List.append_assoc] at ih
    rw [show tk + ((i, v) :: qs).length = tk + 1 + qs.length by rw [List.length_cons]; omega]
    simp only [List.zip_cons_cons, List.map_cons]
    exact ih
theorem evalPairs_go : ∀ (as : List (Sem Value × Sem Value)) (ps : List (Int × Str)) (tk : Nat) (ls : List Obj), PairsOk P as ps →
    Go w (evalPairs as) P (st H ls g d tk os) ((entB tk ps).map fun e => (e.key, e.val)) P (st H ls g d (tk + 2 * ps.length) os) (5 * ps.length)
  | _, _, tk, ls, .nil => by
    unfold evalPairs
    exact Go.pure
  | _, _, tk, ls, .cons (a := (ka, va)) (q := (i, x)) (qs := qs) ⟨p', h1, h2⟩ h => by
    have ih := evalPairs_go _ _ (tk + 2) ls h
    unfold evalPairs
    refine Go.mono (N := 2 + (3 + (5 * qs.length + 0))) ?_ (by rw [List.length_cons]; omega)
    refine Go.bind (h1 w _) (Go.bind (Go.holding (h2 w _)) (Go.bind (Go.holding (p' := P) (s' := st H ls g d (tk + 2 * ((i, x) :: qs).length) os) (a := (entB (tk + 2) qs).map fun e => (e.key, e.val)) ?_) Go.pure))
    rw [show tk + 2 * ((i, x) :: qs).length = tk + 2 + 2 * qs.length by rw [List.length_cons]; omega]
    exact ih
theorem subs_go {as : List (Sem Value × Sem Value)} {ps : List (Int × Str)} {tk : Nat} (hH : 11 ≤ H.objs.size) (h : PairsOk P as ps) (hl : ps.length ≤ 15) (hn : (ps.map (fun q => hashInt q.1)).Nodup) :
    Go w (subDict as) P (st H ls g d tk os) (H.objs.size + ls.length) P (st H (ls ++ [dobj (entB tk ps)]) g d (tk + 3 * ps.length) os) (2 + 35 * ps.length) := by
  refine Go.mono (N := 1 + ((5 * ps.length + (30 * ps.length + 0)) + 0)) ?_ (by omega)
  unfold subDict
  have ha : Go w (PySem.alloc { cls := .type "dict", data := .dict #[] }) P (st H ls g d tk os) (H.objs.size + ls.length) P (st H (ls ++ [dobj []]) g d tk os) 1 := by
    have := Go.alloc (w := w) (p := P) (s := st H ls g d tk os) (o := dobj [])
    rw [show (st H ls g d tk os).heap.objs.size = H.objs.size + ls.length from lay_size H ls, show (st H ls g d tk os).heap.push (dobj []) = lay H (ls ++ [dobj []]) from lay_push H ls _] at this
    exact this
  refine Go.bind ha (Go.bind (a := PUnit.unit) (Go.holding ?_) Go.pure)
  rw [if_pos (by rw [h.len]; omega)]
  refine Go.bind (evalPairs_go as ps tk _ h) (Go.holding ?_)
  have hB : ∀ (tk : Nat) (ps : List (Int × Str)), ∃ ts : List Tok, (entB tk ps).map (fun e => (e.key, e.val)) = (((entB tk ps).map fun e => (match e.key with | .int i _ => i | _ => 0, e.val)).zip ts).map (fun x => (Value.int x.1.1 x.2, x.1.2)) ∧ ts.length = ((entB tk ps).map fun e => (match e.key with | .int i _ => i | _ => (0 : Int), e.val)).length := by
    intro tk ps
    induction ps generalizing tk with
    | nil => exact ⟨[], rfl, rfl⟩
    | cons q qs ih =>
      obtain ⟨i, x⟩ := q
      obtain ⟨ts, e1, e2⟩ := ih (tk + 2)
      refine ⟨tk :: ts, ?_, by rw [entB, List.length_cons, e2]; simp⟩
      rw [entB, List.map_cons, List.map_cons, List.zip_cons_cons, List.map_cons, e1]
  have hH' : ∀ (tk : Nat) (ps : List (Int × Str)), ((entB tk ps).map fun e => (match e.key with | .int i _ => i | _ => (0 : Int), e.val)).map (fun q => hashInt q.1) = ps.map (fun q => hashInt q.1) := by
    intro tk ps
    induction ps generalizing tk with
    | nil => rfl
    | cons q qs ih => obtain ⟨i, x⟩ := q; rw [entB, List.map_cons, List.map_cons, ih, List.map_cons]
  have hZ : ∀ (tk : Nat) (ps : List (Int × Str)), ((((entB tk ps).map fun e => (e.key, e.val)).zip ((entB tk ps).map fun e => (match e.key with | .int i _ => i | _ => (0 : Int), e.val))).map fun x => (⟨hashInt x.2.1, x.1.1, x.1.2⟩ : DictEntry)) = entB tk ps := by
    intro tk ps
    induction ps generalizing tk with
    | nil => rfl
    | cons q qs ih => obtain ⟨i, x⟩ := q; simp only [entB, List.map_cons, List.zip_cons_cons, ih]
  have hL : ((entB tk ps).map fun e => (match e.key with | .int i _ => i | _ => (0 : Int), e.val)).length = ps.length := by rw [List.length_map, entB_len]
  have := even_go (w := w) (P := P) (g := g) (d := d) (os := os) hH (j := ls.length) _ _ [] (tk + 2 * ps.length) (ls ++ [dobj []]) (hB tk ps) (at_end ls _) (by rw [hL]; simp; omega) (by rw [hH']; simpa using hn)
  rw [set_end, List.nil_append, hZ, hL, show tk + 2 * ps.length + ps.length = tk + 3 * ps.length by omega] at this
  exact Go.bind this Go.pure
end
end Fz

end

section
set_option maxRecDepth 100000
set_option maxHeartbeats 0
open PySem PySem.W PyProof.Rows PySem.Calls
namespace Fz
section
variable {w : World} {P : Pos} {H : Heap} {g : Array GenState} {d : Drawn} {os : OsState}
theorem typeOf_go {s : Shared} {a : Addr} {o : Obj} (ho : s.heap.get? a = some o) : Go w (typeOf (.ref a)) P s o.cls P s 1 :=
  Go.mono (Go.bind (Go.loadPart ho) Go.pure) (Nat.le_of_eq (Nat.add_zero 1))
theorem dictEntries_go {s : Shared} {a : Addr} {o : Obj} {es : Array DictEntry} {ep : Nat} {part : Option Value} (ho : s.heap.get? a = some o) (hd : o.data = .dict es ep) : Go w (dictEntries a part) P s es P s 1 := by
  unfold dictEntries
  refine Go.mono (Go.bind (Go.loadPart ho) ?_) (Nat.le_of_eq (Nat.add_zero 1))
  rw [hd]
  exact Go.pure
theorem dictEpoch_go {s : Shared} {a : Addr} {o : Obj} {es : Array DictEntry} {ep : Nat} {part : Option Value} (ho : s.heap.get? a = some o) (hd : o.data = .dict es ep) : Go w (dictEpoch a part) P s ep P s 1 := by
  unfold dictEpoch
  refine Go.mono (Go.bind (Go.loadPart ho) ?_) (Nat.le_of_eq (Nat.add_zero 1))
  rw [hd]
  exact Go.pure
def IntEnt (e : DictEntry) : Prop := ∃ i t, e.key = .int i t
/-- the items of the later dict, one by one, behind those of the first -/
theorem copy_go (hH : 11 ≤ H.objs.size) {j : Nat} {sub : List DictEntry} (hj : j ≠ 0) (body : Nat → PUnit → Sem (ForInStep PUnit))
    (hb : ∀ i u, ∃ bad bad' : Sem (ForInStep PUnit), body i u = (do
      let es ← dictEntries (H.objs.size + j)
      match es[i]? with
      | some e => do
        holding [e.key, e.val] (dictPut H.objs.size e.hash e.key e.val)
        let ep ← dictEpoch (H.objs.size + j)
        if (ep != sub.length) = true then bad
        else Pure.pure (ForInStep.yield PUnit.unit)
      | _ => bad' : Sem (ForInStep PUnit))) :
    ∀ (n i : Nat) (main : List DictEntry) (ls : List Obj) (tk : Nat), i + n = sub.length → ls[0]? = some (dobj (main ++ sub.take i)) → ls[j]? = some (dobj sub) → main.length + sub.length ≤ 1000 → (∀ e ∈ sub, IntEnt e) →
    (main.map (·.hash) ++ sub.map (·.hash)).Nodup →
    Go w (forIn (List.range' i n) PUnit.unit body) P (st H ls g d tk os) PUnit.unit P (st H (ls.set 0 (dobj (main ++ sub))) g d tk os) (10 * n)
  | 0, i, main, ls, tk, hi, h0, _, _, _, _ => by
    rw [show i = sub.length by omega, List.take_length] at h0
    have : ls.set 0 (dobj (main ++ sub)) = ls := by
      apply List.ext_getElem?
      intro i
      rw [List.getElem?_set]
      by_cases h : 0 = i
      · subst h
        split
        · split
          · exact h0.symm
          · rename_i q; rw [List.getElem?_eq_none (by omega)]
        · rfl
      · simp [h]
    rw [this, List.range'_zero, List.forIn_nil]
    exact Go.pure
  | n + 1, i, main, ls, tk, hi, h0, h1, hz, hk, hn => by
    have hlt : i < sub.length := by omega
    have hl : 0 < ls.length := by
      cases ls with
      | nil => cases h0
      | cons => simp
    obtain ⟨k, t, hkey⟩ := hk sub[i] (List.getElem_mem hlt)
    have hnone : ∀ e ∈ main ++ sub.take i, e.hash ≠ (sub[i]).hash := by
      intro e he hh
      rw [List.nodup_append] at hn
      rcases List.mem_append.mp he with q | q
      · exact hn.2.2 e.hash (List.mem_map.mpr ⟨e, q, rfl⟩) (sub[i]).hash (List.mem_map.mpr ⟨_, List.getElem_mem hlt, rfl⟩) hh
      · obtain ⟨m, hm, rfl⟩ := List.mem_take_iff_getElem.mp q
        have := List.pairwise_iff_getElem.mp hn.2.1 m i (by simp; omega) (by simpa using hlt) (by omega)
        simp only [List.getElem_map] at this
        exact this hh
    have g0 := lay_get (H := H) h0 (dobj_live _)
    have g1 := lay_get (H := H) h1 (dobj_live _)
    rw [Nat.add_zero] at g0
    let ls' := ls.set 0 (dobj (main ++ sub.take (i + 1)))
    have e1 : sub.take (i + 1) = sub.take i ++ [sub[i]] := by simp
    have hput : Go w (dictPut H.objs.size (sub[i]).hash (sub[i]).key (sub[i]).val) P (st H ls g d tk os) () P (st H ls' g d tk os) (1 + 3) := by
      unfold dictPut
      rw [hkey]
      refine Go.bind (find_go (es := (main ++ sub.take i).toArray) (ep := (main ++ sub.take i).length) g0 rfl (by simpa using hnone)) ?_
      have h := push_go (w := w) (p := P) (d := H.objs.size) (s := st H ls g d tk os) (e := ⟨(sub[i]).hash, .int k t, (sub[i]).val⟩) (part := none) g0 (es := (main ++ sub.take i).toArray) (ep := (main ++ sub.take i).length) rfl hH (by simp; omega)
      have e : (st H ls g d tk os).heap.update H.objs.size (Obj.mapDictKeys (·.push ⟨(sub[i]).hash, .int k t, (sub[i]).val⟩)) = lay H ls' := by
        have q := lay_upd H ls 0 (Obj.mapDictKeys (·.push ⟨(sub[i]).hash, .int k t, (sub[i]).val⟩))
        rw [Nat.add_zero, set_at h0, List.append_assoc] at q
        rw [q]
        show lay H (ls.set 0 (dobj (main ++ (sub.take i ++ [⟨(sub[i]).hash, .int k t, (sub[i]).val⟩])))) = lay H (ls.set 0 (dobj (main ++ sub.take (i + 1))))
        rw [e1, ← hkey]
      rw [e] at h
      exact h
    have h0' : ls'[0]? = some (dobj (main ++ sub.take (i + 1))) := by simp [ls', hl]
    have h1' : ls'[j]? = some (dobj sub) := by
      show (ls.set 0 _)[j]? = _
      rw [List.getElem?_set]
      simp [Ne.symm hj, h1]
    have g1' := lay_get (H := H) h1' (dobj_live _)
    have ih := copy_go hH hj body hb n (i + 1) main ls' tk (by omega) h0' h1' hz hk hn
    rw [show ls'.set 0 (dobj (main ++ sub)) = ls.set 0 (dobj (main ++ sub)) by simp [ls']] at ih
    rw [List.range'_succ, List.forIn_cons]
    refine Go.mono (N := (1 + ((1 + 3) + (1 + 0))) + 10 * n) (Go.bind (a := ForInStep.yield PUnit.unit) (p' := P) (s' := st H ls' g d tk os) ?_ ih) (by omega)
    obtain ⟨bad, bad', hb'⟩ := hb i PUnit.unit
    rw [hb']
    refine Go.bind (dictEntries_go (es := sub.toArray) (ep := sub.length) g1 rfl) ?_
    rw [show sub.toArray[i]? = some sub[i] by simp [hlt]]
    dsimp only
    refine Go.bind (Go.holding hput) (Go.bind (dictEpoch_go (es := sub.toArray) (ep := sub.length) g1' rfl) ?_)
    rw [if_neg (by simp)]
    exact Go.pure
theorem sub_dict_dict : isSubtype (.type "dict") (.type "dict") = pure true := by
  unfold isSubtype
  kernel_rfl
theorem isInst_go {s : Shared} {a : Addr} {o : Obj} (ho : s.heap.get? a = some o) (hc : o.cls = .type "dict") : Go w (isInstance (.ref a) (.type "dict")) P s true P s 1 := by
  unfold isInstance
  refine Go.mono (Go.bind (typeOf_go ho) ?_) (Nat.le_of_eq (Nat.add_zero 1))
  rw [hc, sub_dict_dict]
  exact Go.pure
theorem special_go {s : Shared} {a : Addr} {o : Obj} (ho : s.heap.get? a = some o) (hc : o.cls = .type "dict") : Go w (specialOf (.ref a) "__iter__") P s (some (.builtin "dict.__iter__")) P s 1 := by
  unfold specialOf
  refine Go.mono (Go.bind (typeOf_go ho) ?_) (Nat.le_of_eq (Nat.add_zero 1))
  rw [hc, F.slot_dict_iter.lookup]
  exact Go.pure
theorem merge_go (hH : 11 ≤ H.objs.size) {j : Nat} {main sub : List DictEntry} {ls : List Obj} {tk : Nat} (hj : j ≠ 0) (hm : main ≠ []) (h0 : ls[0]? = some (dobj main)) (h1 : ls[j]? = some (dobj sub)) (hz : main.length + sub.length ≤ 1000) (hk : ∀ e ∈ sub, IntEnt e)
    (hn : (main.map (·.hash) ++ sub.map (·.hash)).Nodup) :
    Go w (mergeMapping H.objs.size (.ref (H.objs.size + j)) false) P (st H ls g d tk os) () P (st H (ls.set 0 (dobj (main ++ sub))) g d tk os) (10 + 10 * sub.length) := by
  have g0 := lay_get (H := H) h0 (dobj_live _)
  have g1 := lay_get (H := H) h1 (dobj_live _)
  rw [Nat.add_zero] at g0
  refine Go.mono (N := 1 + (1 + (0 + (1 + (1 + (1 + (10 * sub.length + 0))))))) ?_ (by omega)
  unfold mergeMapping
  refine Go.bind (isInst_go g1 rfl) ?_
  rw [if_pos rfl]
  refine Go.bind (special_go g1 rfl) ?_
  rw [show (some (Value.builtin "dict.__iter__") == some (Value.builtin "dict.__iter__")) = true from beq_self_eq_true _]
  dsimp only
  have hs : (H.objs.size + j == sysModules) = false := by
    have : sysModules < 11 := by decide
    exact beq_eq_false_iff_ne.mpr (Nat.ne_of_gt (Nat.lt_of_lt_of_le this (Nat.le_trans hH (Nat.le_add_right _ _))))
  refine Go.bind Go.pure ?_
  dsimp only
  rw [hs]
  simp only [Bool.false_eq_true, if_false]
  refine Go.bind (dictEntries_go (es := main.toArray) (ep := main.length) g0 rfl) ?_
  rw [if_neg (by simpa using hm)]
  refine Go.bind (dictEntries_go (es := sub.toArray) (ep := sub.length) g1 rfl) ?_
  refine Go.bind (dictEpoch_go (es := sub.toArray) (ep := sub.length) g1 rfl) ?_
  rw [List.size_toArray, List.range_eq_range']
  refine Go.bind (copy_go hH hj _ (fun i u => ⟨_, _, rfl⟩) sub.length 0 main ls tk (by omega) (by simpa using h0) h1 hz hk hn) Go.pure
end
end Fz

end

section
set_option maxRecDepth 100000
set_option maxHeartbeats 0
open PySem PySem.W PyProof.Rows PySem.Calls
namespace Fz
abbrev SP := Sem Value × Sem Value
abbrev itemOf (p : SP) : Option (Sem Value) × Sem Value := (some p.1, p.2)
section
variable {f : Option (Sem Value) × Sem Value → Option Addr × List SP → Sem (ForInStep (Option Addr × List SP))} {flush : List SP → Option Addr → Sem (Option Addr)}
theorem forIn_chunk (hA : ∀ p main (run : List SP), run.length + 1 ≠ 17 → f (itemOf p) (main, run) = pure (.yield (main, run ++ [p])))
    (hB : ∀ p main (run : List SP), run.length + 1 = 17 → f (itemOf p) (main, run) = (flush (run ++ [p]) main >>= fun m => pure (.yield (m, [])))) :
    ∀ (todo run : List SP) (main : Option Addr) (rest : List (Option (Sem Value) × Sem Value)), run.length + todo.length = 17 → todo ≠ [] →
      forIn (todo.map itemOf ++ rest) (main, run) f = (flush (run ++ todo) main >>= fun m => forIn rest (m, []) f)
  | [], _, _, _, _, h => absurd rfl h
  | p :: todo, run, main, rest, hl, _ => by
    rw [List.length_cons] at hl
    rw [List.map_cons, List.cons_append, List.forIn_cons]
    cases todo with
    | nil =>
      rw [hB p main run (by simpa using hl), bind_assoc]
      simp only [pure_bind]
      rfl
    | cons q todo =>
      rw [hA p main run (by simp at hl; omega), pure_bind]
      dsimp only
      rw [forIn_chunk hA hB (q :: todo) (run ++ [p]) main rest (by simp at hl ⊢; omega) (by simp)]
      simp
theorem forIn_tail (hA : ∀ p main (run : List SP), run.length + 1 ≠ 17 → f (itemOf p) (main, run) = pure (.yield (main, run ++ [p]))) :
    ∀ (todo run : List SP) (main : Option Addr), run.length + todo.length < 17 → forIn (todo.map itemOf) (main, run) f = pure (main, run ++ todo)
  | [], run, main, _ => by simp
  | p :: todo, run, main, hl => by
    rw [List.length_cons] at hl
    rw [List.map_cons, List.forIn_cons, hA p main run (by omega), pure_bind]
    dsimp only
    rw [forIn_tail hA todo (run ++ [p]) main (by simp; omega)]
    simp
end
theorem entA_int (t : Nat) (ps : List (Int × Str)) : ∀ e ∈ entA t ps, IntEnt e := by
  induction ps generalizing t with
  | nil => intro e he; cases he
  | cons q qs ih =>
    intro e he
    obtain ⟨i, x⟩ := q
    rw [entA] at he
    rcases List.mem_cons.mp he with rfl | he
    · exact ⟨i, t, rfl⟩
    · exact ih _ e he
theorem entB_int (t : Nat) (ps : List (Int × Str)) : ∀ e ∈ entB t ps, IntEnt e := by
  induction ps generalizing t with
  | nil => intro e he; cases he
  | cons q qs ih =>
    intro e he
    obtain ⟨i, x⟩ := q
    rw [entB] at he
    rcases List.mem_cons.mp he with rfl | he
    · exact ⟨i, t, rfl⟩
    · exact ih _ e he
def whole : Nat → Nat → List (Int × Str) → List DictEntry
  | 0, _, _ => []
  | n + 1, t, ps => entA t (ps.take 17) ++ whole n (t + 51) (ps.drop 17)
def subs : Nat → Nat → List (Int × Str) → List Obj
  | 0, _, _ => []
  | n + 1, t, ps => dobj (entA t (ps.take 17)) :: subs n (t + 51) (ps.drop 17)
abbrev hs (ps : List (Int × Str)) : List Int := ps.map (fun q => hashInt q.1)
theorem set0_app {ls ks : List Obj} {x : Obj} (h : 0 < ls.length) : (ls ++ ks).set 0 x = ls.set 0 x ++ ks := by
  cases ls with
  | nil => simp at h
  | cons a l => rfl
def flushOf (run : List SP) (main : Option Addr) : Sem (Option Addr) := do
  if run.isEmpty then return main
  match main with
  | none => return some (← subDict run)
  | some d =>
    let sub ← holding [.ref d] (subDict run)
    (holding [.ref d, .ref sub] (mergeMapping d (.ref sub) false)).onRaise fun x => do let _ ← holding [.ref d, x] (runValue (.builtin "proto.let_go" {}))
    return some d
section
variable {w : World} {P : Pos} {H : Heap} {g : Array GenState} {d : Drawn} {os : OsState}
theorem flush1_go {as : List SP} {ps : List (Int × Str)} {tk : Nat} (hH : 11 ≤ H.objs.size) (h : PairsOk P as ps) (hl : 15 < ps.length) (hz : ps.length ≤ 1000) (hn : (hs ps).Nodup) :
    Go w (flushOf as none) P (st H [] g d tk os) (some H.objs.size) P (st H [dobj (entA tk ps)] g d (tk + 3 * ps.length) os) (2 + 35 * ps.length) := by
  unfold flushOf
  rw [if_neg (by have := h.len; cases as with | nil => simp at this; omega | cons => simp)]
  have := sub_go (w := w) (ls := []) (g := g) (d := d) (os := os) (tk := tk) hH h hl hz hn
  exact Go.mono (Go.bind this Go.pure) (Nat.le_of_eq (Nat.add_zero _))
theorem flush_go {as : List SP} {ls : List Obj} {main sub : List DictEntry} {tk tk' N : Nat} (hH : 11 ≤ H.objs.size) (has : as ≠ [])
    (hs : Go w (subDict as) P (st H ls g d tk os) (H.objs.size + ls.length) P (st H (ls ++ [dobj sub]) g d tk' os) N)
    (hm : main ≠ []) (h0 : ls[0]? = some (dobj main)) (hz : main.length + sub.length ≤ 1000) (hk : ∀ e ∈ sub, IntEnt e) (hn : (main.map (·.hash) ++ sub.map (·.hash)).Nodup) :
    Go w (flushOf as (some H.objs.size)) P (st H ls g d tk os) (some H.objs.size) P (st H (ls.set 0 (dobj (main ++ sub)) ++ [dobj sub]) g d tk' os) (N + (10 + 10 * sub.length)) := by
  have hl : 0 < ls.length := by
    cases ls with
    | nil => cases h0
    | cons => simp
  unfold flushOf
  rw [if_neg (by cases as with | nil => exact absurd rfl has | cons => simp)]
  dsimp only
  have hm := merge_go (w := w) (P := P) (g := g) (d := d) (os := os) (tk := tk') hH (j := ls.length) (main := main) (sub := sub) (ls := ls ++ [dobj sub]) (by omega) hm (by rw [List.getElem?_append_left hl]; exact h0) (at_end ls _) hz hk hn
  rw [set0_app hl] at hm
  exact Go.mono (Go.bind (Go.holding hs) (Go.bind (Go.onRaise (Go.holding hm)) Go.pure)) (by omega)
theorem chunks_go (hH : 11 ≤ H.objs.size) {f : Option (Sem Value) × Sem Value → Option Addr × List SP → Sem (ForInStep (Option Addr × List SP))}
    (hA : ∀ p main (run : List SP), run.length + 1 ≠ 17 → f (itemOf p) (main, run) = pure (.yield (main, run ++ [p])))
    (hB : ∀ p main (run : List SP), run.length + 1 = 17 → f (itemOf p) (main, run) = (flushOf (run ++ [p]) main >>= fun m => pure (.yield (m, [])))) :
    ∀ (n : Nat) (as : List SP) (ps : List (Int × Str)) (main : List DictEntry) (ls : List Obj) (tk : Nat), PairsOk P as ps → 17 * n ≤ ps.length → ps.length < 17 * n + 17 → main ≠ [] → ls[0]? = some (dobj main) → main.length + ps.length ≤ 1000 →
      (main.map (·.hash) ++ hs ps).Nodup →
      Go w (forIn (as.map itemOf) (some H.objs.size, []) f) P (st H ls g d tk os) (some H.objs.size, as.drop (17 * n)) P
        (st H (ls.set 0 (dobj (main ++ whole n tk ps)) ++ subs n tk ps) g d (tk + 51 * n) os) (800 * n)
  | 0, as, ps, main, ls, tk, h, h1, h2, hm, h0, hz, hn => by
    have e : ls.set 0 (dobj (main ++ whole 0 tk ps)) ++ subs 0 tk ps = ls := by
      cases ls with
      | nil => cases h0
      | cons a l =>
        simp only [whole, subs, List.append_nil, List.set_cons_zero]
        simp at h0
        rw [h0]
    rw [e, forIn_tail hA as [] _ (by rw [List.length_nil, h.len]; omega)]
    exact Go.pure
  | n + 1, as, ps, main, ls, tk, h, h1, h2, hm, h0, hz, hn => by
    have hl : 0 < ls.length := by
      cases ls with
      | nil => cases h0
      | cons => simp
    have hlen : (ps.take 17).length = 17 := by rw [List.length_take]; omega
    have halen : (as.take 17).length = 17 := by rw [List.length_take, h.len]; omega
    have e1 : as.map itemOf = (as.take 17).map itemOf ++ (as.drop 17).map itemOf := by rw [← List.map_append, List.take_append_drop]
    have ehs : hs ps = hs (ps.take 17) ++ hs (ps.drop 17) := by rw [← List.map_append, List.take_append_drop]
    rw [ehs, ← List.append_assoc] at hn
    have hn1 := (List.nodup_append.mp hn).1
    have hn0 := (List.nodup_append.mp hn1).2.1
    have hsub := sub_go (w := w) (ls := ls) (g := g) (d := d) (os := os) (tk := tk) hH (h.take 17) (by omega) (by omega) hn0
    have hf := flush_go (w := w) (main := main) (sub := entA tk (ps.take 17)) hH (by intro q; rw [q] at halen; simp at halen) hsub hm h0 (by rw [entA_len, hlen]; omega) (entA_int _ _) (by rw [entA_hash]; exact hn1)
    rw [entA_len, hlen] at hf
    have ih := chunks_go hH hA hB n (as.drop 17) (ps.drop 17) (main ++ entA tk (ps.take 17)) (ls.set 0 (dobj (main ++ entA tk (ps.take 17))) ++ [dobj (entA tk (ps.take 17))]) (tk + 51) (h.drop 17)
      (by rw [List.length_drop]; omega) (by rw [List.length_drop]; omega) (by simp [hm]) (by rw [List.getElem?_append_left (by simpa using hl)]; simp [hl])
      (by rw [List.length_append, entA_len, hlen, List.length_drop]; omega) (by rw [List.map_append, entA_hash]; exact hn)
    rw [e1, forIn_chunk hA hB (as.take 17) [] _ _ (by simpa using halen) (by intro q; rw [q] at halen; simp at halen), List.nil_append]
    refine Go.mono (Go.bind hf ?_) (show (2 + 35 * 17 + (10 + 10 * 17)) + 800 * n ≤ 800 * (n + 1) by omega)
    rw [List.drop_drop, show 17 + 17 * n = 17 * (n + 1) by omega, show tk + 51 + 51 * n = tk + 51 * (n + 1) by omega, set0_app (by simpa using hl), List.set_set, List.append_assoc, List.append_assoc] at ih
    exact ih
theorem display_go (hH : 11 ≤ H.objs.size) {n : Nat} {as : List SP} {ps : List (Int × Str)} {tk : Nat} (h : PairsOk P as ps) (h1 : 17 * (n + 1) < ps.length) (h2 : ps.length ≤ 17 * (n + 1) + 15) (hz : ps.length ≤ 1000) (hn : (hs ps).Nodup) :
    Go w (dictDisplay (as.map itemOf)) P (st H [] g d tk os) (.ref H.objs.size) P
      (st H (dobj (entA tk (ps.take 17) ++ whole n (tk + 51) (ps.drop 17) ++ entB (tk + 51 * (n + 1)) (ps.drop (17 * (n + 1)))) :: (subs n (tk + 51) (ps.drop 17) ++ [dobj (entB (tk + 51 * (n + 1)) (ps.drop (17 * (n + 1))))])) g d (tk + 51 * (n + 1) + 3 * (ps.length - 17 * (n + 1))) os) (800 * (n + 3)) := by
  have hlen : (ps.take 17).length = 17 := by rw [List.length_take]; omega
  have halen : (as.take 17).length = 17 := by rw [List.length_take, h.len]; omega
  have e1 : as.map itemOf = (as.take 17).map itemOf ++ (as.drop 17).map itemOf := by rw [← List.map_append, List.take_append_drop]
  have ehs : hs ps = hs (ps.take 17) ++ hs (ps.drop 17) := by rw [← List.map_append, List.take_append_drop]
  have ehs2 : hs (ps.drop 17) = hs ((ps.drop 17).take (17 * n)) ++ hs (ps.drop (17 * (n + 1))) := by
    have := (List.take_append_drop (17 * n) (ps.drop 17)).symm
    rw [List.drop_drop, show 17 + 17 * n = 17 * (n + 1) by omega] at this
    calc hs (ps.drop 17) = hs ((ps.drop 17).take (17 * n) ++ ps.drop (17 * (n + 1))) := by rw [← this]
      _ = _ := List.map_append ..
  have hn' := hn
  rw [ehs] at hn'
  have hw : ∀ (n t : Nat) (ps : List (Int × Str)), 17 * n ≤ ps.length → (whole n t ps).map (·.hash) = hs (ps.take (17 * n)) ∧ (whole n t ps).length = 17 * n := by
    intro n
    induction n with
    | zero => intro t ps _; simp [whole, hs]
    | succ n ih =>
      intro t ps hp
      obtain ⟨a, b⟩ := ih (t + 51) (ps.drop 17) (by rw [List.length_drop]; omega)
      constructor
      · rw [whole, List.map_append, entA_hash, a, ← List.map_append]
        congr 1
        rw [show 17 * (n + 1) = 17 + 17 * n by omega, List.take_add]
      · rw [whole, List.length_append, entA_len, b, List.length_take]; omega
  obtain ⟨w1, w2⟩ := hw n (tk + 51) (ps.drop 17) (by rw [List.length_drop]; omega)
  have hrlen : (ps.drop (17 * (n + 1))).length = ps.length - 17 * (n + 1) := List.length_drop ..
  have hr := h.drop (17 * (n + 1))
  unfold dictDisplay
  dsimp only
  have hf1 := flush1_go (w := w) (g := g) (d := d) (os := os) (tk := tk) hH (h.take 17) (by omega) (by omega) (List.nodup_append.mp hn').1
  rw [hlen] at hf1
  have hc := fun f hA hB => chunks_go (w := w) (P := P) (g := g) (d := d) (os := os) hH (f := f) hA hB n (as.drop 17) (ps.drop 17) (entA tk (ps.take 17)) [dobj (entA tk (ps.take 17))] (tk + 51) (h.drop 17) (by rw [List.length_drop]; omega) (by rw [List.length_drop]; omega)
    (by intro q; have := entA_len tk (ps.take 17); rw [q, hlen] at this; simp at this) rfl (by rw [entA_len, hlen, List.length_drop]; omega) (by rw [entA_hash]; exact hn')
  rw [List.drop_drop, show 17 + 17 * n = 17 * (n + 1) by omega, show tk + 51 + 51 * n = tk + 51 * (n + 1) by omega] at hc
  have hsub := subs_go (w := w) (ls := [dobj (entA tk (ps.take 17) ++ whole n (tk + 51) (ps.drop 17))] ++ subs n (tk + 51) (ps.drop 17)) (g := g) (d := d) (os := os) (tk := tk + 51 * (n + 1)) hH hr (by omega) (by
    rw [ehs2, ← List.append_assoc] at hn'
    exact (List.nodup_append.mp hn').2.1)
  have hf2 := flush_go (w := w) (main := entA tk (ps.take 17) ++ whole n (tk + 51) (ps.drop 17)) (sub := entB (tk + 51 * (n + 1)) (ps.drop (17 * (n + 1)))) hH (by intro q; have := hr.len; rw [q, hrlen] at this; simp at this; omega) hsub
    (by intro q; have := congrArg List.length q; rw [List.length_append, entA_len, hlen] at this; simp at this) rfl (by rw [List.length_append, entA_len, hlen, w2, entB_len, hrlen]; omega) (entB_int _ _) (by
      rw [List.map_append, entA_hash, w1, entB_hash]
      rw [ehs2, ← List.append_assoc] at hn'
      exact hn')
  rw [hrlen] at hf2
  rw [e1, forIn_chunk (flush := flushOf) ?hA ?hB (as.take 17) [] _ _ (by simpa using halen) (by intro q; rw [q] at halen; simp at halen), List.nil_append, bind_assoc]
  case hA =>
    intro p main run hr
    have : (run.length + 1 == 17) = false := by simpa using hr
    simp [itemOf, this]
  case hB =>
    intro p main run hr
    have : (run.length + 1 == 17) = true := by simpa using hr
    simp only [itemOf, List.length_append, List.length_cons, List.length_nil, Nat.zero_add, this, if_true]
    rfl
  refine Go.mono (Go.bind hf1 (Go.bind (hc _ ?_ ?_) (Go.bind hf2 Go.pure))) ?_
  · intro p main run hr
    have : (run.length + 1 == 17) = false := by simpa using hr
    simp [itemOf, this]
  · intro p main run hr
    have : (run.length + 1 == 17) = true := by simpa using hr
    simp only [itemOf, List.length_append, List.length_cons, List.length_nil, Nat.zero_add, this, if_true]
    rfl
  · simp only [entB_len, hrlen]; omega
end
end Fz

end

section
set_option maxRecDepth 100000
set_option maxHeartbeats 0
open PySem PySem.W PyProof.Rows PySem.Calls
namespace Fz
noncomputable section
def Tx (P : Params) : BT := (.node (boot_o_0 P) (.node (boot_o_1 P) (.node (o3v4 P) (.node (boot_o_7 P) (.node (o15 P) (.node (o31 P) (.node (o63 P) .nil .nil) .nil) (.node (o47 P) .nil .nil)) (.node (o23 P) (.node (o39 P) (.node (o71 P) .nil .nil) .nil) (.node (o55 P) .nil .nil))) (.node (o11 P) (.node (o19 P) (.node (o35 P) (.node (o67 P) .nil .nil) .nil) (.node (o51 P) .nil .nil)) (.node (o27 P) (.node (o43 P) .nil .nil) (.node (o59 P) .nil .nil)))) (.node (boot_o_5 P) (.node (boot_o_9 P) (.node (o17 P) (.node (o33 P) (.node (o65 P) .nil .nil) .nil) (.node (o49 P) .nil .nil)) (.node (o25 P) (.node (o41 P) .nil .nil) (.node (o57 P) .nil .nil))) (.node (o13 P) (.node (o21 P) (.node (o37 P) (.node (o69 P) .nil .nil) .nil) (.node (o53 P) .nil .nil)) (.node (o29 P) (.node (o45 P) .nil .nil) (.node (o61 P) .nil .nil))))) (.node (boot_o_2 P) (.node (boot_o_4 P) (.node (boot_o_8 P) (.node (o16 P) (.node (o32 P) (.node (o64 P) .nil .nil) .nil) (.node (o48 P) .nil .nil)) (.node (o24 P) (.node (o40 P) .nil .nil) (.node (o56 P) .nil .nil))) (.node (o12v4 P) (.node (o20 P) (.node (o36 P) (.node (o68 P) .nil .nil) .nil) (.node (o52 P) .nil .nil)) (.node (o28 P) (.node (o44 P) .nil .nil) (.node (o60 P) .nil .nil)))) (.node (boot_o_6 P) (.node (boot_o_10 P) (.node (o18 P) (.node (o34 P) (.node (o66 P) .nil .nil) .nil) (.node (o50 P) .nil .nil)) (.node (o26 P) (.node (o42 P) .nil .nil) (.node (o58 P) .nil .nil))) (.node (o14 P) (.node (o22 P) (.node (o38 P) (.node (o70 P) .nil .nil) .nil) (.node (o54 P) .nil .nil)) (.node (o30 P) (.node (o46 P) .nil .nil) (.node (o62 P) .nil .nil))))))
abbrev sx (w : World) (os : OsState) : SharedT := ⟨Tx w.params, 72, {}, #[], {}, 2206, os⟩
def chkAll : List (Option Expr) → List Expr → Bool
  | [], [] => true
  | k :: ks, v :: vs => (pairOf k v).isSome && chkAll ks vs
  | _, _ => false
theorem zip_ok (env : Env) (P : Pos) : ∀ (ks : List (Option Expr)) (vs : List Expr), chkAll ks vs = true →
    ∃ as : List SP, (evalEachOpt ks env).zip ((evalEach vs env).map fun v => do let x ← v; standAt P; pure x) = as.map itemOf ∧ PairsOk P as (pairsOf ks vs)
  | [], [], _ => ⟨[], rfl, .nil⟩
  | [], _ :: _, h => by cases h
  | _ :: _, [], h => by cases h
  | k :: ks, v :: vs, h => by
    unfold chkAll at h
    obtain ⟨h1, h2⟩ := Bool.and_eq_true_iff.mp h
    obtain ⟨as, e, ok⟩ := zip_ok env P ks vs h2
    have hp : ∃ i x a b c d, k = some (.Constant (.int i) a b) ∧ v = .Constant (.str x) c d ∧ pairOf k v = some (i, x) := by
      unfold pairOf at h1
      split at h1
      · exact ⟨_, _, _, _, _, _, rfl, rfl, rfl⟩
      · cases h1
    obtain ⟨i, x, a, b, c, d, rfl, rfl, hq⟩ := hp
    refine ⟨(eval (.Constant (.int i) a b) env, do let y ← eval (.Constant (.str x) c d) env; standAt P; pure y) :: as, ?_, ?_⟩
    · show (evalOpt (some (.Constant (.int i) a b)) env, _) :: _ = _
      rw [List.map_cons, ← e]
      rfl
    · rw [pairsOf, hq]
      refine .cons ⟨P, fun w s => ?_, fun w s => ?_⟩ ok
      · exact Go.mono (Go.mkInt (w := w) (p := P) (s := s) (i := i)) (by decide)
      · exact Go.mono (Go.bind (Go.mkText (w := w) (p := P) (s := s) (x := x)) (Go.bind Go.standAt Go.pure)) (by decide)
theorem segRun_mono {w : World} (k : Nat) : ∀ (n : Nat) (s : Shared) (t : Thread) (r : Flow × Shared × Code × Pos), segRun treeTable pw w 11 ann 1 n s t = some r → segRun treeTable pw w 11 ann 1 (n + k) s t = some r
  | 0, _, _, _, h => by cases h
  | n + 1, s, t, r, h => by
    rw [show n + 1 + k = n + k + 1 by omega]
    unfold segRun at h ⊢
    cases he : endAt 1 t with
    | some f => rw [he] at h; exact h
    | none =>
      rw [he] at h
      cases hk : stepOk 11 ann t with
      | false => rw [hk] at h; cases h
      | true =>
        rw [hk] at h
        cases hs : step (denote treeTable) pw w s t with
        | halt o s₂ => rw [hs] at h; cases h
        | go s₂ t₂ => rw [hs] at h; exact segRun_mono k n s₂ t₂ r h
def dks : List (Option Expr) := match stm 3 with | .Assign _ (.Dict ks _ _) _ => ks | _ => []
def dvs : List Expr := match stm 3 with | .Assign _ (.Dict _ vs _) _ => vs | _ => []
def dpos : Pos := match stm 3 with | .Assign _ (.Dict _ _ p) _ => p | _ => q0
def apos : Pos := match stm 3 with | .Assign _ _ p => p | _ => q0
def atgt : List Expr := match stm 3 with | .Assign t _ _ => t | _ => []
theorem stm3_is : stm 3 = .Assign atgt (.Dict dks dvs dpos) apos := by kernel_rfl
theorem chk3 : chkAll dks dvs = true := by kernel_rfl
theorem tbl_is : pairsOf dks dvs = tbl := by kernel_rfl
theorem tbl_len : tbl.length = 650 := by kernel_rfl
def up : List Int → Bool
  | a :: b :: r => decide (a < b) && up (b :: r)
  | _ => true
theorem up_head : ∀ {l : List Int} {a : Int}, up (a :: l) = true → ∀ b ∈ l, a < b
  | b :: r, a, h, c, hc => by
    unfold up at h
    obtain ⟨h1, h2⟩ := Bool.and_eq_true_iff.mp h
    rcases List.mem_cons.mp hc with rfl | hc
    · exact of_decide_eq_true h1
    · exact Int.lt_trans (of_decide_eq_true h1) (up_head h2 c hc)
theorem up_tail {l : List Int} {a : Int} (h : up (a :: l) = true) : up l = true := by
  cases l with
  | nil => rfl
  | cons b r => unfold up at h; exact (Bool.and_eq_true_iff.mp h).2
theorem nodup_up : ∀ {l : List Int}, up l = true → l.Nodup
  | [], _ => .nil
  | a :: l, h => List.nodup_cons.mpr ⟨fun hm => Int.lt_irrefl _ (up_head h a hm), nodup_up (up_tail h)⟩
theorem tbl_up : up (hs tbl) = true := by kernel_rfl
def contK (v : Value) : Sem Flow := do assignStores env v (← swappedStores atgt (.Dict dks dvs dpos) env) ((assignEach atgt env).map (·.2))
theorem exec3 : exec (stm 3) env = ((do standAt apos; eval (.Dict dks dvs dpos) env) >>= contK) := by
  rw [stm3_is, arm_exec_Assign]
  rw [show swapsWithSole atgt (.Dict dks dvs dpos) apos.line env = pure false by kernel_rfl]
  simp only [pure_bind, bind_assoc]
  rfl
end
end Fz

end

section
set_option maxRecDepth 100000
set_option maxHeartbeats 0
open PySem PySem.W PyProof.Rows PySem.Calls
namespace Fz
noncomputable section
def dls : List Obj := dobj (entA 256 (tbl.take 17) ++ whole 37 (256 + 51) (tbl.drop 17) ++ entB (256 + 51 * (37 + 1)) (tbl.drop (17 * (37 + 1)))) :: (subs 37 (256 + 51) (tbl.drop 17) ++ [dobj (entB (256 + 51 * (37 + 1)) (tbl.drop (17 * (37 + 1))))])
theorem lay_is (w : World) : lay (absHeap (T4 w.params) 33 {}) dls = absHeap (Tx w.params) 72 {} := by
  have h : (absHeap (T4 w.params) 33 {}).objs.toList ++ dls = (absHeap (Tx w.params) 72 {}).objs.toList := by kernel_rfl
  show (⟨(absHeap (T4 w.params) 33 {}).objs ++ dls.toArray, {}⟩ : Heap) = _
  have e : (absHeap (T4 w.params) 33 {}).objs ++ dls.toArray = (absHeap (Tx w.params) 72 {}).objs := Array.ext' (by rw [Array.toList_append]; exact h)
  rw [e]
  rfl
theorem lay_nil (H : Heap) : lay H [] = H := by
  show (⟨H.objs ++ #[], H.life⟩ : Heap) = H
  rw [Array.append_empty]
theorem tail3 (w : World) (os : OsState) : segRunT treeTable pw w 11 ann 1 40 (sx w os) ⟨(contK (.ref 33)).wrap doneF deadEnd id id, cE, dpos, B0⟩ = some (Flow.next, s5 w os, cE, p5) := by kernel_rfl
theorem r3 (w : World) (os : OsState) : segRun treeTable pw w 11 ann 1 40000 (s4 w os).abs (pieceOf (stm 3) env cE p4 B0) = some (Flow.next, (s5 w os).abs, cE, p5) := by
  obtain ⟨as, e1, ok⟩ := zip_ok env dpos dks dvs chk3
  rw [tbl_is] at ok
  have hH : (absHeap (T4 w.params) 33 {}).objs.size = 33 := absHeap_size _ _ _
  have h := display_go (w := w) (P := dpos) (H := absHeap (T4 w.params) 33 {}) (g := #[]) (d := {}) (os := os) (n := 37) (as := as) (ps := tbl) (tk := 256) (by rw [hH]; decide) ok (by rw [tbl_len]; decide) (by rw [tbl_len]; decide) (by rw [tbl_len]; decide) (nodup_up tbl_up)
  have hd : Go w (do standAt apos; eval (.Dict dks dvs dpos) env) p4 (s4 w os).abs (.ref 33) dpos (sx w os).abs (1 + (1 + 800 * (37 + 3))) := by
    refine Go.bind Go.standAt ?_
    rw [arm_eval_Dict, e1]
    refine Go.bind Go.standAt ?_
    have h' := h
    rw [hH] at h'
    have ea : (st (absHeap (T4 w.params) 33 {}) [] #[] {} 256 os) = (s4 w os).abs := by
      show (⟨lay _ [], #[], {}, 256, os⟩ : Shared) = ⟨absHeap (T4 w.params) 33 {}, #[], {}, 256, os⟩
      rw [lay_nil]
    have eb : (st (absHeap (T4 w.params) 33 {}) dls #[] {} 2206 os) = (sx w os).abs := by
      show (⟨lay _ dls, #[], {}, 2206, os⟩ : Shared) = ⟨absHeap (Tx w.params) 72 {}, #[], {}, 2206, os⟩
      rw [lay_is]
    rw [ea, tbl_len] at h'
    rw [← eb]
    exact h'
  obtain ⟨n, hn, hg⟩ := hd (fun a => (contK a).wrap doneF deadEnd id id) (fun e => (Sem.raise e : Sem Flow).wrap doneF deadEnd id id) (fun g => id (id g)) (fun l => id (id l))
  have hp : pieceOf (stm 3) env cE p4 B0 = ⟨(do standAt apos; eval (.Dict dks dvs dpos) env : Sem Value).wrap (fun a => (contK a).wrap doneF deadEnd id id) (fun e => (Sem.raise e : Sem Flow).wrap doneF deadEnd id id) (fun g => id (id g)) (fun l => id (id l)), cE, p4, B0⟩ := by
    show (⟨(exec (stm 3) env).wrap doneF deadEnd id id, cE, p4, B0⟩ : Thread) = _
    rw [exec3, Sem.bind_eq_wrap', Sem.wrap_wrap]
  rw [hp]
  have hr := seg_go hg (segRun_of (tail3 w os))
  have := segRun_mono (40000 - (n + 40)) _ _ _ _ hr
  rw [show n + 40 + (40000 - (n + 40)) = 40000 by omega] at this
  exact this
end
end Fz

end

section
set_option maxRecDepth 100000
set_option maxHeartbeats 0
open PySem PySem.W PyProof.Rows PySem.Calls
namespace Fz
noncomputable section
theorem rpre (w : World) (os : OsState) : topGo treeTable pw w 11 ann 12 ⟨boot_heap w.params, Array.mk [], boot_drawn, boot_toks, os⟩ (topStub pw) = some ((s0 w os).abs, ⟨denote treeTable cE, cE, p0, B0⟩) := by kernel_rfl
theorem rblock (w : World) (os : OsState) : segRun treeTable pw w 11 ann 1 n1 (s0 w os).abs (blockOf bE env cE p0 B0) = some (Flow.next, (s1 w os).abs, cE, p1) := by kernel_rfl
theorem rfin (w : World) (os : OsState) : topRun treeTable pw w 11 ann 2 (s17 w os).abs ⟨doneF .next, cE, p17, B0⟩ = some (s17 w os).abs := by kernel_rfl
theorem body_is : bE = [stm 0, stm 1, stm 2, stm 3, stm 4, stm 5, stm 6, stm 7, stm 8, stm 9, stm 10, stm 11, stm 12, stm 13, stm 14, stm 15] := by kernel_rfl
abbrev H1 (P : Params) : Heap := absHeap (T17 P) 145 {}
theorem run (w : World) (os : OsState) : topRun treeTable pw w 11 ann (12 + (n1 + (n2 + (n3 + (n4 + (40000 + (n6 + (n7 + (n8 + (n9 + (n10 + (n11 + (n12 + (n13 + (n14 + (n15 + (n16 + (n17 + 2)))))))))))))))))) ⟨boot_heap w.params, Array.mk [], boot_drawn, boot_toks, os⟩ (topStub pw) = some ⟨H1 w.params, #[], {}, 2307, os⟩ := by
  refine go_top (rpre w os) (piece_block (rblock w os) ?_)
  rw [body_is]
  refine piece_cons (segRun_of (congrFun (r0 w) os)) ?_
  refine piece_app (l := [stm 1]) (segRun_of (congrFun (r1 w) os)) ?_
  refine piece_cons (segRun_of (congrFun (r2 w) os)) ?_
  refine piece_cons (r3 w os) ?_
  refine piece_cons (segRun_of (congrFun (r4 w) os)) ?_
  refine piece_cons (segRun_of (congrFun (r5 w) os)) ?_
  refine piece_cons (segRun_of (congrFun (r6 w) os)) ?_
  refine piece_cons (segRun_of (congrFun (r7 w) os)) ?_
  refine piece_cons (segRun_of (congrFun (r8 w) os)) ?_
  refine piece_cons (segRun_of (congrFun (r9 w) os)) ?_
  refine piece_cons (segRun_of (congrFun (r10 w) os)) ?_
  refine piece_cons (segRun_of (congrFun (r11 w) os)) ?_
  refine piece_cons (segRun_of (congrFun (r12 w) os)) ?_
  refine piece_cons (segRun_of (congrFun (r13 w) os)) ?_
  refine piece_cons (segRun_of (congrFun (r14 w) os)) ?_
  refine piece_cons (segRun_of (congrFun (r15 w) os)) ?_
  exact piece_nil (rfin w os)
theorem open_is : ∀ w : World, (fencedOpening treeTable pw w 100000).map (fun s => (s.heap, s.gens, s.drawn, s.toks)) = some (boot_heap w.params, Array.mk [], boot_drawn, boot_toks) :=
  boot_open (p := pw) (by kernel_rfl) (by decide) (fun s => by kernel_rfl)
theorem size_is (w : World) : ((boot_heap w.params).isNs mainGlobals && (Array.mk [] : Array GenState).size == 0, (boot_heap w.params).objs.size, (boot_heap w.params).nsMap mainGlobals "__annotations__") = (true, 11, ann) := by kernel_rfl
/-- the statements that are kept in view -/
def qv : Program := { pw with main := { pw.main with body := [stm 1, stm 2, stm 3, stm 4, stm 6, stm 7, stm 8, stm 10, stm 11, stm 12, stm 13, stm 14, stm 15] } }
def lo : List Str := [S "b1_set", S "b3_exceptions"]
end
end Fz

end

section
set_option maxRecDepth 100000
set_option maxHeartbeats 0
open PySem PySem.W PyProof.Rows PySem.Calls
namespace Fz
noncomputable section
def KF (P : Params) : Frag := (nat_lit 2, o2v8 P) :: (nat_lit 3, o3v17 P) :: (nat_lit 6, boot_o_6 P) :: (nat_lit 22, o22 P) :: (nat_lit 26, o26 P) :: (nat_lit 28, o28 P) :: (nat_lit 29, o29 P) :: (nat_lit 31, o31 P) :: (nat_lit 32, o32 P) :: (nat_lit 33, o33 P) :: (nat_lit 72, o72 P) :: (nat_lit 74, o74 P) :: (nat_lit 75, o75 P) :: (nat_lit 77, o77 P) :: (nat_lit 78, o78 P) :: (nat_lit 79, o79 P) :: (nat_lit 86, o86 P) :: (nat_lit 87, o87 P) :: (nat_lit 88, o88v9 P) :: (nat_lit 89, o89 P) :: (nat_lit 92, o92 P) :: (nat_lit 99, o99 P) :: (nat_lit 100, o100 P) :: (nat_lit 101, o101 P) :: (nat_lit 104, o104 P) :: (nat_lit 106, o106 P) :: (nat_lit 107, o107 P) :: (nat_lit 109, o109 P) :: (nat_lit 110, o110 P) :: (nat_lit 111, o111 P) :: (nat_lit 113, o113 P) :: (nat_lit 114, o114 P) :: (nat_lit 116, o116 P) :: (nat_lit 117, o117 P) :: (nat_lit 118, o118 P) :: (nat_lit 120, o120 P) :: (nat_lit 121, o121 P) :: (nat_lit 123, o123 P) :: (nat_lit 124, o124 P) :: (nat_lit 125, o125 P) :: (nat_lit 128, o128 P) :: (nat_lit 129, o129 P) :: (nat_lit 130, o130 P) :: (nat_lit 133, o133 P) :: (nat_lit 134, o134 P) :: (nat_lit 135, o135 P) :: (nat_lit 138, o138 P) :: (nat_lit 139, o139 P) :: (nat_lit 140, o140 P) :: (nat_lit 143, o143 P) :: (nat_lit 144, o144 P) :: []
def ka : List Addr := [2, 3, 6, 22, 26, 28, 29, 31, 32, 33, 72, 74, 75, 77, 78, 79, 86, 87, 88, 89, 92, 99, 100, 101, 104, 106, 107, 109, 110, 111, 113, 114, 116, 117, 118, 120, 121, 123, 124, 125, 128, 129, 130, 133, 134, 135, 138, 139, 140, 143, 144]
abbrev hk : Hook := kHook KF ka (fun _ => by kernel_rfl)
abbrev xt (s : Shared) : Bool := xlAt qv [] s && recOk (RowW.records (OpenRow.toRowW (OpenLaw.row PySem.Challenge.rw_pm0045_01))) s
theorem look1 (w : World) (os : OsState) : (staticsOk (importedModules pw.main.body) (boot_heap w.params) (H1 w.params) && namesBound pw (H1 w.params) && gensDone ⟨H1 w.params, #[], {}, 2307, os⟩ && laidKept (boot_heap w.params) (H1 w.params)) = true := by kernel_rfl
theorem look3 (w : World) (os : OsState) : hk.obs ⟨H1 w.params, #[], {}, 2307, os⟩ = hk.val w := by kernel_rfl
/-- a table's keys that rise stand apart -/
def incr : Int → List (Int × Str) → Bool
  | _, [] => true
  | k, (j, _) :: r => decide (k < j) && incr j r
abbrev asData (q : Int × Str) : PyData × PyData := (.int q.1, .str q.2)
theorem has_not : ∀ (l : List (Int × Str)) (k₀ k : Int), k ≤ k₀ → incr k₀ l = true → hasIntKey k (l.map asData) = false
  | [], _, _, _, _ => rfl
  | (j, x) :: r, k₀, k, h, e => by
    rw [incr, Bool.and_eq_true, decide_eq_true_eq] at e
    show ((j == k) || hasIntKey k (r.map asData)) = false
    rw [has_not r j k (by omega) e.2, Bool.or_false, beq_eq_false_iff_ne]
    omega
theorem apart : ∀ (l : List (Int × Str)) (k₀ : Int), incr k₀ l = true → keysApartInt (l.map asData) = true
  | [], _, _ => rfl
  | (j, x) :: r, k₀, e => by
    rw [incr, Bool.and_eq_true] at e
    show (!hasIntKey j (r.map asData) && keysApartInt (r.map asData)) = true
    rw [has_not r j j (Int.le_refl _) e.2, apart r j e.2]
    rfl
theorem ents : ∀ (l : List (Int × Str)) (j : Nat), entriesAreInt (entriesFrom j l) (l.map asData) = true
  | [], _ => rfl
  | (i, x) :: r, j => by
    show ((i == i) && (hashInt i == hashInt i) && (x == x) && entriesAreInt (entriesFrom (j + 1) r) (r.map asData)) = true
    rw [ents r (j + 1)]
    simp
theorem tab_is : tabIntOf qv (S "b3_exceptions") = some (tbl.map asData) := by kernel_rfl
theorem tab_up : incr 0 tbl = true := by decide +kernel
theorem tab_ok (w : World) : (H1 w.params).tabIntOk (S "b3_exceptions") (tbl.map asData) = true := by
  have e1 : (H1 w.params).nsMap mainGlobals (S "b3_exceptions") = some (.ref 33) := by kernel_rfl
  have e2 : (H1 w.params).get? 33 = some ⟨.type "dict", none, .dict (entriesFrom 0 tbl).toArray 650, #[]⟩ := by kernel_rfl
  unfold Heap.tabIntOk
  rw [e1]
  dsimp only
  rw [e2]
  dsimp only
  rw [ents, apart tbl 0 tab_up]
  decide
theorem tables (w : World) : tablesOk qv (H1 w.params) = true := by
  unfold tablesOk
  rw [show valNames qv = [S "b1_set", S "b3_exceptions"] by kernel_rfl]
  simp only [List.all_cons, List.all_nil, Bool.and_true, Bool.and_eq_true]
  refine ⟨⟨⟨by kernel_rfl, by kernel_rfl⟩, by kernel_rfl⟩, ⟨by kernel_rfl, by kernel_rfl⟩, ?_⟩
  rw [tab_is]
  exact tab_ok w
section
variable (w : World) (os : OsState)
theorem see0 : seen ((recsOf qv).map (·.name)) (ownsOf qv) [] { (⟨H1 w.params, #[], {}, 2307, os⟩ : Shared) with gens := #[] } = expectedOf qv := by kernel_rfl
theorem see1 : (H1 w.params).bltView = bltViewBooted := by kernel_rfl
theorem see2 : (H1 w.params).keysOk (looseW qv lo) ((recsOf qv).map (·.name)) ((litsOf qv).map (·.1)) ((clssOf qv (looseW qv lo)).map (·.name)) = true := by kernel_rfl
theorem see3 : (H1 w.params).accountedOkI (importedModules pw.main.body) = true := by kernel_rfl
theorem see4 : (H1 w.params).isNs mainGlobals = true := by kernel_rfl
theorem see5 : (H1 w.params).isNs builtinsNs = true := by kernel_rfl
theorem see7 : xt (⟨H1 w.params, #[], {}, 2307, os⟩ : Shared) = true := by kernel_rfl
theorem see9 : tabsOk qv (⟨H1 w.params, #[], {}, 2307, os⟩ : Shared) = true := by kernel_rfl
theorem see10 : pinSeenD qv (drecsOf qv) (⟨H1 w.params, #[], {}, 2307, os⟩ : Shared) = pinGoodD (drecsOf qv) := by kernel_rfl
theorem see11 : plainSeenE qv (looseW qv lo) (⟨H1 w.params, #[], {}, 2307, os⟩ : Shared) = plainGoodE qv (looseW qv lo) := by kernel_rfl
theorem see12 : plainSeenD qv lo (⟨H1 w.params, #[], {}, 2307, os⟩ : Shared) = plainGoodD qv lo := by kernel_rfl
theorem see13 : wideSeen qv (⟨H1 w.params, #[], {}, 2307, os⟩ : Shared) = wideGood qv := by kernel_rfl
theorem see14 : clsSeenW qv lo (⟨H1 w.params, #[], {}, 2307, os⟩ : Shared) = clsGoodW qv lo := by kernel_rfl
theorem see28 : ((H1 w.params).keysOk (looseW qv lo) ((recsOf qv).map (·.name)) ((litsOf qv).map (·.1)) ((clssOf qv (looseW qv lo)).map (·.name)) && (H1 w.params).accountedOkI (importedModules pw.main.body) && (H1 w.params).isNs mainGlobals && (H1 w.params).isNs builtinsNs && tablesOk qv (H1 w.params) && xt (⟨H1 w.params, #[], {}, 2307, os⟩ : Shared) && true) = true := by
  rw [see2 w, see3 w, see4 w, see5 w, tables w, see7 w os]
  rfl
theorem both {α β : Type} {a a' : α} {b b' : β} (h : a = a') (g : b = b') : (a, b) = (a', b') := by rw [h, g]
end
theorem look2 (w : World) (os : OsState) : openSeen qv lo (importedModules pw.main.body) xt true ⟨H1 w.params, #[], {}, 2307, os⟩ = openGood qv lo :=
  both (see0 w os) (both (see1 w) (both (see28 w os) (both (see9 w os) (both (see10 w os) (both (see11 w os) (both (see12 w os) (both (see13 w os) (see14 w os))))))))
theorem left : LeftO pw qv lo xt hk.obs hk.val 100000 :=
  LeftO.of_pieces open_is size_is run (by decide) fun w => funext fun os => looks_pair (look1 w os) (looks_pair (look2 w os) (look3 w os))
end
end Fz

end

section
set_option maxRecDepth 100000
set_option maxHeartbeats 0
open PySem PySem.W PyProof.Rows PySem.Calls
namespace Fz
noncomputable section
abbrev dlaw : DefRec := { name := S "law", params := dA 15, body := dB 15, scope := dS 15, pos := ⟨75, 0, 78, 115⟩ }
abbrev rlaw : RowW := OpenRow.toRowW (OpenLaw.row PySem.Challenge.rw_pm0045_01)
end
end Fz

end

section
set_option maxRecDepth 100000
set_option maxHeartbeats 4000000
set_option linter.unusedVariables false
open PySem PySem.W PyProof.Rows PySem.Calls
namespace Fz
noncomputable section
/-- room around a call: no exception is handled, few frames, few C units -/
structure Ok (A : Around) (n : Nat) : Prop where
  han : A.handled = none
  dep : A.depth + n < 1000
  uni : A.units + 8 * n < 9900
theorem Ok.deeper {A : Around} {n : Nat} (h : Ok A (n + 1)) (env : Env) : Ok (A.deeper env) n :=
  ⟨h.han, by rw [depth_deeper]; have := h.dep; omega, by rw [units_deeper]; have := h.uni; omega⟩
theorem Ok.le {A : Around} {n k : Nat} (h : Ok A n) (hk : k ≤ n) : Ok A k := ⟨h.han, by have := h.dep; omega, by have := h.uni; omega⟩
theorem Ok.lim {A : Around} {n : Nat} (h : Ok A n) : A.depth < recursionLimit := by have := h.dep; show A.depth < 1000; omega
/-- what every heap of the call bears: the written part, the top's facts -/
structure Gr (w : World) (h : Heap) : Prop where
  X : (KF w.params).In h
  T : ∃ mean mg mb, Top qv (looseW qv lo) mean mg mb h
theorem Gr.keep {w : World} {h h' : Heap} (G : Gr w h) (k : ∀ b o, h.get? b = some o → h'.get? b = some o) : Gr w h' := by
  obtain ⟨X, mean, mg, mb, T⟩ := G
  exact ⟨X.keeps k, mean, mg, mb, T.keeps k⟩
/-- a call of a def that hands back a value, for all its callers -/
def Con (w : World) (n : Nat) (f : Addr) (args : List Value) (H : Heap → Prop) (R : Value → Heap → Prop) : Prop :=
  ∀ (A : Around) (s : Shared) (Q E : Value → Shared → Prop), Ok A n → Gr w s.heap → H s.heap → (∀ v h' tk, (∀ b o, s.heap.get? b = some o → h'.get? b = some o) → R v h' → Q v { s with heap := h', toks := tk }) →
    wpAny (model (PySem.Challenge.rw_pm0045_01).prog w) A (PySem.call (.ref f) args) Q E s
abbrev any : Heap → Prop := fun _ => True
noncomputable def lit2 : { b : List Stmt // b = dB 2 } := by
  refine' ⟨_, _⟩
  rotate_left
  · conv => rhs; whnf
noncomputable def lit4 : { b : List Stmt // b = dB 4 } := by
  refine' ⟨_, _⟩
  rotate_left
  · conv => rhs; whnf
/-- table B.1 -/
def b1l : List Nat := [173, 847, 6150, 6155, 6156, 6157, 8203, 8204, 8205, 8288, 65279, 65024, 65025, 65026, 65027, 65028, 65029, 65030, 65031, 65032, 65033, 65034, 65035, 65036, 65037, 65038, 65039]
def inB1 (c : Nat) : Bool := b1l.contains c
def setEs : List (Int × Value) := match (o22 ⟨fun _ => 0, fun _ => 0, id, fun _ => 0, fun _ _ => 0, fun _ => true, fun _ => 0, .refcount, .text, fun _ => 0, fun _ => none, fun _ => false, fun _ _ _ => true, fun _ _ _ => true, true, fun _ => false, fun _ => none, fun _ => none, fun _ _ _ => 0, fun _ _ => none, fun _ => none, fun _ => (0, false, ""), fun _ => none, fun d => d, fun _ => false⟩).data with
  | .set es _ _ => es.toList
  | _ => []
theorem set_good : (setEs.all fun e => match e.2 with | .int i _ => e.1 == hashInt i && (match i with | .ofNat n => b1l.contains n | _ => false) | _ => false) = true := by decide +kernel
theorem set_all : (b1l.all fun n => setEs.any fun e => match e.2 with | .int i _ => i == (n : Int) | _ => false) = true := by decide +kernel
theorem b1_set {w : World} {h : Heap} (X : (KF w.params).In h) : h.SetOf (intKind (PySem.Challenge.rw_pm0045_01).prog w) 22 (fun k => match k with | .ofNat n => inB1 n | _ => false) 27 := by
  have ho : h.get? 22 = some (o22 w.params) := X 22 _ rfl
  refine ⟨_, _, _, _, ho, ⟨rfl, rfl, rfl⟩, rfl, ?_, ?_, ?_, ?_, ?_⟩
  · show ElemsOf (intKind (PySem.Challenge.rw_pm0045_01).prog w) setEs
    intro e he
    have := List.all_eq_true.mp set_good e he
    obtain ⟨a, v⟩ := e
    cases v <;> try (simp at this; done)
    rename_i i t
    simp only [Bool.and_eq_true, beq_iff_eq] at this
    exact ⟨⟨i, by show (i == i) = true; simp, this.1⟩, rfl⟩
  · intro k
    show _ ↔ ∃ e ∈ setEs, (intKind (PySem.Challenge.rw_pm0045_01).prog w).is k e.2 = true
    constructor
    · intro hk
      cases k with
      | negSucc n => cases hk
      | ofNat n =>
        have hm : n ∈ b1l := by
          have : b1l.contains n = true := hk
          simpa using this
        have := List.all_eq_true.mp set_all n hm
        obtain ⟨e, he, hv⟩ := List.any_eq_true.mp this
        refine ⟨e, he, ?_⟩
        obtain ⟨a, v⟩ := e
        cases v <;> try (simp at hv; done)
        exact hv
    · rintro ⟨e, he, hv⟩
      have := List.all_eq_true.mp set_good e he
      obtain ⟨a, v⟩ := e
      cases v <;> try (cases hv; done)
      rename_i i t
      have hik : i = k := by
        have : (i == k) = true := hv
        simpa using this
      subst hik
      simp only [Bool.and_eq_true] at this
      cases i with
      | ofNat n => exact this.2
      | negSucc n => exact absurd this.2 (by simp)
  · decide +kernel
  · rfl
  · rfl
theorem c32 {w : World} {c : Nat} {t : Tok} : Con w 1 32 [.str ⟨#[c]⟩ t] any (fun v _ => v = .bool (inB1 c)) := by
  intro A s Q E ok G _ h
  obtain ⟨X, mean, mg, mb, T⟩ := G
  revert X; k_fill; intro X
  refine wpAny_call (call_plain_ret (name := S "in_table_b1") (params := dA 2) (body := dB 2) (scope := dS 2) (pm := .str (S "cpy313.stringprep") 187) (cd := .ref 31) (doc := .none) ok.lim (X 32 _ rfl) (by rfl) T.nolimit (codeRec_of X (by kernel_rfl)) (binds := [(S "code", .str ⟨#[c]⟩ t)]) (by rfl) (locs (by rfl)) ?_ (by rfl) (by rfl) (by rfl) (by decide))
  intro h₁ F
  rw [← lit2.2]
  dsimp only [lit2]
  have N : News s.heap s.heap.objs.size h₁ [] := News.nil
  k_steps
  have hS := b1_set (w := w) (X.keeps F.keep)
  refine wpAny_inSet_of (k := (c : Int)) (intKind_is _ w _ _) rfl hS ?_
  exact h _ _ _ F.keep rfl
/-- table B.3, a sign; what stands not in the table: its small form -/
def b3At (c : Nat) : Option Str := (tbl.find? fun q => q.1 == (c : Int)).map (·.2)
def low (c : Nat) : Str := Txt.lower ⟨#[c]⟩
def b3 (c : Nat) : Str := (b3At c).getD (low c)
theorem find_ent (k : Int) : ∀ (j : Nat) (ps : List (Int × Str)),
    ((entriesFrom j ps).find? fun e => Value.isInt k e.key).map (·.val) = (match ps.find? fun q => q.1 == k with | some q => some (.str q.2 (tokAt (j + (ps.findIdx fun q => q.1 == k)) + 1)) | none => none)
  | _, [] => rfl
  | j, (i, x) :: r => by
    rw [entriesFrom, List.find?_cons, List.find?_cons, List.findIdx_cons]
    show (match (i == k) with | true => _ | false => _ : Option DictEntry).map _ = _
    cases h : i == k with
    | true => simp
    | false =>
      have := find_ent k (j + 1) r
      simp only [cond_false] at this ⊢
      rw [this]
      cases r.find? fun q => q.1 == k with
      | none => rfl
      | some q => simp only; rw [show j + 1 + r.findIdx (fun q => q.1 == k) = j + (r.findIdx (fun q => q.1 == k) + 1) by omega]
theorem ent_keys : ∀ (j : Nat) (ps : List (Int × Str)), ∀ e ∈ entriesFrom j ps, ∃ k t, e.key = .int k t ∧ e.hash = hashInt k
  | _, [], e, he => by cases he
  | j, (i, x) :: r, e, he => by
    rw [entriesFrom] at he
    rcases List.mem_cons.mp he with rfl | he
    · exact ⟨i, _, rfl, rfl⟩
    · exact ent_keys _ r e he
theorem b3_map {w : World} {h : Heap} (X : (KF w.params).In h) : h.MapOf (intKind (PySem.Challenge.rw_pm0045_01).prog w) 33 (fun k => findBy Value.isInt (entriesFrom 0 tbl).toArray k) := by
  have ho : h.get? 33 = some (o33 w.params) := X 33 _ rfl
  refine ⟨_, (entriesFrom 0 tbl).toArray, 650, ho, ⟨rfl, rfl, rfl⟩, rfl, ?_, fun k => rfl⟩
  intro e he
  obtain ⟨k, t, h1, h2⟩ := ent_keys 0 tbl e (by simpa using he)
  exact ⟨k, by rw [h1]; exact intKind_is _ w _ _, h2⟩
theorem b3_look (c : Nat) : findBy Value.isInt (entriesFrom 0 tbl).toArray (c : Int) = (match b3At c with | some x => some (.str x (tokAt (0 + (tbl.findIdx fun q => q.1 == (c : Int))) + 1)) | none => none) := by
  unfold findBy
  rw [List.find?_toArray, find_ent]
  unfold b3At
  cases tbl.find? fun q => q.1 == (c : Int) <;> rfl
theorem c78 {w : World} {c : Nat} {t : Tok} : Con w 1 78 [.str ⟨#[c]⟩ t] any (fun v _ => ∃ u, v = .str (b3 c) u) := by
  intro A s Q E ok G _ h
  obtain ⟨X, mean, mg, mb, T⟩ := G
  revert X; k_fill; intro X
  refine wpAny_call (call_plain_ret (name := S "map_table_b3") (params := dA 4) (body := dB 4) (scope := dS 4) (pm := .str (S "cpy313.stringprep") 187) (cd := .ref 77) (doc := .none) ok.lim (X 78 _ rfl) (by rfl) T.nolimit (codeRec_of X (by kernel_rfl)) (binds := [(S "code", .str ⟨#[c]⟩ t)]) (by rfl) (locs (by rfl)) ?_ (by rfl) (by rfl) (by rfl) (by decide))
  intro h₁ F
  rw [← lit4.2]
  dsimp only [lit4]
  have N : News s.heap s.heap.objs.size h₁ [] := News.nil
  k_steps
  have hm := b3_map (w := w) (X.keeps F.keep)
  refine getMethod_builtin hm.typeIs PySem.F.plainAttrs_dict PySem.F.slot_dict_get PySem.F.type_dict_get hm.noDict ?_
  k_steps
  have hm' := b3_map (w := w) (X.keeps F.keep)
  refine call_meetsIn PySem.F.slot_dict_get hm'.typeIs PySem.F.entry_dict_get (PySem.F.args_dict_get_2 _ _) (meets_dict_get _ 33 (k := (c : Int)) (intKind_is _ w _ _) (by rfl)) ⟨_, hm', ?_⟩
  rw [b3_look]
  have hb : b3 c = (b3At c).getD (low c) := rfl
  cases hq : b3At c with
  | some x =>
    rw [hq] at hb
    dsimp only [Option.getD] at hb ⊢
    k_steps
    exact h _ _ _ (Fr.keep (by assumption)) ⟨_, by rw [hb]⟩
  | none =>
    rw [hq] at hb
    dsimp only [Option.getD] at hb ⊢
    k_steps
    refine SCL.lower (x := ⟨#[c]⟩) (show 1 ≤ 5592405 by omega) ?_
    intro _
    exact h _ _ _ (Fr.keep (by assumption)) ⟨_, by rw [hb]; rfl⟩
end
end Fz

end

section
set_option maxRecDepth 100000
set_option maxHeartbeats 4000000
set_option linter.unusedVariables false
open PySem PySem.W PyProof.Rows PySem.Calls PyProof.Rows.LCg
namespace Fz
def isTup (o : Obj) : Prop := o.cls = .type "tuple" ∧ ∃ xs n, o.data = .seq xs n
/-- the tuples stand as they stood -/
def TK (h h' : Heap) : Prop := ∀ b o, isTup o → h.get? b = some o → h'.get? b = some o
theorem TK.refl (h : Heap) : TK h h := fun _ _ _ e => e
theorem TK.trans {a b c : Heap} (x : TK a b) (y : TK b c) : TK a c := fun q o t e => y q o t (x q o t e)
theorem TK.of {h h' : Heap} (k : ∀ b o, h.get? b = some o → h'.get? b = some o) : TK h h' := fun b o _ e => k b o e
/-- a walk over what an iterable holds, its iterator the next new object -/
def SrcOK (prog : Program) (w : World) (A : Around) (s₁ : Shared) (xv : Value) (n : Nat) (P : Nat → Value → Prop) : Prop :=
  ∃ (o : Obj) (fp : List Addr) (St : Nat → Heap → Prop), Walks prog w A s₁.heap.objs.size fp [s₁.heap.objs.size] n P St ∧ (∀ b ∈ fp, b < (s₁.heap.push o).objs.size) ∧ St 0 (s₁.heap.push o) ∧
    (∀ i h, St i h → ∃ o', h.get? s₁.heap.objs.size = some o' ∧ o'.cls ≠ .type "tuple") ∧
    ∀ (Q E : Value → Shared → Prop), Q (.ref s₁.heap.objs.size) { s₁ with heap := s₁.heap.push o } → wpAny (model prog w) A (pyIter xv) Q E s₁
/-- all that stands above a frame, written as a ledger -/
theorem full_news (h₀ : Heap) (L : Addr) (h : Heap) : ∃ news, News h₀ L h news ∧ ∀ b o, b ≠ L → h.get? b = some o → h₀.get? b = none → (b, o) ∈ news := by
  refine ⟨(List.range h.objs.size).filterMap fun b => if b = L ∨ (h₀.get? b).isSome = true then none else (h.get? b).map fun o => (b, o), ?_, ?_⟩
  · intro p hp
    obtain ⟨b, _, hb⟩ := List.mem_filterMap.mp hp
    split at hb
    · cases hb
    · rename_i hc
      obtain ⟨o, ho, rfl⟩ := Option.map_eq_some_iff.mp hb
      rw [not_or] at hc
      exact ⟨ho, hc.1, by simpa using hc.2⟩
  · intro b o hb ho h0
    refine List.mem_filterMap.mpr ⟨b, List.mem_range.mpr (Heap.lt_size ho), ?_⟩
    rw [if_neg (by rw [h0]; simp [hb]), ho]
    rfl
/-- what a turn of a comprehension leaves -/
def Aft (s₁ : Shared) (C : Addr) (news : List (Addr × Obj)) (J : Heap → Prop) (s' : Shared) : Prop :=
  ∃ h' tk' m'', s' = { s₁ with heap := h', toks := tk' } ∧ Fr s₁.heap C h' m'' ∧ News s₁.heap C h' news ∧ J h'
section
variable {prog : Program} {w : World} {A : Around} {E : Value → Shared → Prop} {s : Shared} {env : Env}
/-- the turns of a comprehension over one name, in terms of the heap -/
def TurnA (prog : Program) (w : World) (A : Around) (env : Env) (elt : Expr) (ifs : List Expr) (x : Str) (scope : Scope) (cl : List (Str × Addr)) (J : Nat → List Value → Heap → Prop) (s₁ : Shared) (n : Nat) (P : Nat → Value → Prop) : Prop :=
  ∀ i v ys h tk C news m', i < n → P i v → m' x = some v → Fr s₁.heap C h m' → News s₁.heap C h news → J i ys h →
    wpAny (model prog w) A (forIn ifs true fun c r => if r = true then do let ok ← isTrue c (compEnvC scope cl C env) (eval c (compEnvC scope cl C env)); pure (ForInStep.yield ok) else pure (ForInStep.yield r))
      (fun ok s' => if ok = true then wpAny (model prog w) A (eval elt (compEnvC scope cl C env)) (fun y => Aft s₁ C news (J (i + 1) (ys ++ [y]))) (fun _ _ => False) s' else Aft s₁ C news (J (i + 1) ys) s') (fun _ _ => False) { s₁ with heap := h, toks := tk }
theorem comp_A {elt iter : Expr} {x : Str} {px : Pos} {ifs : List Expr} {scope : Scope} {cl : List (Str × Addr)} {pos : Pos} {Q : Value → Shared → Prop} {J : Nat → List Value → Heap → Prop}
    (hclos : closureFor scope env = pure cl) (hcell : ∀ y ∈ scope.names, y.2 ≠ .cell) (hkind : scope.kind = .function)
    (hnames : ∀ y ∈ scope.names, y.2 = .local → scope.names.lookup y.1 = some .local) (hx : scope.names.lookup x = some .local)
    (hJ : ∀ i ys h h', TK h h' → J i ys h → J i ys h')
    (h : wpAny (model prog w) A (eval iter env) (fun xv s₁ => ∃ n P, n ≤ sizeLine ∧ SrcOK prog w A s₁ xv n P ∧ J 0 [] s₁.heap ∧ TurnA prog w A env elt ifs x scope cl J s₁ n P ∧
      ∀ D h tk ys, (∀ b o, s₁.heap.get? b = some o → h.get? b = some o) → h.get? D = some (lst ys) → s₁.heap.get? D = none → J n ys h → Q (.ref D) { s₁ with heap := h, toks := tk }) E s)
    (hs : ∀ x, foldedSetIterable iter env x = pure x := by intro _; rfl) :
    wpAny (model prog w) A (eval (.ListComp elt [⟨.Name x px, iter, ifs, 0⟩] scope pos) env) Q E s := by
  rw [eval_ListComp]
  refine wpAny_comprehension_free (use := none) rfl hs hclos hkind hnames (wpAny_mono h (fun xv s₁ h₁ => ?_) fun _ _ e => e)
  obtain ⟨n, P, hsz, ⟨oI, fp, St, W, hfp, hst, hIo, hit⟩, hJ0, turn, fin⟩ := h₁
  refine hit _ _ ?_
  generalize hI : s₁.heap.objs.size = I at W hIo
  have hI₀ : s₁.heap.get? I = none := by
    cases e : s₁.heap.get? I with
    | none => rfl
    | some o => exact absurd (Heap.lt_size e) (by rw [hI]; exact Nat.lt_irrefl _)
  have hI2 : I < (s₁.heap.push oI).objs.size := by rw [Heap.size_push, hI]; exact Nat.lt_succ_self _
  generalize hH1 : s₁.heap.push oI = H1 at hfp hst hI2
  have up1 : ∀ b o, s₁.heap.get? b = some o → H1.get? b = some o := fun b o e => hH1 ▸ Heap.get?_push_of_some _ e
  refine wpAny_newObj_type (wpAny_newFunctionEnv hcell (by intro y hy; simp at hy) (fun h₁ hns₁ hsb₁ => ?_) hkind)
  dsimp only at hns₁ hsb₁ ⊢
  generalize hH2 : H1.push { cls := .type "list", dict := none, data := .seq ([] : List Value).toArray } = H2 at hns₁ hsb₁ ⊢
  have hC : H2.objs.size = H1.objs.size + 1 := by rw [← hH2, Heap.size_push]
  generalize hD : H1.objs.size = D at hC
  generalize hCC : H2.objs.size = C at hC hns₁ hsb₁ ⊢
  have hDC : D ≠ C := by rw [hC]; exact Nat.ne_of_lt (Nat.lt_succ_self _)
  have hID : I ≠ D := by rw [← hD]; exact Nat.ne_of_lt hI2
  have hIC : I ≠ C := by rw [hC, ← hD]; exact Nat.ne_of_lt (Nat.lt_succ_of_lt hI2)
  have old : ∀ b o, H1.get? b = some o → h₁.get? b = some o := fun b o e => hsb₁.extBut b o (by have := Heap.lt_size e; rw [hC, ← hD]; exact Nat.ne_of_lt (Nat.lt_succ_of_lt this)) (Heap.get?_push_of_some _ (hH2 ▸ Heap.get?_push_of_some _ e))
  have hacc : h₁.get? D = some (lst []) := hsb₁.extBut _ _ hDC (Heap.get?_push_of_some _ (hH2 ▸ hD ▸ Heap.get?_push_size _ rfl))
  have hD₁ : H1.get? D = none := by
    cases e : H1.get? D with
    | none => rfl
    | some o => exact absurd (Heap.lt_size e) (by rw [hD]; exact Nat.lt_irrefl _)
  have hC₁ : H1.get? C = none := by
    cases e : H1.get? C with
    | none => rfl
    | some o => have := Heap.lt_size e; rw [hD, hC] at this; exact absurd this (Nat.not_lt.mpr (Nat.le_succ _))
  have below : ∀ {b}, H1.get? b = none → s₁.heap.get? b = none := fun {b} e => by
    cases q : s₁.heap.get? b with
    | none => rfl
    | some o => rw [up1 b o q] at e; cases e
  have hIf : I ∈ fp := W.sub I (List.mem_singleton.mpr rfl)
  have hDf : D ∉ fp := fun hm => by have := hfp _ hm; rw [hD] at this; exact Nat.lt_irrefl _ this
  have hCf : C ∉ fp := fun hm => by have := hfp _ hm; rw [hD, hC] at this; exact absurd this (Nat.not_lt.mpr (Nat.le_succ _))
  have hst₁ : St 0 h₁ := W.frame _ _ _ hst fun b _ o e => old b o e
  have loop : ∀ s₃ : Shared, s₃ = { s₁ with heap := h₁, toks := s₁.toks + ([] : List (Str × Value)).length } →
      codeAny (model prog w) A (.compLoop (.ListComp elt [⟨.Name x px, iter, ifs, 0⟩] scope pos) 0 (.ref I) (.ref D) (compEnvC scope cl C env))
        (compPost (model prog w) A E none Q (.ref D) C) s₃ := by
    rintro s₃ rfl
    refine codeAny_compLoop_tests
      (fun k s' => ∃ h' tk i ys m', s' = { s₁ with heap := h', toks := tk } ∧ i ≤ n ∧ k = n + 1 - i ∧ ys.length ≤ i ∧ St i h' ∧ (∀ b o, s₁.heap.get? b = some o → h'.get? b = some o) ∧ h'.Ns C m' ∧ h'.get? D = some (lst ys) ∧ J i ys h') ?_ (n + 1)
      ⟨h₁, _, 0, [], _, rfl, Nat.zero_le _, rfl, Nat.le_refl _, hst₁, fun b o e => old b o (up1 b o e), hns₁, hacc, hJ _ _ _ _ (TK.of fun b o e => old b o (up1 b o e)) hJ0⟩
    rintro k s' ⟨h', tk, i, ys, m', rfl, hi, rfl, hyl, hst', kp, hn', hd', hj'⟩
    by_cases hlt : i < n
    · refine W.item i _ _ _ hlt hst' fun v h₂ tk₂ hPv hst₂ hk₂ => ?_
      have tk2 : TK h' h₂ := fun b o ht e => hk₂ b o (fun hm => by
        rw [List.mem_singleton.mp hm] at e
        obtain ⟨o', e', hc'⟩ := hIo _ _ hst'
        rw [e'] at e; cases e; exact hc' ht.1) e
      have hn₂ : h₂.Ns C m' := hn'.at' fun o e => hk₂ _ o (by simpa using Ne.symm hIC) e
      refine wpAny_assign_Name (wpAny_storeName_local (lookup_relabel_local hx) hn₂ (fun h₃ hn₃ hs₃ => ?_) (by simp [compEnvC, relabel, hkind]))
      have up3 : ∀ b o, b ≠ C → h₂.get? b = some o → h₃.get? b = some o := fun b o hb e => hs₃.extBut b o hb e
      have hst₃ : St (i + 1) h₃ := W.frame _ _ _ hst₂ fun b hb o e => up3 b o (fun q => hCf (q ▸ hb)) e
      have tk3 : TK h₂ h₃ := fun b o ht e => up3 b o (fun q => by
        obtain ⟨oC, es, ep, eC, hdC, _⟩ := hn₂
        rw [q, eC] at e; cases e
        obtain ⟨_, xs, k, hx'⟩ := ht
        rw [hdC] at hx'; cases hx') e
      have kp3 : ∀ b o, s₁.heap.get? b = some o → h₃.get? b = some o := fun b o e => up3 b o (fun q => by rw [q, below hC₁] at e; cases e) (hk₂ b o (fun hm => by rw [List.mem_singleton.mp hm, hI₀] at e; cases e) (kp b o e))
      have hd3 : h₃.get? D = some (lst ys) := up3 D _ hDC (hk₂ D _ (fun hm => hID (List.mem_singleton.mp hm).symm) hd')
      obtain ⟨oI3, eI3, cI3⟩ := hIo _ _ hst₃
      have F₃ : Fr s₁.heap C h₃ _ := ⟨hn₃, kp3, by rw [hI, hC, ← hD]; exact Nat.le_of_lt (Nat.lt_succ_of_lt hI2)⟩
      obtain ⟨news, N₃, full⟩ := full_news s₁.heap C h₃
      have mD := full D _ hDC hd3 (below hD₁)
      have mI := full I _ hIC eI3 hI₀
      refine wpAny_mono (turn i v ys h₃ _ C news _ hlt hPv (by simp) F₃ N₃ (hJ _ _ _ _ (tk2.trans tk3) hj')) (fun ok s₄ h₄ => ?_) fun _ _ e => e.elim
      cases ok with
      | true =>
        simp only [if_true] at h₄ ⊢
        refine wpAny_mono h₄ (fun y s₅ h₅ => ?_) fun _ _ e => e.elim
        obtain ⟨h₅, tk₅, m₅, rfl, F₅, N₅, J₅⟩ := h₅
        have eD := (N₅ _ mD).1
        have eI := (N₅ _ mI).1
        have hst₅ : St (i + 1) h₅ := by
          refine W.frame _ _ _ hst₃ fun b hb o e => ?_
          have hbC : b ≠ C := fun q => hCf (q ▸ hb)
          cases q : s₁.heap.get? b with
          | some o' => have := kp3 b o' q; rw [this] at e; cases e; exact F₅.keep b o q
          | none => exact (N₅ _ (full b o hbC e q)).1
        refine append_at (hsz := by show ys.toArray.size ≤ sizeLine; rw [List.size_toArray]; exact Nat.le_trans (Nat.le_trans hyl hi) hsz) eD fun h₆ hs₆ hD₆ => ?_
        have up6 : ∀ b o, b ≠ D → h₅.get? b = some o → h₆.get? b = some o := fun b o hb e => hs₆.extBut b o hb e
        have tk6 : TK h₅ h₆ := fun b o ht e => up6 b o (fun q => by rw [q, eD] at e; cases e; exact absurd (show Value.type "list" = Value.type "tuple" from ht.1) (show ¬ (Value.type "list" = Value.type "tuple") by decide)) e
        refine ⟨n + 1 - (i + 1), by omega, h₆, tk₅, i + 1, ys ++ [y], m₅, rfl, hlt, rfl, by rw [List.length_append, List.length_singleton]; exact Nat.succ_le_succ hyl, W.frame _ _ _ hst₅ fun b hb o e => up6 b o (fun q => hDf (q ▸ hb)) e,
          fun b o e => up6 b o (fun q => by rw [q, below hD₁] at e; cases e) (F₅.keep b o e), F₅.ns.at' fun o e => up6 C o (Ne.symm hDC) e, hD₆.trans (congrArg some (lst_snoc ys y)), hJ _ _ _ _ tk6 J₅⟩
      | false =>
        simp only [Bool.false_eq_true, if_false] at h₄ ⊢
        obtain ⟨h₅, tk₅, m₅, rfl, F₅, N₅, J₅⟩ := h₄
        have hst₅ : St (i + 1) h₅ := by
          refine W.frame _ _ _ hst₃ fun b hb o e => ?_
          have hbC : b ≠ C := fun q => hCf (q ▸ hb)
          cases q : s₁.heap.get? b with
          | some o' => have := kp3 b o' q; rw [this] at e; cases e; exact F₅.keep b o q
          | none => exact (N₅ _ (full b o hbC e q)).1
        exact ⟨n + 1 - (i + 1), by omega, h₅, tk₅, i + 1, ys, m₅, rfl, hlt, rfl, Nat.le_succ_of_le hyl, hst₅, F₅.keep, F₅.ns, (N₅ _ mD).1, J₅⟩
    · obtain rfl : i = n := Nat.le_antisymm hi (Nat.not_lt.mp hlt)
      refine W.done _ _ _ hst' fun h₂ tk₂ hk₂ => ?_
      have tk2 : TK h' h₂ := fun b o ht e => hk₂ b o (fun hm => by
        rw [List.mem_singleton.mp hm] at e
        obtain ⟨o', e', hc'⟩ := hIo _ _ hst'
        rw [e'] at e; cases e; exact hc' ht.1) e
      have hn₂ : h₂.Ns C m' := hn'.at' fun o e => hk₂ _ o (by simpa using Ne.symm hIC) e
      refine ⟨m', hn₂, fun h₃ hs₃ => ?_⟩
      have up3 : ∀ b o, b ≠ C → h₂.get? b = some o → h₃.get? b = some o := fun b o hb e => hs₃.extBut b o hb e
      have tk3 : TK h₂ h₃ := fun b o ht e => up3 b o (fun q => by
        obtain ⟨oC, es, ep, eC, hdC, _⟩ := hn₂
        rw [q, eC] at e; cases e
        obtain ⟨_, xs, k, hx'⟩ := ht
        rw [hdC] at hx'; cases hx') e
      exact fin D h₃ tk₂ ys (fun b o e => up3 b o (fun q => by rw [q, below hC₁] at e; cases e) (hk₂ b o (fun hm => by rw [List.mem_singleton.mp hm, hI₀] at e; cases e) (kp b o e)))
        (up3 D _ hDC (hk₂ D _ (fun hm => hID (List.mem_singleton.mp hm).symm) hd')) (below hD₁) (hJ _ _ _ _ (tk2.trans tk3) hj')
  exact codeAny_compStart_list (loop _ rfl) (W.self 0 _ _ _ hst₁ (loop _ rfl))
end
end Fz

end

section
set_option maxRecDepth 100000
set_option maxHeartbeats 4000000
set_option linter.unusedVariables false
open PySem PySem.W PyProof.Rows PySem.Calls PyProof.Rows.LCg
namespace Fz
section
variable {prog : Program} {w : World} {A : Around} {E : Value → Shared → Prop} {s : Shared} {env : Env}
theorem comp_AS {elt iter : Expr} {x y : Str} {px py spos : Pos} {ifs : List Expr} {scope : Scope} {cl : List (Str × Addr)} {pos : Pos} {Q : Flow → Shared → Prop} {J : Nat → List Value → Heap → Prop}
    (hclos : closureFor scope env = pure cl) (hcell : ∀ z ∈ scope.names, z.2 ≠ .cell) (hkind : scope.kind = .function)
    (hnames : ∀ z ∈ scope.names, z.2 = .local → scope.names.lookup z.1 = some .local) (hx : scope.names.lookup x = some .local)
    (hsw : swapsWith (.ListComp elt [⟨.Name x px, iter, ifs, 0⟩] scope pos) (some (.Name y py)) spos.line env = pure true)
    (hy : env.kindOf y = some .local) (hp : (env.scope.kind == .class || (env.scope.kind == .module && env.locals != env.globals)) = false)
    (hJ : ∀ i ys h h', TK h h' → J i ys h → J i ys h')
    (h : wpAny (model prog w) A (eval iter env) (fun xv s₁ => ∃ n P h₀ m₀, Fr h₀ env.locals s₁.heap m₀ ∧ n ≤ sizeLine ∧ SrcOK prog w A s₁ xv n P ∧ J 0 [] s₁.heap ∧ TurnA prog w A env elt ifs x scope cl J s₁ n P ∧
      ∀ D h tk ys, (∀ b o, b ≠ env.locals → s₁.heap.get? b = some o → h.get? b = some o) → Fr h₀ env.locals h (fun z => if z = y then some (.ref D) else m₀ z) → h.get? D = some (lst ys) → s₁.heap.get? D = none → D ≠ env.locals → J n ys h → Q .next { s₁ with heap := h, toks := tk }) E s)
    (hs : ∀ x, foldedSetIterable iter env x = pure x := by intro _; rfl) :
    wpAny (model prog w) A (exec (.Assign [.Name y py] (.ListComp elt [⟨.Name x px, iter, ifs, 0⟩] scope pos) spos) env) Q E s := by
  rw [exec_Assign_Name_used _ _ _ _ hsw]
  refine wpAny_bind (wpAny_standAt (wpAny_bind ?_))
  show wpAny _ A (do let _ ← comprehension (.ListComp elt [⟨.Name x px, iter, ifs, 0⟩] scope pos) scope env _ (newList []) false (eval iter env) (some (assign (.Name y py) env))) _ _ s
  refine wpAny_bind (wpAny_mono (wpAny_comprehension_free (use := some (assign (.Name y py) env)) (Q := fun _ s' => Q .next s') rfl hs hclos hkind hnames
    (wpAny_mono h (fun xv s₁ h₁ => ?_) fun _ _ e => e)) (fun _ s' hq => wpAny_pure (wpAny_pure hq)) fun _ _ e => e)
  obtain ⟨n, P, h₀, m₀, F₀, hsz, ⟨oI, fp, St, W, hfp, hst, hIo, hit⟩, hJ0, turn, fin⟩ := h₁
  refine hit _ _ ?_
  generalize hI : s₁.heap.objs.size = I at W hIo
  have hI₀ : s₁.heap.get? I = none := by
    cases e : s₁.heap.get? I with
    | none => rfl
    | some o => exact absurd (Heap.lt_size e) (by rw [hI]; exact Nat.lt_irrefl _)
  have hI2 : I < (s₁.heap.push oI).objs.size := by rw [Heap.size_push, hI]; exact Nat.lt_succ_self _
  generalize hH1 : s₁.heap.push oI = H1 at hfp hst hI2
  have up1 : ∀ b o, s₁.heap.get? b = some o → H1.get? b = some o := fun b o e => hH1 ▸ Heap.get?_push_of_some _ e
  refine wpAny_newObj_type (wpAny_newFunctionEnv hcell (by intro y hy; simp at hy) (fun h₁ hns₁ hsb₁ => ?_) hkind)
  dsimp only at hns₁ hsb₁ ⊢
  generalize hH2 : H1.push { cls := .type "list", dict := none, data := .seq ([] : List Value).toArray } = H2 at hns₁ hsb₁ ⊢
  have hC : H2.objs.size = H1.objs.size + 1 := by rw [← hH2, Heap.size_push]
  generalize hD : H1.objs.size = D at hC
  generalize hCC : H2.objs.size = C at hC hns₁ hsb₁ ⊢
  have hDC : D ≠ C := by rw [hC]; exact Nat.ne_of_lt (Nat.lt_succ_self _)
  have hID : I ≠ D := by rw [← hD]; exact Nat.ne_of_lt hI2
  have hIC : I ≠ C := by rw [hC, ← hD]; exact Nat.ne_of_lt (Nat.lt_succ_of_lt hI2)
  have old : ∀ b o, H1.get? b = some o → h₁.get? b = some o := fun b o e => hsb₁.extBut b o (by have := Heap.lt_size e; rw [hC, ← hD]; exact Nat.ne_of_lt (Nat.lt_succ_of_lt this)) (Heap.get?_push_of_some _ (hH2 ▸ Heap.get?_push_of_some _ e))
  have hacc : h₁.get? D = some (lst []) := hsb₁.extBut _ _ hDC (Heap.get?_push_of_some _ (hH2 ▸ hD ▸ Heap.get?_push_size _ rfl))
  have hD₁ : H1.get? D = none := by
    cases e : H1.get? D with
    | none => rfl
    | some o => exact absurd (Heap.lt_size e) (by rw [hD]; exact Nat.lt_irrefl _)
  have hC₁ : H1.get? C = none := by
    cases e : H1.get? C with
    | none => rfl
    | some o => have := Heap.lt_size e; rw [hD, hC] at this; exact absurd this (Nat.not_lt.mpr (Nat.le_succ _))
  have below : ∀ {b}, H1.get? b = none → s₁.heap.get? b = none := fun {b} e => by
    cases q : s₁.heap.get? b with
    | none => rfl
    | some o => rw [up1 b o q] at e; cases e
  have hIf : I ∈ fp := W.sub I (List.mem_singleton.mpr rfl)
  have hDf : D ∉ fp := fun hm => by have := hfp _ hm; rw [hD] at this; exact Nat.lt_irrefl _ this
  have hCf : C ∉ fp := fun hm => by have := hfp _ hm; rw [hD, hC] at this; exact absurd this (Nat.not_lt.mpr (Nat.le_succ _))
  have hst₁ : St 0 h₁ := W.frame _ _ _ hst fun b _ o e => old b o e
  have loop : ∀ s₃ : Shared, s₃ = { s₁ with heap := h₁, toks := s₁.toks + ([] : List (Str × Value)).length } →
      codeAny (model prog w) A (.compLoop (.ListComp elt [⟨.Name x px, iter, ifs, 0⟩] scope pos) 0 (.ref I) (.ref D) (compEnvC scope cl C env))
        (compPost (model prog w) A E (some (assign (.Name y py) env)) (fun _ s' => Q .next s') (.ref D) C) s₃ := by
    rintro s₃ rfl
    refine codeAny_compLoop_tests
      (fun k s' => ∃ h' tk i ys m', s' = { s₁ with heap := h', toks := tk } ∧ i ≤ n ∧ k = n + 1 - i ∧ ys.length ≤ i ∧ St i h' ∧ (∀ b o, s₁.heap.get? b = some o → h'.get? b = some o) ∧ h'.Ns C m' ∧ h'.get? D = some (lst ys) ∧ J i ys h') ?_ (n + 1)
      ⟨h₁, _, 0, [], _, rfl, Nat.zero_le _, rfl, Nat.le_refl _, hst₁, fun b o e => old b o (up1 b o e), hns₁, hacc, hJ _ _ _ _ (TK.of fun b o e => old b o (up1 b o e)) hJ0⟩
    rintro k s' ⟨h', tk, i, ys, m', rfl, hi, rfl, hyl, hst', kp, hn', hd', hj'⟩
    by_cases hlt : i < n
    · refine W.item i _ _ _ hlt hst' fun v h₂ tk₂ hPv hst₂ hk₂ => ?_
      have tk2 : TK h' h₂ := fun b o ht e => hk₂ b o (fun hm => by
        rw [List.mem_singleton.mp hm] at e
        obtain ⟨o', e', hc'⟩ := hIo _ _ hst'
        rw [e'] at e; cases e; exact hc' ht.1) e
      have hn₂ : h₂.Ns C m' := hn'.at' fun o e => hk₂ _ o (by simpa using Ne.symm hIC) e
      refine wpAny_assign_Name (wpAny_storeName_local (lookup_relabel_local hx) hn₂ (fun h₃ hn₃ hs₃ => ?_) (by simp [compEnvC, relabel, hkind]))
      have up3 : ∀ b o, b ≠ C → h₂.get? b = some o → h₃.get? b = some o := fun b o hb e => hs₃.extBut b o hb e
      have hst₃ : St (i + 1) h₃ := W.frame _ _ _ hst₂ fun b hb o e => up3 b o (fun q => hCf (q ▸ hb)) e
      have tk3 : TK h₂ h₃ := fun b o ht e => up3 b o (fun q => by
        obtain ⟨oC, es, ep, eC, hdC, _⟩ := hn₂
        rw [q, eC] at e; cases e
        obtain ⟨_, xs, k, hx'⟩ := ht
        rw [hdC] at hx'; cases hx') e
      have kp3 : ∀ b o, s₁.heap.get? b = some o → h₃.get? b = some o := fun b o e => up3 b o (fun q => by rw [q, below hC₁] at e; cases e) (hk₂ b o (fun hm => by rw [List.mem_singleton.mp hm, hI₀] at e; cases e) (kp b o e))
      have hd3 : h₃.get? D = some (lst ys) := up3 D _ hDC (hk₂ D _ (fun hm => hID (List.mem_singleton.mp hm).symm) hd')
      obtain ⟨oI3, eI3, cI3⟩ := hIo _ _ hst₃
      have F₃ : Fr s₁.heap C h₃ _ := ⟨hn₃, kp3, by rw [hI, hC, ← hD]; exact Nat.le_of_lt (Nat.lt_succ_of_lt hI2)⟩
      obtain ⟨news, N₃, full⟩ := full_news s₁.heap C h₃
      have mD := full D _ hDC hd3 (below hD₁)
      have mI := full I _ hIC eI3 hI₀
      refine wpAny_mono (turn i v ys h₃ _ C news _ hlt hPv (by simp) F₃ N₃ (hJ _ _ _ _ (tk2.trans tk3) hj')) (fun ok s₄ h₄ => ?_) fun _ _ e => e.elim
      cases ok with
      | true =>
        simp only [if_true] at h₄ ⊢
        refine wpAny_mono h₄ (fun yv s₅ h₅ => ?_) fun _ _ e => e.elim
        obtain ⟨h₅, tk₅, m₅, rfl, F₅, N₅, J₅⟩ := h₅
        have eD := (N₅ _ mD).1
        have eI := (N₅ _ mI).1
        have hst₅ : St (i + 1) h₅ := by
          refine W.frame _ _ _ hst₃ fun b hb o e => ?_
          have hbC : b ≠ C := fun q => hCf (q ▸ hb)
          cases q : s₁.heap.get? b with
          | some o' => have := kp3 b o' q; rw [this] at e; cases e; exact F₅.keep b o q
          | none => exact (N₅ _ (full b o hbC e q)).1
        refine append_at (hsz := by show ys.toArray.size ≤ sizeLine; rw [List.size_toArray]; exact Nat.le_trans (Nat.le_trans hyl hi) hsz) eD fun h₆ hs₆ hD₆ => ?_
        have up6 : ∀ b o, b ≠ D → h₅.get? b = some o → h₆.get? b = some o := fun b o hb e => hs₆.extBut b o hb e
        have tk6 : TK h₅ h₆ := fun b o ht e => up6 b o (fun q => by rw [q, eD] at e; cases e; exact absurd (show Value.type "list" = Value.type "tuple" from ht.1) (show ¬ (Value.type "list" = Value.type "tuple") by decide)) e
        refine ⟨n + 1 - (i + 1), by omega, h₆, tk₅, i + 1, ys ++ [yv], m₅, rfl, hlt, rfl, by rw [List.length_append, List.length_singleton]; exact Nat.succ_le_succ hyl, W.frame _ _ _ hst₅ fun b hb o e => up6 b o (fun q => hDf (q ▸ hb)) e,
          fun b o e => up6 b o (fun q => by rw [q, below hD₁] at e; cases e) (F₅.keep b o e), F₅.ns.at' fun o e => up6 C o (Ne.symm hDC) e, hD₆.trans (congrArg some (lst_snoc ys yv)), hJ _ _ _ _ tk6 J₅⟩
      | false =>
        simp only [Bool.false_eq_true, if_false] at h₄ ⊢
        obtain ⟨h₅, tk₅, m₅, rfl, F₅, N₅, J₅⟩ := h₄
        have hst₅ : St (i + 1) h₅ := by
          refine W.frame _ _ _ hst₃ fun b hb o e => ?_
          have hbC : b ≠ C := fun q => hCf (q ▸ hb)
          cases q : s₁.heap.get? b with
          | some o' => have := kp3 b o' q; rw [this] at e; cases e; exact F₅.keep b o q
          | none => exact (N₅ _ (full b o hbC e q)).1
        exact ⟨n + 1 - (i + 1), by omega, h₅, tk₅, i + 1, ys, m₅, rfl, hlt, rfl, Nat.le_succ_of_le hyl, hst₅, F₅.keep, F₅.ns, (N₅ _ mD).1, J₅⟩
    · obtain rfl : i = n := Nat.le_antisymm hi (Nat.not_lt.mp hlt)
      refine W.done _ _ _ hst' fun h₂ tk₂ hk₂ => ?_
      have tk2 : TK h' h₂ := fun b o ht e => hk₂ b o (fun hm => by
        rw [List.mem_singleton.mp hm] at e
        obtain ⟨o', e', hc'⟩ := hIo _ _ hst'
        rw [e'] at e; cases e; exact hc' ht.1) e
      have hn₂ : h₂.Ns C m' := hn'.at' fun o e => hk₂ _ o (by simpa using Ne.symm hIC) e
      have kpL : ∀ b o, s₁.heap.get? b = some o → h₂.get? b = some o := fun b o e => hk₂ b o (fun hm => by rw [List.mem_singleton.mp hm, hI₀] at e; cases e) (kp b o e)
      have F₂ : Fr h₀ env.locals h₂ m₀ := F₀.keeps kpL
      have hL : ∃ o, s₁.heap.get? env.locals = some o := by obtain ⟨o, _, _, e, _⟩ := F₀.ns; exact ⟨o, e⟩
      have hCL : C ≠ env.locals := fun q => by obtain ⟨o, e⟩ := hL; rw [← q, below hC₁] at e; cases e
      have hDL : D ≠ env.locals := fun q => by obtain ⟨o, e⟩ := hL; rw [← q, below hD₁] at e; cases e
      have dn : ∀ b, s₁.heap.get? b = none → h₀.get? b = none := fun b e => by
        cases q : h₀.get? b with
        | none => rfl
        | some o => rw [F₀.keep b o q] at e; cases e
      have hD₂ : h₂.get? D = some (lst ys) := hk₂ D _ (fun hm => hID (List.mem_singleton.mp hm).symm) hd'
      show wpAny _ A (assign (.Name y py) env (.ref D)) _ _ _
      refine wpAny_assign_Name (wpAny_storeName_local hy F₂.ns (fun h₃ hn₃ hs₃ => ?_) hp)
      have hL₀ : h₀.get? env.locals = none := Heap.get?_none_of_le F₂.above
      have F₃ : Fr h₀ env.locals h₃ (fun z => if z = y then some (.ref D) else m₀ z) := ⟨hn₃, fun b o e => hs₃.extBut b o (fun q => by rw [q, hL₀] at e; cases e) (F₂.keep b o e), F₂.above⟩
      have tk3 : TK h₂ h₃ := fun b o ht e => hs₃.extBut b o (fun q => by
        obtain ⟨oC, es, ep, eC, hdC, _⟩ := F₂.ns
        rw [q, eC] at e; cases e
        obtain ⟨_, xs, k, hx'⟩ := ht
        rw [hdC] at hx'; cases hx') e
      refine ⟨m', hn₂.sameBut hs₃ hCL, fun h₄ hs₄ => ?_⟩
      have up4 : ∀ b o, b ≠ C → h₃.get? b = some o → h₄.get? b = some o := fun b o hb e => hs₄.extBut b o hb e
      have hn₃' : h₃.Ns C m' := hn₂.sameBut hs₃ hCL
      have tk4 : TK h₃ h₄ := fun b o ht e => up4 b o (fun q => by
        obtain ⟨oC, es, ep, eC, hdC, _⟩ := hn₃'
        rw [q, eC] at e; cases e
        obtain ⟨_, xs, k, hx'⟩ := ht
        rw [hdC] at hx'; cases hx') e
      exact fin D h₄ _ ys (fun b o hb e => up4 b o (fun q => by rw [q, below hC₁] at e; cases e) (hs₃.extBut b o hb (kpL b o e)))
        (F₃.change hs₄ hCL (dn _ (below hC₁))) (up4 D _ hDC (hs₃.extBut D _ hDL hD₂)) (below hD₁) hDL (hJ _ _ _ _ ((tk2.trans tk3).trans tk4) hj')
  exact codeAny_compStart_list (loop _ rfl) (W.self 0 _ _ _ hst₁ (loop _ rfl))
end
end Fz

end

section
set_option maxRecDepth 100000
set_option maxHeartbeats 4000000
set_option linter.unusedVariables false
open PySem PySem.W PyProof.Rows PySem.Calls PyProof.Rows.LCg
namespace Fz
noncomputable section
section
variable {prog : Program} {w : World} {A : Around} {s₁ : Shared}
theorem SrcOK.list {l : Addr} {its : Array Value} (hh : A.handled = none) (hl : s₁.heap.IsList l its) : SrcOK prog w A s₁ (.ref l) its.size (fun i v => its[i]? = some v) := by
  have hlt : l < s₁.heap.objs.size := by obtain ⟨_, e, _⟩ := hl; exact Heap.lt_size e
  refine ⟨{ cls := .type "list_iterator", data := .fields #[.ref l, .int 0 0] }, _, _, Walks.list hh s₁.heap.objs.size l (Nat.ne_of_lt hlt) its, fun b hb => ?_, ⟨⟨_, Heap.get?_push_size _ rfl, rfl, rfl⟩, hl.push _⟩, fun i h st => ?_, fun Q E hQ => wpAny_pyIter_list hl hQ⟩
  · rw [Heap.size_push]
    rcases List.mem_cons.mp hb with rfl | hb
    · exact Nat.lt_succ_self _
    · rw [List.mem_singleton.mp hb]; exact Nat.lt_succ_of_lt hlt
  · obtain ⟨o, e, c, _⟩ := st.1
    exact ⟨o, e, by rw [c]; decide⟩
theorem SrcOK.range {r : Addr} {t u v : Tok} {n : Nat} {b : Int} (hh : A.handled = none) (hr : IsRange s₁.heap r 0 b 1 t u v) (hsm : Builtin.Range.small 0 b 1 = true) (hn : Builtin.Range.rangeSize 0 b 1 = ((n : Nat) : Int)) :
    SrcOK prog w A s₁ (.ref r) n (fun i v => ∃ t, v = .int (0 + (i : Int)) t) := by
  refine ⟨{ cls := .type "range_iterator", data := .fields #[rawInt 0, rawInt (Builtin.Range.rangeSize 0 b 1), rawInt 1] }, _, _, range_walks hh 0 n, fun b hb => ?_, ?_, fun i h st => ⟨_, st, fun e => (show ¬ (Value.type "range_iterator" = Value.type "tuple") by decide) e⟩, fun Q E hQ => wpAny_pyIter_range hr hsm hQ⟩
  · rw [List.mem_singleton.mp hb, Heap.size_push]
    exact Nat.lt_succ_self _
  · show IsRangeIter _ _ _ _ _
    rw [hn]
    simpa using Heap.get?_push_size _ rfl
theorem SrcOK.str {x : Str} {t : Tok} (hh : A.handled = none) : SrcOK prog w A s₁ (.str x t) x.cps.size (SignAt x) := by
  have key : ∀ ty : String, ty = strIterType x → (Value.type ty ≠ Value.type "tuple") → Walks prog w A s₁.heap.objs.size [s₁.heap.objs.size] [s₁.heap.objs.size] x.cps.size (SignAt x) (fun i h => h.IsStrIter s₁.heap.objs.size ty x t i) →
      SrcOK prog w A s₁ (.str x t) x.cps.size (SignAt x) := fun ty e ne W => by
    refine ⟨{ cls := .type ty, data := .fields #[.str x t, .int 0 0] }, _, _, W, fun b hb => ?_, ⟨_, Heap.get?_push_size _ rfl, rfl, rfl⟩, fun i h st => ?_, fun Q E hQ => wpAny_pyIter_strU (by rw [← e]; exact hQ)⟩
    · rw [List.mem_singleton.mp hb, Heap.size_push]
      exact Nat.lt_succ_self _
    · obtain ⟨o, e, c, _⟩ := st
      exact ⟨o, e, by rw [c]; exact ne⟩
  cases ha : x.cps.all (· < 128) with
  | true => exact key "str_ascii_iterator" (by unfold strIterType; rw [if_pos ha]) (by decide) (Walks.strAscii hh _ x t)
  | false => exact key "str_iterator" (by unfold strIterType; rw [if_neg (by rw [ha]; decide)]) (by decide) (Walks.strWide hh _ x t)
end
section
variable {M : Model} {A : Around} {E : Value → Shared → Prop} {s : Shared} {h₀ : Heap} {C : Addr} {m mg mb : Str → Option Value} {env : Env} {scope : Scope} {cl : List (Str × Addr)} {K : Frag} {p : Program} {loose : List Str} {x : Str} {pos : Pos} {v : Value} {Q : Value → Shared → Prop}
theorem cname_L (F : Fr h₀ C s.heap m) (hv : m x = some v) (h : Q v s) (hk : (compEnvC scope cl C env).scope.kind = .function) (hx : (compEnvC scope cl C env).kindOf x = some .local) (hd : (x == ("__debug__" : Str)) = false := by decide) :
    wpAny M A (eval (.Name x pos) (compEnvC scope cl C env)) Q E s := wpAny_Name (wpAny_loadName_local hk hx F.ns hv h) hd
theorem cname_K (F : Fr h₀ C s.heap m) (X : K.In h₀) (T : TopRead p loose mg mb h₀) (e : nsIn K mainGlobals x = some (some v)) (h : Q v s) (hg : env.globals = mainGlobals) (hk : (compEnvC scope cl C env).scope.kind = .function) (hx : (compEnvC scope cl C env).kindOf x = some .globalImplicit) (hd : (x == ("__debug__" : Str)) = false := by decide) :
    wpAny M A (eval (.Name x pos) (compEnvC scope cl C env)) Q E s := Name_function_global hk hx (loadGlobal_global (env := compEnvC scope cl C env) (by show s.heap.Ns env.globals mg; rw [hg]; exact T.g.keeps F.keep) (mg_of X T.g e) h) hd
theorem cname_B (F : Fr h₀ C s.heap m) (X : K.In h₀) (T : TopRead p loose mg mb h₀) (e : nsIn K mainGlobals x = some none) (hv : bootBuiltins x = some v) (hn : x ≠ "__name__") (h : Q v s) (hg : env.globals = mainGlobals) (hb : env.builtins = builtinsNs) (hk : (compEnvC scope cl C env).scope.kind = .function) (hx : (compEnvC scope cl C env).kindOf x = some .globalImplicit) (hd : (x == ("__debug__" : Str)) = false := by decide) :
    wpAny M A (eval (.Name x pos) (compEnvC scope cl C env)) Q E s :=
  Name_function_global hk hx (loadGlobal_builtin (env := compEnvC scope cl C env) (by show s.heap.Ns env.globals mg; rw [hg]; exact T.g.keeps F.keep) (mg_none_of X T.g e) (by show s.heap.Ns env.builtins mb; rw [hb]; exact T.b.keeps F.keep) ((T.builtins x hn).trans hv) h) hd
end
/-- a call by its contract -/
theorem con_call {w : World} {n : Nat} {f : Addr} {args : List Value} {H : Heap → Prop} {R : Value → Heap → Prop} {A : Around} {E : Value → Shared → Prop} {s : Shared} {h₀ : Heap} {L : Addr} {m : Str → Option Value} {news : List (Addr × Obj)} {Q : Value → Shared → Prop}
    (c : Con w n f args H R) (ok : Ok A n) (F : Fr h₀ L s.heap m) (N : News h₀ L s.heap news) (G : Gr w h₀) (hH : H s.heap)
    (k : ∀ v h' tk, Fr h₀ L h' m → News h₀ L h' news → (∀ b o, s.heap.get? b = some o → h'.get? b = some o) → R v h' → Q v { s with heap := h', toks := tk }) :
    wpAny (model (PySem.Challenge.rw_pm0045_01).prog w) A (PySem.call (.ref f) args) Q E s :=
  c A s Q E ok (G.keep F.keep) hH fun v h' tk kp r => k v h' tk (F.keeps kp) (N.grown kp) kp r
theorem cname_C {M : Model} {A : Around} {E : Value → Shared → Prop} {s : Shared} {h₀ : Heap} {C c : Addr} {m : Str → Option Value} {env : Env} {scope : Scope} {cl : List (Str × Addr)} {x : Str} {pos : Pos} {v : Value} {Q : Value → Shared → Prop}
    (F : Fr h₀ C s.heap m) (hv : h₀.IsCell c (some v)) (hc : (compEnvC scope cl C env).cells.lookup x = some c) (h : Q v s) (hk : (compEnvC scope cl C env).scope.kind = .function) (hx : (compEnvC scope cl C env).kindOf x = some .cell) (hd : (x == ("__debug__" : Str)) = false := by decide) :
    wpAny M A (eval (.Name x pos) (compEnvC scope cl C env)) Q E s := wpAny_Name (wpAny_loadName_cell hk hx hc (hv.keeps F.keep) h) hd
local macro_rules | `(tactic| walk_at "eval Name") => `(tactic| (k_here; (with_reducible show wpAny _ _ (eval (Expr.Name _ _) (compEnvC _ _ _ _)) _ _ _); k_dflt (first
  | (refine' cname_L ?F ?v ?_ ?a ?b; (case F => k_asm); (case a => rfl); (case b => rfl); (case v => rfl); k_whole)
  | (refine' cname_L ?F ?v ?_ ?a ?b; (case F => k_asm); (case a => rfl); (case b => rfl); (case v => assumption); k_whole)
  | (refine' cname_C ?F ?v ?c ?_ ?a ?b; (case F => k_asm); (case v => assumption); (case c => rfl); (case a => rfl); (case b => rfl); k_whole)
  | (refine' cname_K ?F ?X ?T ?e ?_ ?g ?a ?b; (case F => k_asm); (case X => k_asm); (case T => k_asm); (case g => rfl); (case a => rfl); (case b => rfl); (case e => k_is); k_whole)
  | (refine' cname_B ?F ?X ?T ?e ?v ?n ?_ ?g ?h ?a ?b; (case F => k_asm); (case X => k_asm); (case T => k_asm); (case g => rfl); (case h => rfl); (case a => rfl); (case b => rfl); (case e => k_is); (case v => boot_fast); (case n => decide); k_whole))))
noncomputable def lit13 : { b : List Stmt // b = dB 13 } := by
  refine' ⟨_, _⟩
  rotate_left
  · conv => rhs; whnf
/-- a text out of its signs -/
abbrev tx (l : List Nat) : Str := ⟨l.toArray⟩
/-- the prepared text's parts -/
def parts (l : List Nat) : List Str := (l.filter fun c => !inB1 c).map b3
def prep (l : List Nat) : List Nat := (parts l).flatMap fun x => x.cps.toList
theorem glued_empty (ys : List Str) : Txt.join ⟨#[]⟩ ys = tx (ys.flatMap fun x => x.cps.toList) := by
  unfold Txt.join
  rw [StrLaws.glued_eq_join]
  induction ys with
  | nil => rfl
  | cons y r ih =>
    cases r with
    | nil => 
      show y = tx _
      simp
    | cons z r =>
      show y ++ ⟨#[]⟩ ++ Str.join ⟨#[]⟩ (z :: r) = _
      rw [ih]
      apply Str.ext'
      rw [Str.cps_append, Str.cps_append]
      apply Array.ext'
      simp
theorem strsAre_pairs : ∀ {vs : List Value} {ys : List Str}, StrsAre vs ys → ∃ l : List (Str × Tok), vs = strValues l ∧ l.map (·.1) = ys
  | _, _, .nil => ⟨[], rfl, rfl⟩
  | _, _, .cons y t h => by
    obtain ⟨l, e1, e2⟩ := strsAre_pairs h
    exact ⟨(y, t) :: l, by rw [e1]; rfl, by rw [List.map_cons, e2]⟩
theorem strs_snoc {y : Str} {t : Tok} : ∀ {vs : List Value} {ys : List Str}, StrsAre vs ys → StrsAre (vs ++ [.str y t]) (ys ++ [y])
  | _, _, .nil => .cons y t .nil
  | _, _, .cons z u r => .cons z u (strs_snoc r)
theorem b3_len (c : Nat) : (b3 c).length ≤ 4 := by
  unfold b3 b3At
  cases h : tbl.find? fun q => q.1 == (c : Int) with
  | none =>
    show (low c).length ≤ 4
    have := len_lower (⟨#[c]⟩ : Str)
    have e : (⟨#[c]⟩ : Str).length = 1 := rfl
    rw [e] at this
    exact Nat.le_trans this (by decide)
  | some q =>
    have hm := List.mem_of_find?_eq_some h
    have : (tbl.all fun q => decide (q.2.length ≤ 4)) = true := by decide +kernel
    exact of_decide_eq_true (List.all_eq_true.mp this q hm)
theorem parts_le (l : List Nat) : (parts l).length ≤ l.length := by
  unfold parts
  rw [List.length_map]
  exact List.length_filter_le _ _
theorem parts_w (l : List Nat) : ((parts l).map (·.length)).sum ≤ 4 * l.length := by
  unfold parts
  induction l with
  | nil => exact Nat.zero_le _
  | cons c r ih =>
    rw [List.filter_cons]
    cases inB1 c with
    | true => simp only [Bool.not_true, Bool.false_eq_true, if_false, List.length_cons]; omega
    | false =>
      simp only [Bool.not_false, if_true, List.map_cons, List.sum_cons, List.length_cons]
      have := b3_len c
      omega
theorem c134 {w : World} {l : List Nat} {t : Tok} (hl : l.length ≤ 1000) : Con w 2 134 [.str (tx l) t] any (fun v _ => ∃ u, v = .str (tx (prep l)) u) := by
  intro A s Q E ok G _ h
  have G' := G
  obtain ⟨X, mean, mg, mb, T⟩ := G
  revert X; k_fill; intro X
  refine wpAny_call (call_plain_ret (name := S "_law_prepared") (params := dA 13) (body := dB 13) (scope := dS 13) (pm := .str (S "law_pm0045_01") 2264) (cd := .ref 133) (doc := .none) ok.lim (X 134 _ rfl) (by rfl) T.nolimit (codeRec_of X (by kernel_rfl)) (binds := [(S "text", .str (tx l) t)]) (by rfl) (locs (by rfl)) ?_ (by rfl) (by rfl) (by rfl) (by decide))
  intro h₁ F
  rw [← lit13.2]
  dsimp only [lit13]
  have N : News s.heap s.heap.objs.size h₁ [] := News.nil
  iterate 7 (first | walk1 | (dsimp only; walk1))
  have ok' := ok.deeper (envOf (S "_law_prepared") (dS 13) s.heap.objs.size 134 (Value.ref 133))
  refine comp_A (J := fun i ys _ => StrsAre ys (parts (l.take i))) (by rfl) (by decide) (by rfl) (by decide) (by rfl) (fun _ _ _ _ _ h => h) ?_
  iterate 1 (first | walk1 | (dsimp only; walk1))
  refine ⟨_, _, ?_, SrcOK.str ok'.han, .nil, ?_, ?_⟩
  · show l.toArray.size ≤ sizeLine
    rw [List.size_toArray, sizeLine_eq]; omega
  · intro i v ys h' tk C news m' hi hP hm F' N' hJ
    dsimp only at F' N' ⊢
    have X₁ := X.keeps F.keep
    have T₁ := topRead_of (T.keeps F.keep)
    obtain ⟨c, u, hc, rfl⟩ := hP
    have hlt : i < l.length := by simpa using hi
    have hg : l[i] = c := by
      have : l[i]? = some c := by simpa using hc
      rw [List.getElem?_eq_getElem hlt] at this
      exact Option.some.inj this
    have G₁ : Gr w h₁ := G'.keep F.keep
    have hp : parts (l.take (i + 1)) = parts (l.take i) ++ (if inB1 c then [] else [b3 c]) := by
      unfold parts
      rw [← List.take_append_getElem hlt, List.filter_append, List.map_append, hg]
      cases hb : inB1 c <;> simp [hb]
    clear F N
    refine wpAny_tests_one ?_
    k_steps
    refine con_call c32 ok' F' N' G₁ trivial ?_
    intro v h'' tk'' F'' N'' kp'' hr
    subst hr
    have J' : StrsAre ys (parts (l.take i)) := hJ
    clear hJ F' N'
    cases hb : inB1 c with
    | true =>
      k_steps
      refine ⟨_, _, _, rfl, F'', N'', ?_⟩
      dsimp only
      rw [hp, hb]
      simpa using J'
    | false =>
      k_steps
      refine con_call c78 ok' F'' N'' G₁ trivial ?_
      rintro v h3 tk3 F3 N3 kp3 ⟨u', rfl⟩
      refine ⟨_, _, _, rfl, F3, N3, ?_⟩
      dsimp only
      rw [hp, hb]
      exact strs_snoc J'
  · intro D h' tk ys kp hD _ hJ
    have F₂ := F.keeps kp
    have N₂ := N.grown kp
    clear F N
    have hJ' : StrsAre ys (parts l) := by
      have e : l.take (tx l).cps.size = l := List.take_of_length_le (by simp)
      rw [← e]; exact hJ
    clear hJ
    dsimp only at kp
    k_steps
    refine join_listW (ys := parts l) ⟨_, hD, rfl, _, rfl⟩ (by simpa using hJ') (by decide) ?_ ?_
    · have h1 := parts_w l
      have h2 : (parts l).length ≤ l.length := parts_le l
      omega
    · intro t' k
      refine h _ _ _ F₂.keep ⟨t', ?_⟩
      rw [show (Str.ofString "") = ⟨#[]⟩ from rfl, glued_empty]
      rfl
end
end Fz

end

section
set_option maxRecDepth 100000
set_option maxHeartbeats 4000000
set_option linter.unusedVariables false
open PySem PySem.W PyProof.Rows PySem.Calls PyProof.Rows.LCg
namespace Fz
noncomputable section
noncomputable def lit8 : { b : List Stmt // b = dB 8 } := by
  refine' ⟨_, _⟩
  rotate_left
  · conv => rhs; whnf
/-- the reply's name, its quotation marks halved, up to a lone mark -/
def pf : List Nat → List Nat
  | [] => []
  | [c] => if c = 34 then [] else [c]
  | c :: e :: r => if c = 34 then (if e = 34 then 34 :: pf r else []) else c :: pf (e :: r)
theorem tx_app (a b : List Nat) : tx a ++ tx b = tx (a ++ b) := by
  apply Str.ext'
  rw [Str.cps_append]
  simp
theorem pf_nil : pf [] = [] := rfl
theorem pf_stop1 : pf [34] = [] := rfl
theorem pf_stop2 {c : Nat} {r : List Nat} (h : c ≠ 34) : pf (34 :: c :: r) = [] := by
  rw [pf, if_pos rfl, if_neg h]
theorem pf_two {r : List Nat} : pf (34 :: 34 :: r) = 34 :: pf r := by
  rw [pf, if_pos rfl, if_pos rfl]
theorem pf_one {c : Nat} (h : c ≠ 34) : ∀ {r : List Nat}, pf (c :: r) = c :: pf r
  | [] => by show (if c = 34 then [] else [c]) = [c]; exact if_neg h
  | e :: r => by rw [pf, if_neg h]
theorem cut3 (l : List Nat) : Txt.slice (tx (50 :: 53 :: 55 :: 32 :: 34 :: l)) none (some 3) = tx [50, 53, 55] := by
  rw [eq_of_beq (slice_closes_toL (x := tx (50 :: 53 :: 55 :: 32 :: 34 :: l)) (j := 3) (by decide) (by show (3 : Int) ≤ ((tx (50 :: 53 :: 55 :: 32 :: 34 :: l)).cps.size : Int); simp; omega))]
  rfl
theorem cut5 (l : List Nat) : Txt.slice (tx (50 :: 53 :: 55 :: 32 :: 34 :: l)) (some 3) (some 5) = tx [32, 34] := by
  rw [eq_of_beq (slice_closesL (x := tx (50 :: 53 :: 55 :: 32 :: 34 :: l)) (i := 3) (j := 5) (by decide) (by decide) (by show (5 : Int) ≤ ((tx (50 :: 53 :: 55 :: 32 :: 34 :: l)).cps.size : Int); simp; omega))]
  rfl
/-- where the reading stands: what is read, what is to be read, what is made -/
structure PS where
  (pre r d : List Nat) (ti td : Tok)
theorem item_here {pre r L : List Nat} {c : Nat} (e : pre ++ c :: r = L) : Txt.item (tx L) (pre.length : Int) = tx [c] :=
  item_meets (Int.natCast_nonneg _) (by subst e; simp)
theorem item_next {pre r L : List Nat} {c d : Nat} (e : pre ++ c :: d :: r = L) : Txt.item (tx L) ((pre.length : Int) + 1) = tx [d] :=
  item_meets (by omega) (by subst e; show (pre ++ c :: d :: r).toArray[((pre.length : Int) + 1).toNat]? = _; rw [show ((pre.length : Int) + 1).toNat = pre.length + 1 by omega]; simp)
theorem is34 {c : Nat} : (tx [c] == Str.ofString "\"") = decide (c = 34) := by
  by_cases h : c = 34
  · subst h; rfl
  · rw [decide_eq_false h]
    refine beq_eq_false_iff_ne.mpr fun q => h ?_
    have : (tx [c]).cps.toList = [34] := by rw [q]; rfl
    simpa using this
theorem c110 {w : World} {l : List Nat} {t : Tok} (hl : l.length ≤ 4000) : Con w 1 110 [.str (tx (50 :: 53 :: 55 :: 32 :: 34 :: l)) t] any (fun v _ => ∃ u, v = .str (tx (pf l)) u) := by
  intro A s Q E ok G _ h
  have G' := G
  obtain ⟨X, mean, mg, mb, T⟩ := G
  revert X; k_fill; intro X
  refine wpAny_call (call_plain_ret (name := S "parse257") (params := dA 8) (body := dB 8) (scope := dS 8) (pm := .str (S "cpy313.ftplib") 2215) (cd := .ref 109) (doc := .none) ok.lim (X 110 _ rfl) (by rfl) T.nolimit (codeRec_of X (by kernel_rfl)) (binds := [(S "resp", .str (tx (50 :: 53 :: 55 :: 32 :: 34 :: l)) t)]) (by rfl) (locs (by rfl)) ?_ (by rfl) (by rfl) (by rfl) (by decide))
  intro h₁ F
  rw [← lit8.2]
  dsimp only [lit8]
  have N : News s.heap s.heap.objs.size h₁ [] := News.nil
  k_steps
  · exfalso
    rename (_ != _) = true => hq
    rw [cut3] at hq
    revert hq
    decide
  · exfalso
    rename (_ != _) = true => hq
    rw [cut5] at hq
    revert hq
    decide
  have hz : (tx (50 :: 53 :: 55 :: 32 :: 34 :: l)).length = l.length + 5 := by show (tx (50 :: 53 :: 55 :: 32 :: 34 :: l)).cps.size = _; simp
  refine len_str (by rw [hz]; omega) ?_
  rw [hz]
  iterate 2 (first | walk1 | (dsimp only; walk1))
  rename Fr _ _ _ _ => F₁
  rename News _ _ _ _ => N₁
  dsimp only
  refine wpAny_execs_cons ?_
  refine' ksw_while (fun _ : PS => []) (fun c => [(S "i", .int (c.pre.length : Int) c.ti), (S "dirname", .str (tx c.d) c.td)]) (fun _ => True) [S "c"]
    (fun c => c.pre ++ c.r = 50 :: 53 :: 55 :: 32 :: 34 :: l ∧ c.d ++ pf c.r = pf l ∧ c.d.length ≤ c.pre.length) (fun c => c.r.length) ⟨[50, 53, 55, 32, 34], l, [], _, _⟩ ?F ?N trivial ?hk ⟨rfl, rfl, Nat.zero_le _⟩ ?turn ?hE
  case F => exact F₁
  case N => exact N₁
  case hE => passes_own
  case hk =>
    intro p hp
    rcases List.mem_cons.mp hp with rfl | hp
    · rfl
    · rw [List.mem_singleton.mp hp]; rfl
  case turn =>
    clear F₁ N₁
    rintro ⟨pre, r, d, ti, td⟩ u h' tk _ ⟨e1, e2, e3⟩ F N
    dsimp only at e1 e2 e3 F N ⊢
    have hpl : pre.length + r.length = l.length + 5 := by
      have := congrArg List.length e1
      simpa using this
    k_steps
    · rename (_ == _) = true => q1
      rename (_ : Int) ≤ _ => q2
      rename (_ : Int) < _ => q3
      cases r with
      | nil => exfalso; simp only [List.length_nil] at hpl; omega
      | cons c r =>
        rw [item_here e1, is34] at q1
        obtain rfl := of_decide_eq_true q1
        simp only [List.length_cons] at hpl
        cases r with
        | cons _ _ => exfalso; simp only [List.length_cons] at hpl; omega
        | nil =>
          rw [pf_stop1, List.append_nil] at e2
          exact h _ _ _ (Fr.keep (by assumption)) ⟨td, by rw [e2]⟩
    · rename (_ == _) = true => q1
      rename (_ != _) = true => q2
      rename (_ : Int) < _ => q3
      rename ¬ ((_ : Int) ≤ _) => q4
      cases r with
      | nil => exfalso; simp only [List.length_nil] at hpl; omega
      | cons c r =>
        rw [item_here e1, is34] at q1
        obtain rfl := of_decide_eq_true q1
        simp only [List.length_cons] at hpl
        cases r with
        | nil => exfalso; simp only [List.length_nil] at hpl; omega
        | cons c r =>
          rw [item_next e1, bne, is34] at q2
          have hc : c ≠ 34 := by simpa using q2
          rw [pf_stop2 hc, List.append_nil] at e2
          exact h _ _ _ (Fr.keep (by assumption)) ⟨td, by rw [e2]⟩
    · rename (_ == _) = true => q1
      rename (_ != _) = false => q2
      rename (_ : Int) < _ => q3
      rename ¬ ((_ : Int) ≤ _) => q4
      cases r with
      | nil => exfalso; simp only [List.length_nil] at hpl; omega
      | cons c r =>
        rw [item_here e1, is34] at q1
        obtain rfl := of_decide_eq_true q1
        simp only [List.length_cons] at hpl
        cases r with
        | nil => exfalso; simp only [List.length_nil] at hpl; omega
        | cons c r =>
          rw [item_next e1, bne, is34] at q2
          have hc : c = 34 := by simpa using q2
          subst hc
          rw [pf_two] at e2
          rw [item_here e1]
          dsimp only
          refine SB.add (fun t' c' => ?_) (by show d.toArray.size + 1 ≤ sizeLine; rw [List.size_toArray, sizeLine_eq]; omega)
          k_steps
          rename Fr _ _ _ _ => F9
          rename News _ _ _ _ => N9
          refine' ksw_end ⟨pre ++ [34, 34], r, d ++ [34], ?ti, ?td⟩ F9 N9 (fun p hp => nomatch hp) trivial ?hk ?hr ⟨by rw [List.append_assoc]; exact e1, by rw [List.append_assoc]; exact e2, by simp only [List.length_append, List.length_cons, List.length_nil]; omega⟩ (by simp only [List.length_cons]; omega)
          case hk =>
            intro p hp
            rcases List.mem_cons.mp hp with rfl | hp
            · exact congrArg (fun z => some (Value.int z _)) (show (pre.length : Int) + 1 + 1 = ((pre ++ [34, 34]).length : Int) by simp only [List.length_append, List.length_cons, List.length_nil]; omega)
            · rw [List.mem_singleton.mp hp]
              exact congrArg (fun z => some (Value.str z _)) (tx_app d [34])
          case hr =>
            intro z h2 h3
            have z1 : z ≠ Str.ofString "i" := h2 _ (.head _)
            have z2 : z ≠ Str.ofString "dirname" := h2 _ (.tail _ (.head _))
            have z3 : z ≠ Str.ofString "c" := by rintro rfl; exact absurd h3 (by decide)
            have h3' : [S "c"].contains z = false := h3
            simp only [kstB, if_neg z1, if_neg z2, if_neg z3, h3', Bool.false_eq_true, if_false, show S "i" = Str.ofString "i" from rfl, show S "dirname" = Str.ofString "dirname" from rfl]
    · rename (_ == _) = false => q1
      rename (_ : Int) < _ => q3
      cases r with
      | nil => exfalso; simp only [List.length_nil] at hpl; omega
      | cons c r =>
        rw [item_here e1, is34] at q1
        have hc : c ≠ 34 := of_decide_eq_false q1
        rw [pf_one hc] at e2
        rw [item_here e1]
        simp only [List.length_cons] at hpl
        dsimp only
        refine SB.add (fun t' c' => ?_) (by show d.toArray.size + 1 ≤ sizeLine; rw [List.size_toArray, sizeLine_eq]; omega)
        k_steps
        rename Fr _ _ _ _ => F9
        rename News _ _ _ _ => N9
        refine' ksw_end ⟨pre ++ [c], r, d ++ [c], ?ti2, ?td2⟩ F9 N9 (fun p hp => nomatch hp) trivial ?hk2 ?hr2 ⟨by rw [List.append_assoc]; exact e1, by rw [List.append_assoc]; exact e2, by simp only [List.length_append, List.length_cons, List.length_nil]; omega⟩ (by simp only [List.length_cons]; omega)
        case hk2 =>
          intro p hp
          rcases List.mem_cons.mp hp with rfl | hp
          · exact congrArg (fun z => some (Value.int z _)) (show (pre.length : Int) + 1 = ((pre ++ [c]).length : Int) by simp only [List.length_append, List.length_cons, List.length_nil]; omega)
          · rw [List.mem_singleton.mp hp]
            exact congrArg (fun z => some (Value.str z _)) (tx_app d [c])
        case hr2 =>
          intro z h2 h3
          have z1 : z ≠ Str.ofString "i" := h2 _ (.head _)
          have z2 : z ≠ Str.ofString "dirname" := h2 _ (.tail _ (.head _))
          have z3 : z ≠ Str.ofString "c" := by rintro rfl; exact absurd h3 (by decide)
          have h3' : [S "c"].contains z = false := h3
          simp only [kstB, if_neg z1, if_neg z2, if_neg z3, h3', Bool.false_eq_true, if_false, show S "i" = Str.ofString "i" from rfl, show S "dirname" = Str.ofString "dirname" from rfl]
    · rename ¬ ((_ : Int) < _) => q3
      cases r with
      | cons c r => exfalso; simp only [List.length_cons] at hpl; omega
      | nil =>
        rw [pf_nil, List.append_nil] at e2
        exact h _ _ _ (Fr.keep (by assumption)) ⟨td, by rw [e2]⟩
end
end Fz

end

section
set_option maxRecDepth 100000
set_option maxHeartbeats 4000000
set_option linter.unusedVariables false
open PySem PySem.W PyProof.Rows PySem.Calls PyProof.Rows.LCg
namespace Fz
noncomputable section
noncomputable def lit10 : { b : List Stmt // b = dB 10 } := by
  refine' ⟨_, _⟩
  rotate_left
  · conv => rhs; whnf
/-- a pair of texts, in the heap -/
def PairAt (h : Heap) (v : Value) (p : List Nat × List Nat) : Prop := ∃ a t u, v = .ref a ∧ IsTup h a #[.str (tx p.1) t, .str (tx p.2) u]
theorem PairAt.keep {h h' : Heap} {v : Value} {p : List Nat × List Nat} (x : PairAt h v p) (k : TK h h') : PairAt h' v p := by
  obtain ⟨a, t, u, e, o, e1, e2, n, e3⟩ := x
  exact ⟨a, t, u, e, o, k a o ⟨e2, _, _, e3⟩ e1, e2, n, e3⟩
/-- values that stand for pairs -/
inductive Pairs (h : Heap) : List Value → List (List Nat × List Nat) → Prop
  | nil : Pairs h [] []
  | cons {v p vs ps} : PairAt h v p → Pairs h vs ps → Pairs h (v :: vs) (p :: ps)
theorem Pairs.keep {h h' : Heap} (k : TK h h') : ∀ {vs ps}, Pairs h vs ps → Pairs h' vs ps
  | _, _, .nil => .nil
  | _, _, .cons x r => .cons (x.keep k) (r.keep k)
theorem Pairs.append {h : Heap} : ∀ {vs ps us qs}, Pairs h vs ps → Pairs h us qs → Pairs h (vs ++ us) (ps ++ qs)
  | _, _, _, _, .nil, y => y
  | _, _, _, _, .cons x r, y => .cons x (r.append y)
theorem Pairs.length {h : Heap} : ∀ {vs ps}, Pairs h vs ps → vs.length = ps.length
  | _, _, .nil => rfl
  | _, _, .cons _ r => congrArg (· + 1) r.length
theorem Pairs.get {h : Heap} : ∀ {vs ps} {i : Nat} {v : Value}, Pairs h vs ps → vs[i]? = some v → ∃ p, ps[i]? = some p ∧ PairAt h v p
  | _, _, 0, _, .cons x _, e => ⟨_, rfl, by cases e; exact x⟩
  | _, _, i + 1, _, .cons _ r, e => r.get (i := i) (by simpa using e)
/-- a row of pairs, in the heap -/
def RowAt (h : Heap) (v : Value) (l : List (List Nat × List Nat)) : Prop := ∃ D vs, v = .ref D ∧ h.IsList D vs.toArray ∧ Pairs h vs l
theorem RowAt.keep {h h' : Heap} {v : Value} {l : List (List Nat × List Nat)} (x : RowAt h v l) (k : ∀ b o, h.get? b = some o → h'.get? b = some o) : RowAt h' v l := by
  obtain ⟨D, vs, e, ⟨o, e1, e2⟩, r⟩ := x
  exact ⟨D, vs, e, ⟨o, k _ _ e1, e2⟩, r.keep (TK.of k)⟩
/-- the twelve signs for two letters -/
def twos : List (List Nat × List Nat) := [([223], [115, 115]), ([8360], [114, 115]), ([8470], [110, 111]), ([8480], [115, 109]), ([8482], [116, 109]), ([13184], [112, 97]), ([13256], [100, 98]), ([13261], [107, 107]), ([64256], [102, 102]), ([64257], [102, 105]), ([64262], [115, 116]), ([7834], [97, 702])]
def dq (l : List Nat) : List Nat := l.flatMap fun c => if c = 34 then [34, 34] else [c]
def pieceOK (p : List Nat × List Nat) : Bool := prep p.1 == dq p.2 && decide (p.1.length ≤ 3) && decide (p.2.length ≤ 5) && (p.2.length != 2 || p.1.length == 1)
def lasts : List (List Nat × List Nat) := [([8481], [116, 101, 108]), ([13202], [109, 104, 122]), ([13273], [112, 112, 109]), ([64259], [102, 102, 105]), ([912], [953, 776, 769]), ([13254], [99, 8725, 107, 103])]
def besides : List Nat := [172, 174, 846, 848, 6149, 6151, 6154, 6158, 8202, 8206, 8287, 8289, 65023, 65040, 65278, 65280]
def starts : List Nat := [65, 119808, 119860, 119912, 120016, 120172, 120224, 120276, 120328, 120380, 120432]
/-- the table's entry, looked up by whole numbers -/
def fnd (c : Nat) : List (Int × Str) → Option Str
  | [] => none
  | (.ofNat k, x) :: r => match Nat.beq k c with
    | true => some x
    | false => fnd c r
  | (.negSucc _, _) :: r => fnd c r
theorem fnd_eq (c : Nat) : ∀ l : List (Int × Str), (l.find? fun q => q.1 == (c : Int)).map (·.2) = fnd c l
  | [] => rfl
  | (.ofNat k, x) :: r => by
    have ih := fnd_eq c r
    rw [List.find?_cons]
    show _ = (match Nat.beq k c with | true => some x | false => fnd c r)
    cases h : Nat.beq k c with
    | true =>
      have : ((Int.ofNat k) == (c : Int)) = true := by rw [Nat.eq_of_beq_eq_true h]; exact beq_self_eq_true _
      simp only [this]
      rfl
    | false =>
      have : ((Int.ofNat k) == (c : Int)) = false := by
        rw [beq_eq_false_iff_ne]
        intro q
        have : k = c := Int.ofNat.inj q
        exact Nat.ne_of_beq_eq_false h this
      simp only [this]
      exact ih
  | (.negSucc k, x) :: r => by
    have ih := fnd_eq c r
    rw [List.find?_cons]
    have : ((Int.negSucc k) == (c : Int)) = false := by
      rw [beq_eq_false_iff_ne]
      intro q
      cases q
    simp only [this]
    exact ih
def b3' (c : Nat) : Str := match fnd c tbl with | some x => x | none => low c
theorem b3_is (c : Nat) : b3 c = b3' c := by
  unfold b3 b3At b3'
  rw [fnd_eq]
  cases fnd c tbl <;> rfl
def prep' (l : List Nat) : List Nat := ((l.filter fun c => !inB1 c).map b3').flatMap fun x => x.cps.toList
def pieceOK' (p : List Nat × List Nat) : Bool := prep' p.1 == dq p.2 && decide (p.1.length ≤ 3) && decide (p.2.length ≤ 5) && (p.2.length != 2 || p.1.length == 1)
theorem ok_is : pieceOK = pieceOK' := by
  funext p
  unfold pieceOK pieceOK' prep prep' parts
  rw [show b3 = b3' from funext b3_is]
theorem ok_twos : (twos.all pieceOK) = true := by rw [ok_is]; decide +kernel
theorem ok_lasts : (lasts.all pieceOK) = true := by rw [ok_is]; decide +kernel
theorem ok_mark : pieceOK ([34, 34], [34]) = true := by rw [ok_is]; decide +kernel
theorem ok_unseen1 : (b1l.all fun c => pieceOK ([34, c, 34], [34])) = true := by rw [ok_is]; decide +kernel
theorem ok_unseen2 : (b1l.all fun c => pieceOK ([c], [])) = true := by rw [ok_is]; decide +kernel
theorem ok_beside : (besides.all fun c => pieceOK ([c], [c])) = true := by rw [ok_is]; decide +kernel
theorem ok_letters : (starts.all fun c => (List.range 26).all fun i => pieceOK ([c + i], [97 + i])) = true := by rw [ok_is]; decide +kernel
theorem PairAt.of {h : Heap} {a : Addr} {t u : Tok} {x y : Str} {p : List Nat × List Nat} {o : Obj} (e : h.get? a = some o) (he : o = { cls := .type "tuple", dict := none, data := .seq #[.str x t, .str y u] 0 }) (h1 : x = tx p.1) (h2 : y = tx p.2) : PairAt h (.ref a) p := by
  subst h1 h2
  exact ⟨a, t, u, rfl, o, e, by rw [he], 0, by rw [he]⟩
theorem pairs_cons {h₀ h : Heap} {L : Addr} {a : Addr} {o : Obj} {news : List (Addr × Obj)} {t u : Tok} {x y : Str} {p : List Nat × List Nat} {vs ps} (n : News h₀ L h news) (m : (a, o) ∈ news) (e : o = { cls := .type "tuple", dict := none, data := .seq #[.str x t, .str y u] 0 }) (h1 : x = tx p.1) (h2 : y = tx p.2) (r : Pairs h vs ps) : Pairs h (.ref a :: vs) (p :: ps) := .cons (.of (n _ m).1 e h1 h2) r
theorem pair_of {h₀ h : Heap} {L : Addr} {a : Addr} {o : Obj} {news : List (Addr × Obj)} {t u : Tok} {x y : Str} {p : List Nat × List Nat} (n : News h₀ L h news) (m : (a, o) ∈ news) (e : o = { cls := .type "tuple", dict := none, data := .seq #[.str x t, .str y u] 0 }) (h1 : x = tx p.1) (h2 : y = tx p.2) : PairAt h (.ref a) p := .of (n _ m).1 e h1 h2
theorem c117 {w : World} : Con w 1 117 [] any (fun v h => RowAt h v twos) := by
  intro A s Q E ok G _ h
  have G' := G
  obtain ⟨X, mean, mg, mb, T⟩ := G
  revert X; k_fill; intro X
  refine wpAny_call (call_plain_ret (name := S "_law_twos") (params := dA 10) (body := dB 10) (scope := dS 10) (pm := .str (S "law_pm0045_01") 2264) (cd := .ref 116) (doc := .none) ok.lim (X 117 _ rfl) (by rfl) T.nolimit (codeRec_of X (by kernel_rfl)) (binds := []) (by rfl) (locs (by rfl)) ?_ (by rfl) (by rfl) (by rfl) (by decide))
  intro h₁ F
  rw [← lit10.2]
  dsimp only [lit10]
  have N : News s.heap s.heap.objs.size h₁ [] := News.nil
  k_steps
  rename News _ _ _ _ => N'
  rename Fr _ _ _ _ => F'
  refine h _ _ _ F'.keep ?_
  refine ⟨_, _, rfl, N'.isList (by k_mem), ?_⟩
  unfold twos
  repeat' (first | exact Pairs.nil | refine pairs_cons N' (by repeat' (first | exact List.Mem.head _ | apply List.Mem.tail)) rfl (by rfl) (by rfl) ?_)
theorem Pairs.at {h : Heap} {vs ps} {i : Nat} (x : Pairs h vs ps) (hi : i < ps.length) : ∃ v, vs[i]? = some v ∧ PairAt h v ps[i] := by
  have hv : i < vs.length := by rw [x.length]; exact hi
  obtain ⟨p, e, q⟩ := x.get (List.getElem?_eq_getElem hv)
  refine ⟨vs[i], List.getElem?_eq_getElem hv, ?_⟩
  rw [List.getElem?_eq_getElem hi] at e
  cases e
  exact q
/-- what a piece of the ring is: prepared, it is what it means, its marks doubled -/
def Piece (v : Value) (h : Heap) : Prop := ∃ p, PairAt h v p ∧ pieceOK p = true
theorem fm {a b : Int} {n : Nat} (hb : b = (n : Int)) (h : 0 < n) : ∃ i : Nat, a.fmod b = (i : Int) ∧ i < n := by
  subst hb
  have h1 := Int.fmod_nonneg_of_pos a (show (0 : Int) < (n : Int) by omega)
  have h2 := Int.fmod_lt_of_pos a (show (0 : Int) < (n : Int) by omega)
  exact ⟨(a.fmod n).toNat, by omega, by omega⟩
noncomputable def lit11 : { b : List Stmt // b = dB 11 } := by
  refine' ⟨_, _⟩
  rotate_left
  · conv => rhs; whnf
theorem c124 {w : World} {x : Int} {t : Tok} (h0 : 0 ≤ x) (hx : x < 1000000000) : Con w 2 124 [.int x t] any Piece := by
  intro A s Q E ok G _ h
  have G' := G
  obtain ⟨X, mean, mg, mb, T⟩ := G
  revert X; k_fill; intro X
  refine wpAny_call (call_plain_ret (name := S "_law_piece") (params := dA 11) (body := dB 11) (scope := dS 11) (pm := .str (S "law_pm0045_01") 2264) (cd := .ref 123) (doc := .none) ok.lim (X 124 _ rfl) (by rfl) T.nolimit (codeRec_of X (by kernel_rfl)) (binds := [(S "x", .int x t)]) (by rfl) (locs (by rfl)) ?_ (by rfl) (by rfl) (by rfl) (by decide))
  intro h₁ F
  rw [← lit11.2]
  dsimp only [lit11]
  have N : News s.heap s.heap.objs.size h₁ [] := News.nil
  have ok' := ok.deeper (envOf (S "_law_piece") (dS 11) s.heap.objs.size 124 (Value.ref 123))
  k_steps
  rename IsRange _ _ _ _ _ _ _ _ => R₁
  rename Fr _ _ _ _ => F₁
  rename News _ _ _ _ => N₁
  refine kll_range ok'.han F₁ N₁ R₁ (by decide) (by rfl : Builtin.Range.rangeSize 65024 65040 1 = ((16 : Nat) : Int)) (by decide) ?_
  intro D us c' h' tk F₂ N₂ l2 hI
  clear F₁ N₁ R₁
  k_steps
  obtain ⟨c, hc, e⟩ : ∃ c : Nat, c ∈ b1l ∧ (173 :: 847 :: 6150 :: 6155 :: 6156 :: 6157 :: 8203 :: 8204 :: 8205 :: 8288 :: 65279 :: rangeKs 65024 16).getD ((x.fdiv 8).fmod 27).toNat 0 = ((c : Nat) : Int) := by
    have all : ∀ i < 27, ∃ c ∈ b1l, (173 :: 847 :: 6150 :: 6155 :: 6156 :: 6157 :: 8203 :: 8204 :: 8205 :: 8288 :: 65279 :: rangeKs 65024 16).getD i 0 = ((c : Nat) : Int) := by decide +kernel
    obtain ⟨c, hc, e⟩ := all ((x.fdiv 8).fmod 27).toNat (by have := Int.fmod_lt_of_pos (x.fdiv 8) (show (0 : Int) < 27 by decide); omega)
    exact ⟨c, hc, e⟩
  rw [e]
  have hc' : c ≤ 1114111 := by
    have : ∀ c ∈ b1l, c ≤ 1114111 := by decide
    exact this c hc
  refine chr_of_range (by omega) (by omega) ?_
  rw [Int.toNat_natCast]
  clear e
  k_steps
  · rename Fr _ _ _ _ => F'
    rename News _ _ _ _ => N'
    exact h _ _ _ F'.keep ⟨([34, 34], [34]), .of (N' _ (.head _)).1 rfl rfl rfl, ok_mark⟩
  · rename Fr _ _ _ _ => F'
    rename News _ _ _ _ => N'
    exact h _ _ _ F'.keep ⟨([34, c, 34], [34]), .of (N' _ (.head _)).1 rfl (by show tx [34] ++ tx [c] ++ tx [34] = _; rw [tx_app, tx_app]; rfl) rfl, List.all_eq_true.mp ok_unseen1 c hc⟩
  · rename Fr _ _ _ _ => F'
    rename News _ _ _ _ => N'
    exact h _ _ _ F'.keep ⟨([c], []), .of (N' _ (.head _)).1 rfl rfl rfl, List.all_eq_true.mp ok_unseen2 c hc⟩
  · obtain ⟨i, e, hi⟩ := fm (a := x.fdiv 8) (b := 16) (n := 16) rfl (by decide)
    obtain ⟨d, hd, e'⟩ : ∃ d : Nat, d ∈ besides ∧ [172, 174, 846, 848, 6149, 6151, 6154, 6158, 8202, 8206, 8287, 8289, 65023, 65040, 65278, 65280].getD ((x.fdiv 8).fmod 16).toNat 0 = ((d : Nat) : Int) := by
      rw [e, Int.toNat_natCast]
      have all : ∀ i < 16, ∃ d ∈ besides, [172, 174, 846, 848, 6149, 6151, 6154, 6158, 8202, 8206, 8287, 8289, 65023, 65040, 65278, 65280].getD i 0 = ((d : Nat) : Int) := by decide +kernel
      obtain ⟨d, q⟩ := all i hi
      exact ⟨d, q⟩
    rw [e']
    have hd' : d ≤ 1114111 := (show ∀ d ∈ besides, d ≤ 1114111 by decide) d hd
    refine chr_of_range (by omega) (by omega) ?_
    rw [Int.toNat_natCast]
    clear e'
    k_steps
    rename Fr _ _ _ _ => F'
    rename News _ _ _ _ => N'
    exact h _ _ _ F'.keep ⟨([d], [d]), .of (N' _ (.head _)).1 rfl rfl rfl, List.all_eq_true.mp ok_beside d hd⟩
  · obtain ⟨i, e, hi⟩ := fm (a := x.fdiv 8) (b := 26) (n := 26) rfl (by decide)
    obtain ⟨j, ej, hj⟩ := fm (a := (x.fdiv 8).fdiv 26) (b := 11) (n := 11) rfl (by decide)
    obtain ⟨d, hd, e'⟩ : ∃ d : Nat, d ∈ starts ∧ [65, 119808, 119860, 119912, 120016, 120172, 120224, 120276, 120328, 120380, 120432].getD (((x.fdiv 8).fdiv 26).fmod 11).toNat 0 = ((d : Nat) : Int) := by
      rw [ej, Int.toNat_natCast]
      have all : ∀ i < 11, ∃ d ∈ starts, [65, 119808, 119860, 119912, 120016, 120172, 120224, 120276, 120328, 120380, 120432].getD i 0 = ((d : Nat) : Int) := by decide +kernel
      obtain ⟨d, q⟩ := all j hj
      exact ⟨d, q⟩
    have hd' : d ≤ 1000000 := (show ∀ d ∈ starts, d ≤ 1000000 by decide) d hd
    rw [e', e, ← Int.natCast_add]
    refine chr_of_range (by omega) (by omega) ?_
    rw [Int.toNat_natCast]
    clear e'
    k_steps
    rename Fr _ _ _ _ => F'
    rename News _ _ _ _ => N'
    refine h _ _ _ F'.keep ⟨([d + i], [97 + i]), pair_of N' (.head _) rfl rfl (by rw [e, show (97 : Int) + (i : Int) = ((97 + i : Nat) : Int) by omega]; rfl), ?_⟩
    exact List.all_eq_true.mp (List.all_eq_true.mp ok_letters d hd) i (List.mem_range.mpr hi)
  · rename Fr _ _ _ _ => F'
    rename News _ _ _ _ => N'
    refine con_call c117 ok' F' N' G' trivial ?_
    rintro v h2 tk2 F2 N2 kp2 ⟨D2, vs2, rfl, hl2, hp2⟩
    k_steps
    obtain ⟨i, e, hi⟩ := fm (a := x.fdiv 8) (b := 12) (n := 12) rfl (by decide)
    rw [e]
    obtain ⟨v3, e3, q3⟩ := hp2.at (i := i) (by show i < 12; exact hi)
    refine item_listL hl2 (Int.natCast_nonneg _) (by omega) (by rw [Int.toNat_natCast]; exact e3) ?_
    exact h _ _ _ F2.keep ⟨_, q3, List.all_eq_true.mp ok_twos _ (List.getElem_mem _)⟩
  all_goals
    rename Fr _ _ _ _ => F'
    rename News _ _ _ _ => N'
  · exact h _ _ _ F'.keep ⟨([8481], [116, 101, 108]), pair_of N' (by repeat' (first | exact List.Mem.head _ | apply List.Mem.tail)) rfl (by rfl) (by rfl), by decide +kernel⟩
  · exact h _ _ _ F'.keep ⟨([13202], [109, 104, 122]), pair_of N' (by repeat' (first | exact List.Mem.head _ | apply List.Mem.tail)) rfl (by rfl) (by rfl), by decide +kernel⟩
  · exact h _ _ _ F'.keep ⟨([13273], [112, 112, 109]), pair_of N' (by repeat' (first | exact List.Mem.head _ | apply List.Mem.tail)) rfl (by rfl) (by rfl), by decide +kernel⟩
  · exact h _ _ _ F'.keep ⟨([64259], [102, 102, 105]), pair_of N' (by repeat' (first | exact List.Mem.head _ | apply List.Mem.tail)) rfl (by rfl) (by rfl), by decide +kernel⟩
  · exact h _ _ _ F'.keep ⟨([912], [953, 776, 769]), pair_of N' (by repeat' (first | exact List.Mem.head _ | apply List.Mem.tail)) rfl (by rfl) (by rfl), by decide +kernel⟩
  · exact h _ _ _ F'.keep ⟨([13254], [99, 8725, 107, 103]), pair_of N' (by repeat' (first | exact List.Mem.head _ | apply List.Mem.tail)) rfl (by rfl) (by rfl), by decide +kernel⟩
end
end Fz

end

section
set_option maxRecDepth 100000
set_option maxHeartbeats 4000000
set_option linter.unusedVariables false
open PySem PySem.W PyProof.Rows PySem.Calls PyProof.Rows.LCg
namespace Fz
section
variable {prog : Program} {w : World} {A : Around} {E : Value → Shared → Prop} {s : Shared} {env : Env}
/-- the turns of a comprehension over pairs, in terms of the heap -/
def TurnP (prog : Program) (w : World) (A : Around) (env : Env) (elt : Expr) (x x₂ : Str) (scope : Scope) (cl : List (Str × Addr)) (J : Nat → List Value → Heap → Prop) (s₁ : Shared) (its : Array Value) : Prop :=
  ∀ i T v₁ v₂ ys h tk C news m', i < its.size → its[i]? = some (.ref T) → IsTup s₁.heap T #[v₁, v₂] → m' x = some v₁ → m' x₂ = some v₂ → Fr s₁.heap C h m' → News s₁.heap C h news → J i ys h →
    wpAny (model prog w) A (eval elt (compEnvC scope cl C env)) (fun y => Aft s₁ C news (J (i + 1) (ys ++ [y]))) (fun _ _ => False) { s₁ with heap := h, toks := tk }
theorem comp_P {elt iter : Expr} {x x₂ : Str} {px px₂ tp : Pos} {x1} {scope : Scope} {cl : List (Str × Addr)} {pos : Pos} {Q : Value → Shared → Prop} {J : Nat → List Value → Heap → Prop}
    (hclos : closureFor scope env = pure cl) (hcell : ∀ y ∈ scope.names, y.2 ≠ .cell) (hkind : scope.kind = .function)
    (hnames : ∀ y ∈ scope.names, y.2 = .local → scope.names.lookup y.1 = some .local) (hx : scope.names.lookup x = some .local) (hx₂ : scope.names.lookup x₂ = some .local) (hxx : x ≠ x₂)
    (hJ : ∀ i ys h h', TK h h' → J i ys h → J i ys h') (hh : A.handled = none)
    (h : wpAny (model prog w) A (eval iter env) (fun xv s₁ => ∃ (l : Addr) (its : Array Value), xv = Value.ref l ∧ its.size ≤ sizeLine ∧ s₁.heap.IsList l its ∧ (∀ (i : Nat) (v : Value), its[i]? = some v → ∃ (T : Addr) (v₁ v₂ : Value), v = Value.ref T ∧ IsTup s₁.heap T #[v₁, v₂]) ∧ J 0 [] s₁.heap ∧ TurnP prog w A env elt x x₂ scope cl J s₁ its ∧
      ∀ D h tk ys, (∀ b o, s₁.heap.get? b = some o → h.get? b = some o) → h.get? D = some (lst ys) → s₁.heap.get? D = none → J its.size ys h → Q (.ref D) { s₁ with heap := h, toks := tk }) E s)
    (hs : ∀ x, foldedSetIterable iter env x = pure x := by intro _; rfl) :
    wpAny (model prog w) A (eval (.ListComp elt [⟨.Tuple [.Name x px, .Name x₂ px₂] x1 tp, iter, [], 0⟩] scope pos) env) Q E s := by
  rw [eval_ListComp]
  refine wpAny_comprehension_free (use := none) rfl hs hclos hkind hnames (wpAny_mono h (fun xv s₁ h₁ => ?_) fun _ _ e => e)
  obtain ⟨l, its, rfl, hsz, hl, hT, hJ0, turn, fin⟩ := h₁
  obtain ⟨oI, fp, St, W, hfp, hst, hIo, hLI, hit⟩ : ∃ (oI : Obj) (fp : List Addr) (St : Nat → Heap → Prop), Walks prog w A s₁.heap.objs.size fp [s₁.heap.objs.size] its.size (fun i v => its[i]? = some v) St ∧ (∀ b ∈ fp, b < (s₁.heap.push oI).objs.size) ∧ St 0 (s₁.heap.push oI) ∧
      (∀ i h, St i h → ∃ o', h.get? s₁.heap.objs.size = some o' ∧ o'.cls ≠ .type "tuple") ∧ (∀ i h, St i h → ∃ j, h.IsListIter s₁.heap.objs.size l j) ∧
      ∀ (Q E : Value → Shared → Prop), Q (.ref s₁.heap.objs.size) { s₁ with heap := s₁.heap.push oI } → wpAny (model prog w) A (pyIter (.ref l)) Q E s₁ := by
    have hlt : l < s₁.heap.objs.size := by obtain ⟨_, e, _⟩ := hl; exact Heap.lt_size e
    refine ⟨{ cls := .type "list_iterator", data := .fields #[.ref l, .int 0 0] }, _, _, Walks.list hh s₁.heap.objs.size l (Nat.ne_of_lt hlt) its, fun b hb => ?_, ⟨⟨_, Heap.get?_push_size _ rfl, rfl, rfl⟩, hl.push _⟩, fun i h st => ?_, fun i h st => ⟨_, st.1⟩, fun Q E hQ => wpAny_pyIter_list hl hQ⟩
    · rw [Heap.size_push]
      rcases List.mem_cons.mp hb with rfl | hb
      · exact Nat.lt_succ_self _
      · rw [List.mem_singleton.mp hb]; exact Nat.lt_succ_of_lt hlt
    · obtain ⟨o, e, c, _⟩ := st.1
      exact ⟨o, e, by rw [c]; decide⟩
  refine hit _ _ ?_
  generalize hI : s₁.heap.objs.size = I at W hIo hLI
  have hI₀ : s₁.heap.get? I = none := by
    cases e : s₁.heap.get? I with
    | none => rfl
    | some o => exact absurd (Heap.lt_size e) (by rw [hI]; exact Nat.lt_irrefl _)
  have hI2 : I < (s₁.heap.push oI).objs.size := by rw [Heap.size_push, hI]; exact Nat.lt_succ_self _
  generalize hH1 : s₁.heap.push oI = H1 at hfp hst hI2
  have up1 : ∀ b o, s₁.heap.get? b = some o → H1.get? b = some o := fun b o e => hH1 ▸ Heap.get?_push_of_some _ e
  refine wpAny_newObj_type (wpAny_newFunctionEnv hcell (by intro y hy; simp at hy) (fun h₁ hns₁ hsb₁ => ?_) hkind)
  dsimp only at hns₁ hsb₁ ⊢
  generalize hH2 : H1.push { cls := .type "list", dict := none, data := .seq ([] : List Value).toArray } = H2 at hns₁ hsb₁ ⊢
  have hC : H2.objs.size = H1.objs.size + 1 := by rw [← hH2, Heap.size_push]
  generalize hD : H1.objs.size = D at hC
  generalize hCC : H2.objs.size = C at hC hns₁ hsb₁ ⊢
  have hDC : D ≠ C := by rw [hC]; exact Nat.ne_of_lt (Nat.lt_succ_self _)
  have hID : I ≠ D := by rw [← hD]; exact Nat.ne_of_lt hI2
  have hIC : I ≠ C := by rw [hC, ← hD]; exact Nat.ne_of_lt (Nat.lt_succ_of_lt hI2)
  have old : ∀ b o, H1.get? b = some o → h₁.get? b = some o := fun b o e => hsb₁.extBut b o (by have := Heap.lt_size e; rw [hC, ← hD]; exact Nat.ne_of_lt (Nat.lt_succ_of_lt this)) (Heap.get?_push_of_some _ (hH2 ▸ Heap.get?_push_of_some _ e))
  have hacc : h₁.get? D = some (lst []) := hsb₁.extBut _ _ hDC (Heap.get?_push_of_some _ (hH2 ▸ hD ▸ Heap.get?_push_size _ rfl))
  have hD₁ : H1.get? D = none := by
    cases e : H1.get? D with
    | none => rfl
    | some o => exact absurd (Heap.lt_size e) (by rw [hD]; exact Nat.lt_irrefl _)
  have hC₁ : H1.get? C = none := by
    cases e : H1.get? C with
    | none => rfl
    | some o => have := Heap.lt_size e; rw [hD, hC] at this; exact absurd this (Nat.not_lt.mpr (Nat.le_succ _))
  have below : ∀ {b}, H1.get? b = none → s₁.heap.get? b = none := fun {b} e => by
    cases q : s₁.heap.get? b with
    | none => rfl
    | some o => rw [up1 b o q] at e; cases e
  have hIf : I ∈ fp := W.sub I (List.mem_singleton.mpr rfl)
  have hDf : D ∉ fp := fun hm => by have := hfp _ hm; rw [hD] at this; exact Nat.lt_irrefl _ this
  have hCf : C ∉ fp := fun hm => by have := hfp _ hm; rw [hD, hC] at this; exact absurd this (Nat.not_lt.mpr (Nat.le_succ _))
  have hst₁ : St 0 h₁ := W.frame _ _ _ hst fun b _ o e => old b o e
  have loop : ∀ s₃ : Shared, s₃ = { s₁ with heap := h₁, toks := s₁.toks + ([] : List (Str × Value)).length } →
      codeAny (model prog w) A (.compLoop (.ListComp elt [⟨.Tuple [.Name x px, .Name x₂ px₂] x1 tp, iter, [], 0⟩] scope pos) 0 (.ref I) (.ref D) (compEnvC scope cl C env))
        (compPost (model prog w) A E none Q (.ref D) C) s₃ := by
    rintro s₃ rfl
    refine LCp.codeAny_compLoop_pair
      (fun k s' => ∃ h' tk i ys m', s' = { s₁ with heap := h', toks := tk } ∧ i ≤ its.size ∧ k = its.size + 1 - i ∧ ys.length ≤ i ∧ St i h' ∧ (∀ b o, s₁.heap.get? b = some o → h'.get? b = some o) ∧ h'.Ns C m' ∧ h'.get? D = some (lst ys) ∧ J i ys h') ?_ (its.size + 1)
      ⟨h₁, _, 0, [], _, rfl, Nat.zero_le _, rfl, Nat.le_refl _, hst₁, fun b o e => old b o (up1 b o e), hns₁, hacc, hJ _ _ _ _ (TK.of fun b o e => old b o (up1 b o e)) hJ0⟩
    rintro k s' ⟨h', tk, i, ys, m', rfl, hi, rfl, hyl, hst', kp, hn', hd', hj'⟩
    by_cases hlt : i < its.size
    · refine W.item i _ _ _ hlt hst' fun v h₂ tk₂ hPv hst₂ hk₂ => ?_
      have tk2 : TK h' h₂ := fun b o ht e => hk₂ b o (fun hm => by
        rw [List.mem_singleton.mp hm] at e
        obtain ⟨o', e', hc'⟩ := hIo _ _ hst'
        rw [e'] at e; cases e; exact hc' ht.1) e
      have hn₂ : h₂.Ns C m' := hn'.at' fun o e => hk₂ _ o (by simpa using Ne.symm hIC) e
      obtain ⟨T, v₁, v₂, rfl, hT₁⟩ := hT i v hPv
      have kp2 : ∀ b o, s₁.heap.get? b = some o → h₂.get? b = some o := fun b o e => hk₂ b o (fun hm => by rw [List.mem_singleton.mp hm, hI₀] at e; cases e) (kp b o e)
      have hT₂ : IsTup h₂ T #[v₁, v₂] := by obtain ⟨o, e, r⟩ := hT₁; exact ⟨o, kp2 _ _ e, r⟩
      obtain ⟨jI, hLi⟩ := hLI _ _ hst₂
      refine wpAny_letOwnedTupleGo_listiter hLi ?_
      refine assign_Tuple_tuple hh hT₂ rfl rfl fun h₅ he => ?_
      have he' : ∀ b o, h₂.get? b = some o → h₅.get? b = some o := fun b o e => he b o (Nat.ne_of_lt (Heap.lt_size e)) e
      refine assignInOrder_cons (wpAny_assign_Name (wpAny_storeName_local (lookup_relabel_local hx) (hn₂.at' fun o e => he' _ o e) (fun h₆ hn₆ hs₆ => ?_) (by simp [compEnvC, relabel, hkind])))
      refine assignInOrder_cons (wpAny_assign_Name (wpAny_storeName_local (lookup_relabel_local hx₂) hn₆ (fun h₃ hn₃ hs₃ => ?_) (by simp [compEnvC, relabel, hkind])))
      refine assignInOrder_nil ?_
      have up3 : ∀ b o, b ≠ C → h₂.get? b = some o → h₃.get? b = some o := fun b o hb e => hs₃.extBut b o hb (hs₆.extBut b o hb (he' b o e))
      have hst₃ : St (i + 1) h₃ := W.frame _ _ _ hst₂ fun b hb o e => up3 b o (fun q => hCf (q ▸ hb)) e
      have tk3 : TK h₂ h₃ := fun b o ht e => up3 b o (fun q => by
        obtain ⟨oC, es, ep, eC, hdC, _⟩ := hn₂
        rw [q, eC] at e; cases e
        obtain ⟨_, xs, k, hx'⟩ := ht
        rw [hdC] at hx'; cases hx') e
      have kp3 : ∀ b o, s₁.heap.get? b = some o → h₃.get? b = some o := fun b o e => up3 b o (fun q => by rw [q, below hC₁] at e; cases e) (hk₂ b o (fun hm => by rw [List.mem_singleton.mp hm, hI₀] at e; cases e) (kp b o e))
      have hd3 : h₃.get? D = some (lst ys) := up3 D _ hDC (hk₂ D _ (fun hm => hID (List.mem_singleton.mp hm).symm) hd')
      obtain ⟨oI3, eI3, cI3⟩ := hIo _ _ hst₃
      have F₃ : Fr s₁.heap C h₃ _ := ⟨hn₃, kp3, by rw [hI, hC, ← hD]; exact Nat.le_of_lt (Nat.lt_succ_of_lt hI2)⟩
      obtain ⟨news, N₃, full⟩ := full_news s₁.heap C h₃
      have mD := full D _ hDC hd3 (below hD₁)
      have mI := full I _ hIC eI3 hI₀
      refine wpAny_mono (turn i T v₁ v₂ ys h₃ _ C news _ hlt hPv hT₁ (by simp [hxx]) (by simp) F₃ N₃ (hJ _ _ _ _ (tk2.trans tk3) hj')) (fun y s₅ h₅ => ?_) fun _ _ e => e.elim
      obtain ⟨h₅, tk₅, m₅, rfl, F₅, N₅, J₅⟩ := h₅
      have eD := (N₅ _ mD).1
      have eI := (N₅ _ mI).1
      have hst₅ : St (i + 1) h₅ := by
        refine W.frame _ _ _ hst₃ fun b hb o e => ?_
        have hbC : b ≠ C := fun q => hCf (q ▸ hb)
        cases q : s₁.heap.get? b with
        | some o' => have := kp3 b o' q; rw [this] at e; cases e; exact F₅.keep b o q
        | none => exact (N₅ _ (full b o hbC e q)).1
      refine append_at (hsz := by show ys.toArray.size ≤ sizeLine; rw [List.size_toArray]; exact Nat.le_trans (Nat.le_trans hyl hi) hsz) eD fun h₆ hs₆ hD₆ => ?_
      have up6 : ∀ b o, b ≠ D → h₅.get? b = some o → h₆.get? b = some o := fun b o hb e => hs₆.extBut b o hb e
      have tk6 : TK h₅ h₆ := fun b o ht e => up6 b o (fun q => by rw [q, eD] at e; cases e; exact absurd (show Value.type "list" = Value.type "tuple" from ht.1) (show ¬ (Value.type "list" = Value.type "tuple") by decide)) e
      refine ⟨its.size + 1 - (i + 1), by omega, h₆, tk₅, i + 1, ys ++ [y], m₅, rfl, hlt, rfl, by rw [List.length_append, List.length_singleton]; exact Nat.succ_le_succ hyl, W.frame _ _ _ hst₅ fun b hb o e => up6 b o (fun q => hDf (q ▸ hb)) e,
        fun b o e => up6 b o (fun q => by rw [q, below hD₁] at e; cases e) (F₅.keep b o e), F₅.ns.at' fun o e => up6 C o (Ne.symm hDC) e, hD₆.trans (congrArg some (lst_snoc ys y)), hJ _ _ _ _ tk6 J₅⟩
    · obtain rfl : i = its.size := Nat.le_antisymm hi (Nat.not_lt.mp hlt)
      refine W.done _ _ _ hst' fun h₂ tk₂ hk₂ => ?_
      have tk2 : TK h' h₂ := fun b o ht e => hk₂ b o (fun hm => by
        rw [List.mem_singleton.mp hm] at e
        obtain ⟨o', e', hc'⟩ := hIo _ _ hst'
        rw [e'] at e; cases e; exact hc' ht.1) e
      have hn₂ : h₂.Ns C m' := hn'.at' fun o e => hk₂ _ o (by simpa using Ne.symm hIC) e
      refine ⟨m', hn₂, fun h₃ hs₃ => ?_⟩
      have up3 : ∀ b o, b ≠ C → h₂.get? b = some o → h₃.get? b = some o := fun b o hb e => hs₃.extBut b o hb e
      have tk3 : TK h₂ h₃ := fun b o ht e => up3 b o (fun q => by
        obtain ⟨oC, es, ep, eC, hdC, _⟩ := hn₂
        rw [q, eC] at e; cases e
        obtain ⟨_, xs, k, hx'⟩ := ht
        rw [hdC] at hx'; cases hx') e
      exact fin D h₃ tk₂ ys (fun b o e => up3 b o (fun q => by rw [q, below hC₁] at e; cases e) (hk₂ b o (fun hm => by rw [List.mem_singleton.mp hm, hI₀] at e; cases e) (kp b o e)))
        (up3 D _ hDC (hk₂ D _ (fun hm => hID (List.mem_singleton.mp hm).symm) hd')) (below hD₁) (hJ _ _ _ _ (tk2.trans tk3) hj')
  exact codeAny_compStart_list (loop _ rfl) (W.self 0 _ _ _ hst₁ (loop _ rfl))
/-- what a turn of a for loop over pairs leaves -/
def ForEnd {σ : Type} (h₀ : Heap) (L : Addr) (s : Shared) (ps : σ → List (Str × Value)) (stored : List Str) (m₀ : Str → Option Value) (P : Nat → σ → Prop) (news : List (Addr × Obj)) (i : Nat) (s₃ : Shared) : Prop :=
  ∃ (c' : σ) (h' : Heap) (tk : Nat) (m' : Str → Option Value), s₃ = { s with heap := h', toks := tk } ∧ Fr h₀ L h' m' ∧ News h₀ L h' news ∧ (∀ p ∈ ps c', m' p.1 = some p.2) ∧ (∀ z, (∀ p ∈ ps c', z ≠ p.1) → stored.contains z = false → m' z = m₀ z) ∧ P (i + 1) c'
theorem kst_fr {ps : List (Str × Value)} {stored : List Str} {m₀ m₁ : Str → Option Value} (h1 : ∀ p ∈ ps, m₁ p.1 = some p.2) (h2 : ∀ z, (∀ p ∈ ps, z ≠ p.1) → stored.contains z = false → m₁ z = m₀ z) :
    m₁ = kstB (fun z => if stored.contains z then m₁ z else m₀ z) ps := by
  funext y
  refine (kstB_eq h1 fun hn => ?_).symm
  show (if stored.contains y = true then m₁ y else m₀ y) = m₁ y
  cases h3 : stored.contains y with
  | true => simp
  | false => simp only [Bool.false_eq_true, if_false]; exact (h2 y hn h3).symm
theorem for_P {σ : Type} {iter : Expr} {body : List Stmt} {x x₂ : Str} {px px₂ tp pos : Pos} {x1} {Q : Flow → Shared → Prop} {h₀ : Heap} {L : Addr} {m₀ : Str → Option Value} {l : Addr} {its : Array Value} (ps : σ → List (Str × Value)) (stored : List Str) (P : Nat → σ → Prop) (c₀ : σ)
    (F : Fr h₀ L s.heap m₀) (hL : env.locals = L) (hh : A.handled = none) (ha : env.kindOf x = some .local) (hb : env.kindOf x₂ = some .local) (hp : (env.scope.kind == .class || (env.scope.kind == .module && env.locals != env.globals)) = false)
    (hxx : x ≠ x₂) (hst : stored.contains x = true) (hst₂ : stored.contains x₂ = true) (hk : ∀ p ∈ ps c₀, m₀ p.1 = some p.2) (hps : ∀ c, ∀ p ∈ ps c, p.1 ≠ x ∧ p.1 ≠ x₂) (hP : P 0 c₀)
    (hl : s.heap.IsList l its) (hT : ∀ (i : Nat) (v : Value), its[i]? = some v → ∃ (T : Addr) (v₁ v₂ : Value), v = Value.ref T ∧ IsTup h₀ T #[v₁, v₂]) (hlL : l ≠ L)
    (hi : wpAny (model prog w) A (eval iter env) (fun xv s₁ => xv = .ref l ∧ s₁ = s) (fun _ _ => False) s)
    (turn : ∀ i c T v₁ v₂ (u : Str → Option Value) h tk news, P i c → i < its.size → its[i]? = some (.ref T) → IsTup h₀ T #[v₁, v₂] →
      Fr h₀ L h (fun z => if z = x₂ then some v₂ else if z = x then some v₁ else kstB (fun z => if stored.contains z then u z else m₀ z) (ps c) z) → News h₀ L h news →
      wpAny (model prog w) A (execs body env) (fun f s₃ => match f with
        | .next => ForEnd h₀ L s ps stored m₀ P news i s₃
        | .cont => ForEnd h₀ L s ps stored m₀ P news i s₃
        | .brk => Q .next s₃
        | .ret v => Q (.ret v) s₃) (fun _ _ => False) { s with heap := h, toks := tk })
    (fin : ∀ c (u : Str → Option Value) h tk, P its.size c → Fr h₀ L h (kstB (fun z => if stored.contains z then u z else m₀ z) (ps c)) → (∀ b o, b ≠ L → s.heap.get? b = some o → h.get? b = some o) → Q .next { s with heap := h, toks := tk })
    (hs : ∀ x, foldedSetIterable iter env x = pure x := by intro _; rfl) :
    wpAny (model prog w) A (exec (.For (.Tuple [.Name x px, .Name x₂ px₂] x1 tp) iter body [] pos) env) Q (fun _ _ => False) s := by
  refine wpAny_For (wpAny_mono hi (fun xv s₁ h₁ => ?_) fun _ _ e => e) hs
  obtain ⟨rfl, rfl⟩ := h₁
  obtain ⟨oI, fp, St, W, hfp, hst₀, hIo, hLI, hit⟩ : ∃ (oI : Obj) (fp : List Addr) (St : Nat → Heap → Prop), Walks prog w A s₁.heap.objs.size fp [s₁.heap.objs.size] its.size (fun i v => its[i]? = some v) St ∧ (∀ b ∈ fp, b = l ∨ b = s₁.heap.objs.size) ∧ St 0 (s₁.heap.push oI) ∧
      (∀ i h, St i h → ∃ o', h.get? s₁.heap.objs.size = some o') ∧ (∀ i h, St i h → ∃ j, h.IsListIter s₁.heap.objs.size l j) ∧
      ∀ (Q E : Value → Shared → Prop), Q (.ref s₁.heap.objs.size) { s₁ with heap := s₁.heap.push oI } → wpAny (model prog w) A (pyIter (.ref l)) Q E s₁ := by
    have hlt : l < s₁.heap.objs.size := by obtain ⟨_, e, _⟩ := hl; exact Heap.lt_size e
    refine ⟨{ cls := .type "list_iterator", data := .fields #[.ref l, .int 0 0] }, _, _, Walks.list hh s₁.heap.objs.size l (Nat.ne_of_lt hlt) its, fun b hb => ?_, ⟨⟨_, Heap.get?_push_size _ rfl, rfl, rfl⟩, hl.push _⟩, fun i h st => ?_, fun i h st => ⟨_, st.1⟩, fun Q E hQ => wpAny_pyIter_list hl hQ⟩
    · rcases List.mem_cons.mp hb with rfl | hb
      · exact .inr rfl
      · exact .inl (List.mem_singleton.mp hb)
    · obtain ⟨o, e, c, _⟩ := st.1
      exact ⟨o, e⟩
  refine hit _ _ ?_
  have hLlt : L < s₁.heap.objs.size := by rw [← hL]; exact (hL ▸ F.ns).lt
  generalize hI : s₁.heap.objs.size = I at W hIo hLI hfp hLlt
  have hI₀ : s₁.heap.get? I = none := by
    cases e : s₁.heap.get? I with
    | none => rfl
    | some o => exact absurd (Heap.lt_size e) (by rw [hI]; exact Nat.lt_irrefl _)
  have hIL : I ≠ L := Ne.symm (Nat.ne_of_lt hLlt)
  have hLf : L ∉ fp := fun hm => by
    rcases hfp _ hm with e | e
    · exact hlL e.symm
    · exact hIL e.symm
  have up1 : ∀ b o, s₁.heap.get? b = some o → (s₁.heap.push oI).get? b = some o := fun b o e => Heap.get?_push_of_some _ e
  have h0I : h₀.get? I = none := by
    cases q : h₀.get? I with
    | none => rfl
    | some o => rw [F.keep I o q] at hI₀; cases hI₀
  have h0L : h₀.get? L = none := by
    cases q : h₀.get? L with
    | none => rfl
    | some o => exact absurd (Heap.lt_size q) (Nat.not_lt.mpr F.above)
  refine codeAny_forLoop_any
    (fun k s' => ∃ h' tk i c m', s' = { s₁ with heap := h', toks := tk } ∧ i ≤ its.size ∧ k = its.size + 1 - i ∧ St i h' ∧ Fr h₀ L h' m' ∧ (∀ b o, b ≠ L → s₁.heap.get? b = some o → h'.get? b = some o) ∧ (∀ p ∈ ps c, m' p.1 = some p.2) ∧ (∀ z, (∀ p ∈ ps c, z ≠ p.1) → stored.contains z = false → m' z = m₀ z) ∧ P i c) ?_ (its.size + 1)
    ⟨_, _, 0, c₀, m₀, rfl, Nat.zero_le _, rfl, hst₀, ⟨F.ns.at' fun o e => up1 _ o e, fun b o e => up1 b o (F.keep b o e), F.above⟩, fun b o _ e => up1 b o e, hk, fun _ _ _ => rfl, hP⟩
  rintro k s' ⟨h', tk, i, c, m', rfl, hi, rfl, hst', F', kp, hk', hr', hP'⟩
  by_cases hlt : i < its.size
  · refine W.item i _ _ _ hlt hst' fun v h₂ tk₂ hPv hst₂ hk₂ => ?_
    obtain ⟨T, v₁, v₂, rfl, hT₁⟩ := hT i v hPv
    have kp2 : ∀ b o, h₀.get? b = some o → h₂.get? b = some o := fun b o e => hk₂ b o (fun hm => by rw [List.mem_singleton.mp hm, h0I] at e; cases e) (F'.keep b o e)
    have hT₂ : IsTup h₂ T #[v₁, v₂] := by obtain ⟨o, e, r⟩ := hT₁; exact ⟨o, kp2 _ _ e, r⟩
    have hn₂ : h₂.Ns L m' := F'.ns.at' fun o e => hk₂ _ o (by simpa using Ne.symm hIL) e
    obtain ⟨jI, hLi⟩ := hLI _ _ hst₂
    refine wpAny_letOwnedTupleGo_listiter hLi ?_
    refine assign_Tuple_tuple hh hT₂ rfl rfl fun h₅ he => ?_
    have he' : ∀ b o, h₂.get? b = some o → h₅.get? b = some o := fun b o e => he b o (Nat.ne_of_lt (Heap.lt_size e)) e
    refine assignInOrder_cons (wpAny_assign_Name (wpAny_storeName_local ha (by rw [hL]; exact hn₂.at' fun o e => he' _ o e) (fun h₆ hn₆ hs₆ => ?_) hp))
    refine assignInOrder_cons (wpAny_assign_Name (wpAny_storeName_local hb hn₆ (fun h₃ hn₃ hs₃ => ?_) hp))
    refine assignInOrder_nil ?_
    rw [hL] at hn₃ hs₃ hs₆
    have up3 : ∀ b o, b ≠ L → h₂.get? b = some o → h₃.get? b = some o := fun b o hb e => hs₃.extBut b o hb (hs₆.extBut b o hb (he' b o e))
    have hst₃ : St (i + 1) h₃ := W.frame _ _ _ hst₂ fun b hb o e => up3 b o (fun q => hLf (q ▸ hb)) e
    obtain ⟨oI3, eI3⟩ := hIo _ _ hst₃
    have em := kst_fr hk' hr'
    have F₃ : Fr h₀ L h₃ (fun z => if z = x₂ then some v₂ else if z = x then some v₁ else kstB (fun z => if stored.contains z then m' z else m₀ z) (ps c) z) :=
      ⟨by rw [← em]; exact hn₃, fun b o e => up3 b o (fun q => by rw [q, h0L] at e; cases e) (kp2 b o e), F.above⟩
    obtain ⟨news, N₃, full⟩ := full_news h₀ L h₃
    refine wpAny_mono (turn i c T v₁ v₂ m' h₃ _ news hP' hlt hPv hT₁ F₃ N₃) (fun f s₄ z₄ => ?_) fun _ _ e => e.elim
    have next : ForEnd h₀ L s₁ ps stored m₀ P news i s₄ → ∃ k, k < its.size + 1 - i ∧ ∃ h' tk i c m', s₄ = { s₁ with heap := h', toks := tk } ∧ i ≤ its.size ∧ k = its.size + 1 - i ∧ St i h' ∧ Fr h₀ L h' m' ∧ (∀ b o, b ≠ L → s₁.heap.get? b = some o → h'.get? b = some o) ∧ (∀ p ∈ ps c, m' p.1 = some p.2) ∧ (∀ z, (∀ p ∈ ps c, z ≠ p.1) → stored.contains z = false → m' z = m₀ z) ∧ P i c := by
      clear z₄
      rintro ⟨c', h₄, tk₄, m₄, rfl, F₄, N₄, hk₄, hr₄, hP₄⟩
      have up4 : ∀ b o, b ≠ L → h₃.get? b = some o → h₄.get? b = some o := fun b o hb e => by
        cases q : h₀.get? b with
        | some o' => have := F₃.keep b o' q; rw [this] at e; cases e; exact F₄.keep b o q
        | none => exact (N₄ _ (full b o hb e q)).1
      refine ⟨its.size + 1 - (i + 1), by omega, h₄, tk₄, i + 1, c', m₄, rfl, hlt, rfl, W.frame _ _ _ hst₃ fun b hb o e => up4 b o (fun q => hLf (q ▸ hb)) e, F₄, fun b o hb e => ?_, hk₄, hr₄, hP₄⟩
      exact up4 b o hb (up3 b o hb (hk₂ b o (fun hm => by rw [List.mem_singleton.mp hm, hI₀] at e; cases e) (kp b o hb e)))
    cases f with
    | next => exact next z₄
    | cont => exact next z₄
    | brk => exact z₄
    | ret v => exact z₄
  · obtain rfl : i = its.size := Nat.le_antisymm hi (Nat.not_lt.mp hlt)
    refine W.done _ _ _ hst' fun h₂ tk₂ hk₂ => ?_
    have kp2 : ∀ b o, h₀.get? b = some o → h₂.get? b = some o := fun b o e => hk₂ b o (fun hm => by rw [List.mem_singleton.mp hm, h0I] at e; cases e) (F'.keep b o e)
    have em := kst_fr hk' hr'
    refine wpAny_execs_nil ?_
    refine fin c m' h₂ tk₂ hP' ⟨by rw [← em]; exact F'.ns.at' fun o e => hk₂ _ o (by simpa using Ne.symm hIL) e, kp2, F.above⟩ fun b o hb e => hk₂ b o (fun hm => by rw [List.mem_singleton.mp hm, hI₀] at e; cases e) (kp b o hb e)
end
end Fz

end

section
set_option maxRecDepth 100000
set_option maxHeartbeats 4000000
set_option linter.unusedVariables false
open PySem PySem.W PyProof.Rows PySem.Calls PyProof.Rows.LCg
namespace Fz
noncomputable section
local macro_rules | `(tactic| walk_at "eval Name") => `(tactic| (k_here; (with_reducible show wpAny _ _ (eval (Expr.Name _ _) (compEnvC _ _ _ _)) _ _ _); k_dflt (first
  | (refine' cname_L ?F ?v ?_ ?a ?b; (case F => k_asm); (case a => rfl); (case b => rfl); (case v => rfl); k_whole)
  | (refine' cname_L ?F ?v ?_ ?a ?b; (case F => k_asm); (case a => rfl); (case b => rfl); (case v => assumption); k_whole)
  | (refine' cname_C ?F ?v ?c ?_ ?a ?b; (case F => k_asm); (case v => assumption); (case c => rfl); (case a => rfl); (case b => rfl); k_whole)
  | (refine' cname_K ?F ?X ?T ?e ?_ ?g ?a ?b; (case F => k_asm); (case X => k_asm); (case T => k_asm); (case g => rfl); (case a => rfl); (case b => rfl); (case e => k_is); k_whole)
  | (refine' cname_B ?F ?X ?T ?e ?v ?n ?_ ?g ?h ?a ?b; (case F => k_asm); (case X => k_asm); (case T => k_asm); (case g => rfl); (case h => rfl); (case a => rfl); (case b => rfl); (case e => k_is); (case v => boot_fast); (case n => decide); k_whole))))
noncomputable def lit12 : { b : List Stmt // b = dB 12 } := by
  refine' ⟨_, _⟩
  rotate_left
  · conv => rhs; whnf
/-- by how much a row is longer read than written -/
def grow (ring : List (List Nat × List Nat)) : Int := (ring.map fun p => (p.2.length : Int) - (p.1.length : Int)).sum
/-- a ring: pieces, one sign longer in all -/
def Ring (v : Value) (h : Heap) : Prop := ∃ ring, RowAt h v ring ∧ (∀ p ∈ ring, pieceOK p = true) ∧ grow ring = 1 ∧ ring.length ≤ 60
/-- a full ledger carries all but the frame's own names -/
theorem full_keep {h₀ h h' : Heap} {L : Addr} {m m' : Str → Option Value} {news : List (Addr × Obj)} (full : ∀ b o, b ≠ L → h.get? b = some o → h₀.get? b = none → (b, o) ∈ news) (F : Fr h₀ L h m) (F' : Fr h₀ L h' m') (N' : News h₀ L h' news) : ∀ b o, b ≠ L → h.get? b = some o → h'.get? b = some o := fun b o hb e => by
  cases q : h₀.get? b with
  | some o' => have := F.keep b o' q; rw [this] at e; cases e; exact F'.keep b o q
  | none => exact (N' _ (full b o hb e q)).1
theorem tk_but {h h' : Heap} {L : Addr} {m : Str → Option Value} (n : h.Ns L m) (k : ∀ b o, b ≠ L → h.get? b = some o → h'.get? b = some o) : TK h h' := fun b o ht e => k b o (fun q => by
  obtain ⟨oC, es, ep, eC, hdC, _⟩ := n
  rw [q, eC] at e; cases e
  obtain ⟨_, xs, k, hx'⟩ := ht
  rw [hdC] at hx'; cases hx') e
theorem ns_not_list {h : Heap} {L : Addr} {m : Str → Option Value} {its : Array Value} (n : h.Ns L m) (x : h.IsList L its) : False := by
  obtain ⟨oC, es, ep, eC, hdC, _⟩ := n
  obtain ⟨o, e, _, k, hd⟩ := x
  rw [eC] at e; cases e
  rw [hdC] at hd; cases hd
theorem list_but {h h' : Heap} {L a : Addr} {m : Str → Option Value} {its : Array Value} (n : h.Ns L m) (k : ∀ b o, b ≠ L → h.get? b = some o → h'.get? b = some o) (x : h.IsList a its) : h'.IsList a its := by
  have hne : a ≠ L := fun q => ns_not_list n (q ▸ x)
  obtain ⟨o, e, r⟩ := x
  exact ⟨o, k _ _ hne e, r⟩
theorem list_keep {h h' : Heap} {a : Addr} {its : Array Value} (k : ∀ b o, h.get? b = some o → h'.get? b = some o) (x : h.IsList a its) : h'.IsList a its := by
  obtain ⟨o, e, r⟩ := x
  exact ⟨o, k _ _ e, r⟩
/-- a ledger that holds all of a heap, but for the frame's own names -/
def Snap (h₀ : Heap) (L : Addr) (h : Heap) (news : List (Addr × Obj)) : Prop := (∃ m, Fr h₀ L h m) ∧ ∀ b o, b ≠ L → h.get? b = some o → h₀.get? b = none → (b, o) ∈ news
theorem snap {h₀ h : Heap} {L : Addr} {m : Str → Option Value} (F : Fr h₀ L h m) : ∃ news, News h₀ L h news ∧ Snap h₀ L h news := by
  obtain ⟨news, N, full⟩ := full_news h₀ L h
  exact ⟨news, N, ⟨m, F⟩, full⟩
theorem Snap.tk {h₀ h h' : Heap} {L : Addr} {m' : Str → Option Value} {news : List (Addr × Obj)} (S : Snap h₀ L h news) (F' : Fr h₀ L h' m') (N' : News h₀ L h' news) : TK h h' := by
  obtain ⟨⟨m, F⟩, full⟩ := S
  exact tk_but F.ns (full_keep full F F' N')
theorem Snap.list {h₀ h h' : Heap} {L a : Addr} {its : Array Value} {m' : Str → Option Value} {news : List (Addr × Obj)} (S : Snap h₀ L h news) (F' : Fr h₀ L h' m') (N' : News h₀ L h' news) (x : h.IsList a its) : h'.IsList a its := by
  obtain ⟨⟨m, F⟩, full⟩ := S
  exact list_but F.ns (full_keep full F F' N') x
theorem Snap.row {h₀ h h' : Heap} {L : Addr} {v : Value} {l : List (List Nat × List Nat)} {m' : Str → Option Value} {news : List (Addr × Obj)} (S : Snap h₀ L h news) (F' : Fr h₀ L h' m') (N' : News h₀ L h' news) (x : RowAt h v l) : RowAt h' v l := by
  obtain ⟨D, vs, e, hl, hp⟩ := x
  exact ⟨D, vs, e, S.list F' N' hl, hp.keep (S.tk F' N')⟩
theorem ntail {h₀ h : Heap} {L : Addr} {p : Addr × Obj} {news : List (Addr × Obj)} (N : News h₀ L h (p :: news)) : News h₀ L h news := fun q hq => N q (.tail _ hq)
theorem ints_get : ∀ {vs : List Value} {ks : List Int} {i : Nat} {v : Value}, IntsAre vs ks → vs[i]? = some v → ∃ k t, k ∈ ks ∧ v = .int k t
  | _, _, 0, _, .cons k t _, e => ⟨k, t, .head _, by cases e; rfl⟩
  | _, _, i + 1, _, .cons _ _ r, e => by
    obtain ⟨k, t, h1, h2⟩ := ints_get (i := i) r (by simpa using e)
    exact ⟨k, t, .tail _ h1, h2⟩
theorem piece_len {p : List Nat × List Nat} (h : pieceOK p = true) : p.1.length ≤ 3 ∧ p.2.length ≤ 5 := by
  unfold pieceOK at h
  simp only [Bool.and_eq_true, decide_eq_true_eq] at h
  exact ⟨h.1.1.2, h.1.2⟩
theorem grow_bound : ∀ {ring : List (List Nat × List Nat)}, (∀ p ∈ ring, pieceOK p = true) → -(3 * (ring.length : Int)) ≤ grow ring ∧ grow ring ≤ 5 * (ring.length : Int)
  | [], _ => by decide
  | p :: r, h => by
    have h1 := piece_len (h p (.head _))
    have h2 := grow_bound (ring := r) fun q hq => h q (.tail _ hq)
    have e : grow (p :: r) = ((p.2.length : Int) - (p.1.length : Int)) + grow r := by unfold grow; rw [List.map_cons, List.sum_cons]
    rw [e, List.length_cons]
    omega
theorem tx_len (l : List Nat) : (tx l).length = l.length := by show (l.toArray).size = _; simp
theorem rep_flat (v : Value) : ∀ n : Nat, (List.replicate n [v]).flatten = List.replicate n v
  | 0 => rfl
  | n + 1 => by rw [List.replicate_succ, List.replicate_succ, List.flatten_cons, rep_flat v n]; rfl
theorem pairs_rep {h : Heap} {v : Value} {p : List Nat × List Nat} (q : PairAt h v p) : ∀ n : Nat, Pairs h (List.replicate n v) (List.replicate n p)
  | 0 => .nil
  | n + 1 => .cons q (pairs_rep q n)
theorem grow_append (a b : List (List Nat × List Nat)) : grow (a ++ b) = grow a + grow b := by
  unfold grow
  rw [List.map_append, List.sum_append_int]
theorem grow_rep (p : List Nat × List Nat) : ∀ n : Nat, grow (List.replicate n p) = (n : Int) * ((p.2.length : Int) - (p.1.length : Int))
  | 0 => by show (0 : Int) = _; rw [Int.natCast_zero, Int.zero_mul]
  | n + 1 => by
    have e : grow (List.replicate (n + 1) p) = ((p.2.length : Int) - (p.1.length : Int)) + grow (List.replicate n p) := by unfold grow; rw [List.replicate_succ, List.map_cons, List.sum_cons]
    rw [e, grow_rep p n, Int.natCast_add, Int.add_mul]
    omega
theorem c129 {w : World} {nl : Addr} {ks : List Int} (h6 : ks.length = 6) (hk : ∀ k ∈ ks, 0 ≤ k ∧ k < 1000000000) : Con w 3 129 [.ref nl] (fun h => ∃ vs, h.IsList nl vs.toArray ∧ IntsAre vs ks) Ring := by
  intro A s Q E ok G hnl h
  have G' := G
  obtain ⟨X, mean, mg, mb, T⟩ := G
  revert X; k_fill; intro X
  refine wpAny_call (call_plain_ret (name := S "_law_ring") (params := dA 12) (body := dB 12) (scope := dS 12) (pm := .str (S "law_pm0045_01") 2264) (cd := .ref 128) (doc := .none) ok.lim (X 129 _ rfl) (by rfl) T.nolimit (codeRec_of X (by kernel_rfl)) (binds := [(S "numbers", .ref nl)]) (by rfl) (locs (by rfl)) ?_ (by rfl) (by rfl) (by rfl) (by decide))
  intro h₁ F
  rw [← lit12.2]
  dsimp only [lit12]
  have N : News s.heap s.heap.objs.size h₁ [] := News.nil
  have ok' := ok.deeper (envOf (S "_law_ring") (dS 12) s.heap.objs.size 129 (Value.ref 128))
  obtain ⟨vs, hl, hi⟩ := hnl
  have hl₁ : h₁.IsList nl vs.toArray := by obtain ⟨o, e, r⟩ := hl; exact ⟨o, F.keep _ _ e, r⟩
  k_steps
  refine con_call c117 (ok'.le (by decide)) F N G' trivial ?_
  rintro v h2 tk2 F2 N2 kp2 ⟨D2, vs2, rfl, hl2, hp2⟩
  dsimp only at kp2
  have hn2 : h2.IsList nl vs.toArray := list_keep kp2 hl₁
  obtain ⟨news, N3, sn⟩ := snap F2
  clear N N2 F hl₁ kp2
  k_steps
  refine LSm.sum_ints F2 N3 ok'.han hn2 hi ?_
  intro h5 tk5 t5 F5 N5
  have hl5 := sn.list F5 N5 hl2
  clear N3 F2
  k_steps
  obtain ⟨i, e, hi12⟩ := fm (a := ks.sum) (b := 12) (n := 12) rfl (by decide)
  rw [e]
  obtain ⟨v3, e3, _⟩ := hp2.at (i := i) (by show i < 12; exact hi12)
  refine item_listL hl5 (Int.natCast_nonneg _) (by omega) (by rw [Int.toNat_natCast]; exact e3) ?_
  clear hl5
  iterate 2 (first | walk1 | (dsimp only; walk1))
  rename Fr _ _ _ _ => F6
  rename News _ _ _ _ => N6
  have hn6 := sn.list F6 (ntail N6) hn2
  have hp6 := hp2.keep (sn.tk F6 (ntail N6))
  have hl1 := N6.isList (.head _)
  clear sn hn2 hp2 hl2
  obtain ⟨p3, e3', q3⟩ := hp6.get e3
  have ok3 : pieceOK p3 = true := List.all_eq_true.mp ok_twos _ (List.mem_of_getElem? e3')
  clear hp6 e3 e3'
  have X6 := X.keeps F6.keep
  have T6 := topRead_of (T.keeps F6.keep)
  have G6 := G'.keep F6.keep
  refine comp_A (J := fun i ys h => ∃ ps, Pairs h ys ps ∧ (∀ p ∈ ps, pieceOK p = true) ∧ ps.length = i) (by rfl) (by decide) (by rfl) (by decide) (by rfl) (fun _ _ _ _ k ⟨ps, a, b, c⟩ => ⟨ps, a.keep k, b, c⟩) ?_
  iterate 1 (first | walk1 | (dsimp only; walk1))
  refine ⟨_, _, ?_, SrcOK.list ok'.han hn6, ⟨[], .nil, (fun _ hp => nomatch hp), rfl⟩, ?_, ?_⟩
  · rw [List.size_toArray, hi.length, h6]; decide
  · intro i v ys h' tk C news m' hi' hP hm F' N' hJ
    dsimp only at F' N' ⊢
    refine wpAny_tests_nil ?_
    simp only [if_true]
    obtain ⟨k, tk', hkm, rfl⟩ := ints_get hi (by simpa using hP)
    clear N6 F6
    k_steps
    refine con_call (c124 (hk k hkm).1 (hk k hkm).2) ok' F' N' G6 trivial ?_
    rintro v h3 tk3 F3 N3 kp3 ⟨p, q, okp⟩
    obtain ⟨ps, z1, z2, z3⟩ := hJ
    refine ⟨_, _, _, rfl, F3, N3, ps ++ [p], (z1.keep (TK.of kp3)).append (.cons q .nil), fun p' hp' => ?_, by simp [z3]⟩
    rcases List.mem_append.mp hp' with hp' | hp'
    · exact z2 p' hp'
    · rw [List.mem_singleton.mp hp']; exact okp
  intro D h7 tk7 ys kp hD _ hJ
  dsimp only at kp
  have F7 := F6.keeps kp
  have N7 := N6.grown kp
  have hl1' := list_keep kp hl1
  have q3' := q3.keep (TK.of kp)
  obtain ⟨ps, z1, z2, z3⟩ := hJ
  rw [List.size_toArray, hi.length, h6] at z3
  clear F6 N6 hn6 hl1 q3 X6 T6 G6 kp
  obtain ⟨news7, N7', sn7⟩ := snap F7
  refine add_lists F7 N7' hl1' ⟨_, hD, rfl, _, rfl⟩ ?_ (by rw [z1.length, z3]; show 1 + 6 ≤ sizeLine; decide)
  intro h8 F8 N8
  have kp8 : TK h7 h8 := sn7.tk F8 (ntail N8)
  have r8 : RowAt h8 (.ref h7.objs.size) (p3 :: ps) := ⟨_, _, rfl, N8.isList (.head _), .cons (q3'.keep kp8) (z1.keep kp8)⟩
  have okr : ∀ p ∈ p3 :: ps, pieceOK p = true := fun p hp => by
    rcases List.mem_cons.mp hp with rfl | hp
    · exact ok3
    · exact z2 p hp
  have len8 : (p3 :: ps).length = 7 := by rw [List.length_cons, z3]
  clear kp8 z1 z2 z3 q3' ok3
  generalize p3 :: ps = ring at r8 okr len8
  obtain ⟨news8, N9, sn⟩ := snap F8
  clear F7 N7 N8 N7' sn7
  dsimp only
  generalize h7.objs.size = R at r8 ⊢
  iterate 8 (first | walk1 | (dsimp only; walk1))
  rename Fr _ _ _ _ => F10
  rename News _ _ _ _ => N10
  have r10 := sn.row F10 N10 r8
  clear r8 sn
  obtain ⟨R', vsr, eR, hlr, hpr⟩ := r10
  cases eR
  have X10 := X.keeps F10.keep
  have T10 := topRead_of (T.keeps F10.keep)
  have hsz : vsr.length = 7 := by rw [hpr.length, len8]
  refine comp_P (J := fun i ys _ => IntsAre ys ((ring.take i).map fun p => (p.2.length : Int) - (p.1.length : Int))) (by rfl) (by decide) (by rfl) (by decide) (by rfl) (by rfl) (by decide) (fun _ _ _ _ _ h => h) ok'.han ?_
  iterate 1 (first | walk1 | (dsimp only; walk1))
  refine ⟨R, vsr.toArray, rfl, by rw [List.size_toArray, hsz]; decide, hlr, ?_, .nil, ?_, ?_⟩
  · intro i v e
    obtain ⟨p, _, a, t, u, e2, q⟩ := hpr.get (by simpa using e)
    exact ⟨a, _, _, e2, q⟩
  · intro i T' v₁ v₂ ys h' tk C news m' hi' hP hT hm hm₂ F' N' hJ
    dsimp only at F' N' ⊢
    obtain ⟨p, ep, a, t, u, e2, q⟩ := hpr.get (by simpa using hP)
    cases e2
    obtain ⟨o, e4, _, n4, e5⟩ := hT
    obtain ⟨o', e4', _, n4', e5'⟩ := q
    dsimp only at e4
    rw [e4'] at e4
    cases e4
    rw [e5'] at e5
    cases e5
    k_steps
    have hpl := piece_len (okr p (List.mem_of_getElem? ep))
    refine len_str (by rw [tx_len]; omega) ?_
    rw [tx_len]
    k_steps
    refine len_str (by rw [tx_len]; omega) ?_
    rw [tx_len]
    k_steps
    refine ⟨_, _, _, rfl, by assumption, by assumption, ?_⟩
    dsimp only
    have hlt : i < ring.length := by rw [len8]; simpa [hsz] using hi'
    have eg : ring[i] = p := by rw [List.getElem?_eq_getElem hlt] at ep; exact Option.some.inj ep
    rw [← List.take_append_getElem hlt, List.map_append, eg]
    exact IntsAre.append hJ (.cons _ _ .nil)
  intro D h11 tk11 ys kp hD _ hJ
  dsimp only at kp
  have F11 := F10.keeps kp
  have hlr11 := list_keep kp hlr
  have hpr11 := hpr.keep (TK.of kp)
  have hJ' : IntsAre ys (ring.map fun p => (p.2.length : Int) - (p.1.length : Int)) := by
    have e : ring.take vsr.toArray.size = ring := List.take_of_length_le (by rw [len8, List.size_toArray, hsz]; exact Nat.le_refl _)
    rw [← e]; exact hJ
  clear hJ F10 N10 hlr hpr X10 T10 kp
  obtain ⟨news11, N11, sn11⟩ := snap F11
  iterate 1 (first | walk1 | (dsimp only; walk1))
  refine LSm.sum_ints F11 N11 ok'.han ⟨_, hD, rfl, _, rfl⟩ hJ' ?_
  intro h12 tk12 t12 F12 N12
  have hlr12 := sn11.list F12 N12 hlr11
  have hpr12 := hpr11.keep (sn11.tk F12 N12)
  have hg := grow_bound okr
  rw [len8] at hg
  change wpAny _ _ _ _ _ _
  rw [show (ring.map fun p => (p.2.length : Int) - (p.1.length : Int)).sum = grow ring from rfl]
  generalize hgr : grow ring = g at hg ⊢
  obtain ⟨news12, N12', sn12⟩ := snap F12
  clear N11 sn11 hlr11 hpr11 F11 N12
  k_steps
  rename Fr _ _ _ _ => F13
  rename News _ _ _ _ => N13
  refine max_two_N ok'.han F13 N13 ?_
  intros
  obtain ⟨y, hy⟩ : ∃ y : Int, y = (if -g > 0 then -g else 0) := ⟨_, rfl⟩
  rw [← hy]
  have hyb : 0 ≤ y ∧ y ≤ 21 ∧ (0 ≤ g → y = 0) ∧ (g ≤ 0 → y = -g) := by
    subst hy
    split <;> omega
  clear hy F13 N13
  k_steps
  rename Fr _ _ _ _ => F14
  rename News _ _ _ _ => N14
  obtain ⟨f, ef, hf⟩ : ∃ f : Int, y.fdiv 3 = f ∧ 0 ≤ f ∧ f ≤ 7 ∧ 3 * f ≤ y ∧ y < 3 * f + 3 := by
    refine ⟨_, rfl, ?_⟩
    rw [Int.fdiv_eq_ediv_of_nonneg _ (by decide)]
    omega
  rw [ef]
  refine KMa.mul F14 N14 (N14.isList (.head _)) (by omega) (by omega) ?_ (rep_flat _ _) ?_
  · show 1 * f.toNat ≤ 256; omega
  intro D15 h15 F15 N15 _
  have q15 : PairAt h15 _ ([13254], [99, 8725, 107, 103]) := pair_of N15 (.tail _ (.tail _ (.head _))) rfl (by rfl) (by rfl)
  obtain ⟨news15, N15', sn15⟩ := snap F15
  have hlr15 := sn12.list F15 (ntail (ntail (ntail N15))) hlr12
  have hpr15 := hpr12.keep (sn12.tk F15 (ntail (ntail (ntail N15))))
  have hlf15 := N15.isList (.head _)
  clear N14 F14
  refine add_lists F15 N15' hlr15 hlf15 ?_ ?_
  · intro h16 F16 N16
    have q16 := q15.keep (sn15.tk F16 (ntail N16))
    have hpr16 := hpr15.keep (sn15.tk F16 (ntail N16))
    have hlx16 := N16.isList (.head _)
    clear q15 hlr15 hpr15 hlf15 N15 sn15 N15' hlr12 hpr12 sn12 F15
    obtain ⟨news16, N16', sn16⟩ := snap F16
    clear N16
    dsimp only
    generalize h15.objs.size = R16 at hlx16 ⊢
    k_steps
    rename Fr _ _ _ _ => F17
    rename News _ _ _ _ => N17
    refine max_two_N ok'.han F17 N17 ?_
    intro h18 tk18 F18 N18
    obtain ⟨a, ha⟩ : ∃ a : Int, a = (if (1 - (g + 3 * y.fdiv 3)) > 0 then (1 - (g + 3 * y.fdiv 3)) else 0) := ⟨_, rfl⟩
    rw [← ha]
    have hab : 0 ≤ a ∧ a ≤ 40 ∧ ((1 - (g + 3 * y.fdiv 3)) ≤ 0 → a = 0) ∧ (0 ≤ (1 - (g + 3 * y.fdiv 3)) → a = (1 - (g + 3 * y.fdiv 3))) := by
      subst ha
      rw [ef]
      split <;> omega
    clear ha F17 N17
    refine KMa.mul F18 N18 (N18.isList (.head _)) (by omega) (by omega) ?_ (rep_flat _ _) ?_
    · show 1 * a.toNat ≤ 256; omega
    intro D19 h19 F19 N19 _
    have q19 : PairAt h19 _ ([223], [115, 115]) := pair_of N19 (.tail _ (.tail _ (.head _))) rfl (by rfl) (by rfl)
    obtain ⟨news19, N19', sn19⟩ := snap F19
    have hlx19 := sn16.list F19 (ntail (ntail (ntail N19))) hlx16
    have hpr19 := hpr16.keep (sn16.tk F19 (ntail (ntail (ntail N19))))
    have q16a := q16.keep (sn16.tk F19 (ntail (ntail (ntail N19))))
    have hla19 := N19.isList (.head _)
    clear N18 F18
    refine add_lists F19 N19' hlx19 hla19 ?_ ?_
    rotate_left
    · simp only [List.length_append, List.length_replicate, hsz, sizeLine_eq]; omega
    intro h20 F20 N20
    have q20 := q19.keep (sn19.tk F20 (ntail N20))
    have hpr20 := hpr19.keep (sn19.tk F20 (ntail N20))
    have q16b := q16a.keep (sn19.tk F20 (ntail N20))
    have hlx20 := N20.isList (.head _)
    clear q19 hlx19 hpr19 hla19 N19 sn19 N19' hlx16 hpr16 sn16 F19
    obtain ⟨news20, N20', sn20⟩ := snap F20
    clear N20
    dsimp only
    generalize h19.objs.size = R20 at hlx20 ⊢
    k_steps
    rename Fr _ _ _ _ => F27
    rename News _ _ _ _ => N27
    refine max_two_N ok'.han F27 N27 ?_
    intro h28 tk28 F28 N28
    obtain ⟨b, hb⟩ : ∃ b : Int, b = (if ((g + 3 * y.fdiv 3) - 1) > 0 then ((g + 3 * y.fdiv 3) - 1) else 0) := ⟨_, rfl⟩
    rw [← hb]
    have hbb : 0 ≤ b ∧ b ≤ 40 ∧ (((g + 3 * y.fdiv 3) - 1) ≤ 0 → b = 0) ∧ (0 ≤ ((g + 3 * y.fdiv 3) - 1) → b = ((g + 3 * y.fdiv 3) - 1)) := by
      subst hb
      rw [ef]
      split <;> omega
    clear hb F27 N27
    refine KMa.mul F28 N28 (N28.isList (.head _)) (by omega) (by omega) ?_ (rep_flat _ _) ?_
    · show 1 * b.toNat ≤ 256; omega
    intro D29 h29 F29 N29 _
    have q29 : PairAt h29 _ ([34, 34], [34]) := pair_of N29 (.tail _ (.tail _ (.head _))) rfl (by rfl) (by rfl)
    obtain ⟨news29, N29', sn29⟩ := snap F29
    have hlx29 := sn20.list F29 (ntail (ntail (ntail N29))) hlx20
    have hpr29 := hpr20.keep (sn20.tk F29 (ntail (ntail (ntail N29))))
    have q16c := q16b.keep (sn20.tk F29 (ntail (ntail (ntail N29))))
    have q20a := q20.keep (sn20.tk F29 (ntail (ntail (ntail N29))))
    have hla29 := N29.isList (.head _)
    clear N28 F28
    refine add_lists F29 N29' hlx29 hla29 ?_ ?_
    rotate_left
    · simp only [List.length_append, List.length_replicate, hsz, sizeLine_eq]; omega
    intro h30 F30 N30
    have q30 := q29.keep (sn29.tk F30 (ntail N30))
    have hpr30 := hpr29.keep (sn29.tk F30 (ntail N30))
    have q16d := q16c.keep (sn29.tk F30 (ntail N30))
    have q20b := q20a.keep (sn29.tk F30 (ntail N30))
    have hlx30 := N30.isList (.head _)
    clear q29 hlx29 hpr29 hla29 N29 sn29 N29' hlx20 hpr20 sn20 F29
    obtain ⟨news30, N30', sn30⟩ := snap F30
    clear N30
    dsimp only
    generalize h29.objs.size = R30 at hlx30 ⊢
    refine h _ _ _ F30.keep ⟨ring ++ List.replicate f.toNat ([13254], [99, 8725, 107, 103]) ++ List.replicate a.toNat ([223], [115, 115]) ++ List.replicate b.toNat ([34, 34], [34]), ⟨_, _, rfl, hlx30, ((hpr30.append (pairs_rep q16d _)).append (pairs_rep q20b _)).append (pairs_rep q30 _)⟩, ?_, ?_, ?_⟩
    · intro p hp
      rcases List.mem_append.mp hp with hp | hp
      · rcases List.mem_append.mp hp with hp | hp
        · rcases List.mem_append.mp hp with hp | hp
          · exact okr p hp
          · rw [(List.mem_replicate.mp hp).2]; exact List.all_eq_true.mp ok_lasts _ (by decide)
        · rw [(List.mem_replicate.mp hp).2]; exact List.all_eq_true.mp ok_twos _ (by decide)
      · rw [(List.mem_replicate.mp hp).2]; exact ok_mark
    · rw [grow_append, grow_append, grow_append, grow_rep, grow_rep, grow_rep, hgr]
      dsimp only [List.length_cons, List.length_nil]
      rw [ef] at hab hbb
      omega
    · simp only [List.length_append, List.length_replicate, len8]
      omega
  · simp only [List.length_replicate, hsz, sizeLine_eq]; omega
end
end Fz

end

section
set_option maxRecDepth 100000
set_option maxHeartbeats 4000000
set_option linter.unusedVariables false
open PySem PySem.W PyProof.Rows PySem.Calls PyProof.Rows.LCg
namespace Fz
noncomputable section
local macro_rules | `(tactic| walk_at "eval Name") => `(tactic| (k_here; (with_reducible show wpAny _ _ (eval (Expr.Name _ _) (compEnvC _ _ _ _)) _ _ _); k_dflt (first
  | (refine' cname_L ?F ?v ?_ ?a ?b; (case F => k_asm); (case a => rfl); (case b => rfl); (case v => rfl); k_whole)
  | (refine' cname_L ?F ?v ?_ ?a ?b; (case F => k_asm); (case a => rfl); (case b => rfl); (case v => assumption); k_whole)
  | (refine' cname_C ?F ?v ?c ?_ ?a ?b; (case F => k_asm); (case v => assumption); (case c => rfl); (case a => rfl); (case b => rfl); k_whole)
  | (refine' cname_K ?F ?X ?T ?e ?_ ?g ?a ?b; (case F => k_asm); (case X => k_asm); (case T => k_asm); (case g => rfl); (case a => rfl); (case b => rfl); (case e => k_is); k_whole)
  | (refine' cname_B ?F ?X ?T ?e ?v ?n ?_ ?g ?h ?a ?b; (case F => k_asm); (case X => k_asm); (case T => k_asm); (case g => rfl); (case h => rfl); (case a => rfl); (case b => rfl); (case e => k_is); (case v => boot_fast); (case n => decide); k_whole))))
noncomputable def lit14 : { b : List Stmt // b = dB 14 } := by
  refine' ⟨_, _⟩
  rotate_left
  · conv => rhs; whnf
/-- the places where all that is ahead is shorter read than written -/
def cnt : Int → List (List Nat × List Nat) → Nat
  | _, [] => 0
  | s, p :: r => (if p.2.length = 2 ∧ s < 0 then 1 else 0) + cnt (s + ((p.2.length : Int) - (p.1.length : Int))) r
def wr (l : List (List Nat × List Nat)) : List Nat := l.flatMap (·.1)
def mn (l : List (List Nat × List Nat)) : List Nat := l.flatMap (·.2)
theorem pf_dq : ∀ m : List Nat, pf (dq m) = m
  | [] => rfl
  | c :: r => by
    have ih := pf_dq r
    have e : dq (c :: r) = (if c = 34 then [34, 34] else [c]) ++ dq r := rfl
    rw [e]
    by_cases h : c = 34
    · subst h; rw [if_pos rfl]; show pf (34 :: 34 :: dq r) = _; rw [pf_two, ih]
    · rw [if_neg h]; show pf (c :: dq r) = _; rw [pf_one h, ih]
theorem pf_dq_end (a : List Nat) : ∀ m : List Nat, pf (dq m ++ 34 :: 32 :: a) = m
  | [] => pf_stop2 (by decide)
  | c :: r => by
    have ih := pf_dq_end a r
    have e : dq (c :: r) = (if c = 34 then [34, 34] else [c]) ++ dq r := rfl
    rw [e]
    by_cases h : c = 34
    · subst h; rw [if_pos rfl]; show pf (34 :: 34 :: (dq r ++ 34 :: 32 :: a)) = _; rw [pf_two, ih]
    · rw [if_neg h]; show pf (c :: (dq r ++ 34 :: 32 :: a)) = _; rw [pf_one h, ih]
theorem dq_append (a b : List Nat) : dq (a ++ b) = dq a ++ dq b := List.flatMap_append
theorem dq_len (a : List Nat) : (dq a).length ≤ 2 * a.length := by
  induction a with
  | nil => exact Nat.zero_le _
  | cons c r ih =>
    have e : dq (c :: r) = (if c = 34 then [34, 34] else [c]) ++ dq r := rfl
    rw [e, List.length_append, List.length_cons]
    split <;> simp only [List.length_cons, List.length_nil] <;> omega
theorem piece_prep {p : List Nat × List Nat} (h : pieceOK p = true) : prep p.1 = dq p.2 := by
  unfold pieceOK at h
  simp only [Bool.and_eq_true, beq_iff_eq] at h
  exact h.1.1.1
theorem wr_len : ∀ {l : List (List Nat × List Nat)}, (∀ p ∈ l, pieceOK p = true) → (wr l).length ≤ 3 * l.length
  | [], _ => Nat.le_refl _
  | p :: r, h => by
    have h1 := piece_len (h p (.head _))
    have h2 := wr_len (l := r) fun q hq => h q (.tail _ hq)
    have e : wr (p :: r) = p.1 ++ wr r := rfl
    rw [e, List.length_append, List.length_cons]
    omega
theorem mn_len : ∀ {l : List (List Nat × List Nat)}, (∀ p ∈ l, pieceOK p = true) → (mn l).length ≤ 5 * l.length
  | [], _ => Nat.le_refl _
  | p :: r, h => by
    have h1 := piece_len (h p (.head _))
    have h2 := mn_len (l := r) fun q hq => h q (.tail _ hq)
    have e : mn (p :: r) = p.2 ++ mn r := rfl
    rw [e, List.length_append, List.length_cons]
    omega
theorem grow_len (l : List (List Nat × List Nat)) : grow l = ((mn l).length : Int) - ((wr l).length : Int) := by
  induction l with
  | nil => rfl
  | cons p r ih =>
    have e1 : wr (p :: r) = p.1 ++ wr r := rfl
    have e2 : mn (p :: r) = p.2 ++ mn r := rfl
    have e : grow (p :: r) = ((p.2.length : Int) - (p.1.length : Int)) + grow r := by unfold grow; rw [List.map_cons, List.sum_cons]
    rw [e, e1, e2, ih, List.length_append, List.length_append]
    omega
theorem wr_snoc (l : List (List Nat × List Nat)) (p : List Nat × List Nat) : wr (l ++ [p]) = wr l ++ p.1 := by unfold wr; rw [List.flatMap_append]; simp
theorem mn_snoc (l : List (List Nat × List Nat)) (p : List Nat × List Nat) : mn (l ++ [p]) = mn l ++ p.2 := by unfold mn; rw [List.flatMap_append]; simp
theorem cnt_step {row : List (List Nat × List Nat)} {i sh : Nat} {p : List Nat × List Nat} {pre : List (List Nat × List Nat)} (ep : row[i]? = some p) (e1 : pre = row.take i) (e2 : sh + cnt (grow pre) (row.drop i) = cnt 0 row) :
    pre ++ [p] = row.take (i + 1) ∧ (sh + (if p.2.length = 2 ∧ (mn pre).length < (wr pre).length then 1 else 0)) + cnt (grow (pre ++ [p])) (row.drop (i + 1)) = cnt 0 row := by
  obtain ⟨hi, ei⟩ := List.getElem?_eq_some_iff.mp ep
  refine ⟨by rw [e1, ← ei, List.take_append_getElem hi], ?_⟩
  rw [← e2, List.drop_eq_getElem_cons hi, ei, cnt, grow_append]
  have e3 : grow [p] = (p.2.length : Int) - (p.1.length : Int) := by unfold grow; simp
  rw [e3, Nat.add_assoc]
  congr 2
  have := grow_len pre
  by_cases h : p.2.length = 2 ∧ (mn pre).length < (wr pre).length
  · rw [if_pos h, if_pos ⟨h.1, by omega⟩]
  · rw [if_neg h, if_neg fun q => h ⟨q.1, by omega⟩]
theorem ask1 (a b : List Nat) : Str.ofString "257 \"" ++ tx a ++ Str.ofString "\" " ++ tx b = tx (50 :: 53 :: 55 :: 32 :: 34 :: (a ++ 34 :: 32 :: b)) := by
  show tx [50, 53, 55, 32, 34] ++ tx a ++ tx [34, 32] ++ tx b = _
  rw [tx_app, tx_app, tx_app]
  simp
theorem ask2 (a : List Nat) : Str.ofString "257 \"" ++ tx a = tx (50 :: 53 :: 55 :: 32 :: 34 :: a) := by
  show tx [50, 53, 55, 32, 34] ++ tx a = _
  rw [tx_app]
  simp
/-- where the walk through a row stands -/
structure LS where
  (pre : List (List Nat × List Nat)) (sh : Nat) (tsh tah tto : Tok)
theorem c139 {w : World} {rl : Addr} {row : List (List Nat × List Nat)} (hok : ∀ p ∈ row, pieceOK p = true) (hlen : row.length ≤ 100) : Con w 3 139 [.ref rl] (fun h => RowAt h (.ref rl) row) (fun v _ => ∃ t, v = .int (cnt 0 row : Int) t) := by
  intro A s Q E ok G hrow h
  have G' := G
  obtain ⟨X, mean, mg, mb, T⟩ := G
  revert X; k_fill; intro X
  refine wpAny_call (call_plain_ret (name := S "_law_places") (params := dA 14) (body := dB 14) (scope := dS 14) (pm := .str (S "law_pm0045_01") 2264) (cd := .ref 138) (doc := .none) ok.lim (X 139 _ rfl) (by rfl) T.nolimit (codeRec_of X (by kernel_rfl)) (binds := [(S "row", .ref rl)]) (by rfl) (locs (by rfl)) ?_ (by rfl) (by rfl) (by rfl) (by decide))
  intro h₁ F
  rw [← lit14.2]
  dsimp only [lit14]
  have N : News s.heap s.heap.objs.size h₁ [] := News.nil
  have ok' := ok.deeper (envOf (S "_law_places") (dS 14) s.heap.objs.size 139 (Value.ref 138))
  obtain ⟨R, vsr, eR, hlr, hpr⟩ := hrow
  cases eR
  iterate 13 (first | walk1 | (dsimp only; walk1))
  rename Fr _ _ _ _ => F1
  have hlr1 := list_keep F1.keep hlr
  have hsz : vsr.length = row.length := hpr.length
  refine' for_P (σ := LS) (fun c => [(S "shrunk", .int (c.sh : Int) c.tsh), (S "ahead", .str (tx (wr c.pre)) c.tah), (S "told", .str (tx (dq (mn c.pre))) c.tto)]) [S "written", S "meant"]
    (fun i c => c.pre = row.take i ∧ c.sh + cnt (grow c.pre) (row.drop i) = cnt 0 row) ⟨[], 0, _, _, _⟩ ?F rfl ok'.han (by rfl) (by rfl) (by rfl) (by decide) (by decide) (by decide) ?hk ?hps ⟨rfl, by show 0 + cnt 0 row = _; rw [Nat.zero_add]⟩ hlr1 ?hT ?hlL ?hi ?turn ?fin
  case F => exact F1
  case hk =>
    intro p hp
    rcases List.mem_cons.mp hp with rfl | hp
    · rfl
    rcases List.mem_cons.mp hp with rfl | hp
    · rfl
    · rw [List.mem_singleton.mp hp]; rfl
  case hps =>
    intro c p hp
    rcases List.mem_cons.mp hp with rfl | hp
    · exact ⟨(by decide : S "shrunk" ≠ S "written"), (by decide : S "shrunk" ≠ S "meant")⟩
    rcases List.mem_cons.mp hp with rfl | hp
    · exact ⟨(by decide : S "ahead" ≠ S "written"), (by decide : S "ahead" ≠ S "meant")⟩
    · rw [List.mem_singleton.mp hp]; exact ⟨(by decide : S "told" ≠ S "written"), (by decide : S "told" ≠ S "meant")⟩
  case hT =>
    intro i v e
    obtain ⟨p, _, a, t, u, e2, q⟩ := hpr.get (by simpa using e)
    exact ⟨a, _, _, e2, q⟩
  case hlL =>
    intro q
    obtain ⟨o, e, _⟩ := hlr
    exact absurd (Heap.lt_size e) (by rw [q]; exact Nat.lt_irrefl _)
  case hi =>
    iterate 1 (first | walk1 | (dsimp only; walk1))
    exact ⟨rfl, rfl⟩
  case turn =>
    intro i c T' v₁ v₂ u h' tk news hP hi' hv hT F2 N2
    obtain ⟨pre, sh, tsh, tah, tto⟩ := c
    obtain ⟨e1, e2⟩ := hP
    dsimp only at e1 e2 F2
    obtain ⟨p, ep, a, t, u', e3, q⟩ := hpr.get (by simpa using hv)
    cases e3
    obtain ⟨o, e4, _, n4, e5⟩ := hT
    obtain ⟨o', e4', _, n4', e5'⟩ := q
    rw [e4'] at e4
    cases e4
    rw [e5'] at e5
    cases e5
    have okp := hok p (List.mem_of_getElem? ep)
    have hpl := piece_len okp
    have okpre : ∀ q ∈ pre, pieceOK q = true := fun q hq => hok q (List.mem_of_mem_take (e1 ▸ hq))
    have lpre : pre.length ≤ 100 := by rw [e1, List.length_take]; omega
    have lw := wr_len okpre
    have lm := mn_len okpre
    have ld := dq_len (mn pre)
    clear F1
    k_steps
    refine len_str (by rw [tx_len]; omega) ?_
    rw [tx_len]
    k_steps
    · rename (_ : Int) = 2 => h2
      dsimp only
      refine SB.add (fun t3 k3 => ?_) (by rw [show Str.ofString "257 \"" = tx [50, 53, 55, 32, 34] from rfl, tx_len, tx_len, sizeLine_eq]; simp only [List.length_cons, List.length_nil]; omega)
      k_steps
      refine SB.add (fun t4 k4 => ?_) (by rw [ask2, tx_len, sizeLine_eq, show (Str.ofString "\" ").length = 2 from rfl]; simp only [List.length_cons]; omega)
      k_steps
      refine SB.add (fun t5 k5 => ?_) (by rw [ask2, show (Str.ofString "\" ") = tx [34, 32] from rfl, tx_app, tx_len, tx_len, sizeLine_eq]; simp only [List.length_cons, List.length_append, List.length_nil]; omega)
      rw [ask1]
      k_steps
      rename Fr _ _ _ _ => F5
      rename News _ _ _ _ => N5
      refine con_call (c110 (l := dq (mn pre) ++ 34 :: 32 :: wr pre) (by simp only [List.length_cons, List.length_append]; omega)) (ok'.le (by decide)) F5 N5 G' trivial ?_
      rw [pf_dq_end]
      rintro v h6 tk6 F6 N6 kp6 ⟨u6, rfl⟩
      clear F5 N5
      k_steps
      refine len_str (by rw [tx_len]; omega) ?_
      rw [tx_len]
      k_steps
      refine len_str (by rw [tx_len]; omega) ?_
      rw [tx_len]
      k_steps
      · rename (_ : Int) < _ => h3
        rename Fr _ _ _ _ => F7
        rename News _ _ _ _ => N7
        refine con_call (c134 (l := p.1) (by omega)) ok' F7 N7 G' trivial ?_
        rintro v h8 tk8 F8 N8 kp8 ⟨u8, rfl⟩
        clear F7 N7
        dsimp only
        refine SB.add (fun t9 k9 => ?_) (by rw [tx_len, tx_len, piece_prep okp, sizeLine_eq]; have := dq_len p.2; omega)
        k_steps
        rename Fr _ _ _ _ => F9
        rename News _ _ _ _ => N9
        have st := cnt_step ep e1 e2
        refine' ⟨⟨pre ++ [p], sh + 1, ?ta1, ?tb1, ?tc1⟩, _, _, _, rfl, F9, N9, ?hk1, ?hr1, st.1, ?hp1⟩
        case hk1 =>
          intro z hz
          rcases List.mem_cons.mp hz with rfl | hz
          · rfl
          rcases List.mem_cons.mp hz with rfl | hz
          · exact congrArg (fun z => some (Value.str z _)) (show tx (wr pre) ++ tx p.1 = tx (wr (pre ++ [p])) by rw [wr_snoc, tx_app])
          · rw [List.mem_singleton.mp hz]
            exact congrArg (fun z => some (Value.str z _)) (show tx (dq (mn pre)) ++ tx (prep p.1) = tx (dq (mn (pre ++ [p]))) by rw [mn_snoc, dq_append, ← piece_prep okp, tx_app])
        case hr1 =>
          intro z h2 h3
          have z1 : z ≠ Str.ofString "shrunk" := h2 _ (.head _)
          have z2 : z ≠ Str.ofString "ahead" := h2 _ (.tail _ (.head _))
          have z3 : z ≠ Str.ofString "told" := h2 _ (.tail _ (.tail _ (.head _)))
          have z4 : z ≠ Str.ofString "written" := by rintro rfl; exact absurd h3 (by decide)
          have z5 : z ≠ Str.ofString "meant" := by rintro rfl; exact absurd h3 (by decide)
          have h3' : [S "written", S "meant"].contains z = false := h3
          simp only [kstB, if_neg z1, if_neg z2, if_neg z3, if_neg z4, if_neg z5, h3', Bool.false_eq_true, if_false, show S "shrunk" = Str.ofString "shrunk" from rfl, show S "ahead" = Str.ofString "ahead" from rfl, show S "told" = Str.ofString "told" from rfl, show S "written" = Str.ofString "written" from rfl, show S "meant" = Str.ofString "meant" from rfl]
        case hp1 =>
          have st2 := st.2
          rw [if_pos ⟨by omega, by omega⟩] at st2
          exact st2
      · rename ¬ ((_ : Int) < _) => h3
        rename Fr _ _ _ _ => F7
        rename News _ _ _ _ => N7
        refine con_call (c134 (l := p.1) (by omega)) ok' F7 N7 G' trivial ?_
        rintro v h8 tk8 F8 N8 kp8 ⟨u8, rfl⟩
        clear F7 N7
        dsimp only
        refine SB.add (fun t9 k9 => ?_) (by rw [tx_len, tx_len, piece_prep okp, sizeLine_eq]; have := dq_len p.2; omega)
        k_steps
        rename Fr _ _ _ _ => F9
        rename News _ _ _ _ => N9
        have st := cnt_step ep e1 e2
        refine' ⟨⟨pre ++ [p], sh, ?ta2, ?tb2, ?tc2⟩, _, _, _, rfl, F9, N9, ?hk2, ?hr2, st.1, ?hp2⟩
        case hk2 =>
          intro z hz
          rcases List.mem_cons.mp hz with rfl | hz
          · rfl
          rcases List.mem_cons.mp hz with rfl | hz
          · exact congrArg (fun z => some (Value.str z _)) (show tx (wr pre) ++ tx p.1 = tx (wr (pre ++ [p])) by rw [wr_snoc, tx_app])
          · rw [List.mem_singleton.mp hz]
            exact congrArg (fun z => some (Value.str z _)) (show tx (dq (mn pre)) ++ tx (prep p.1) = tx (dq (mn (pre ++ [p]))) by rw [mn_snoc, dq_append, ← piece_prep okp, tx_app])
        case hr2 =>
          intro z h2 h3
          have z1 : z ≠ Str.ofString "shrunk" := h2 _ (.head _)
          have z2 : z ≠ Str.ofString "ahead" := h2 _ (.tail _ (.head _))
          have z3 : z ≠ Str.ofString "told" := h2 _ (.tail _ (.tail _ (.head _)))
          have z4 : z ≠ Str.ofString "written" := by rintro rfl; exact absurd h3 (by decide)
          have z5 : z ≠ Str.ofString "meant" := by rintro rfl; exact absurd h3 (by decide)
          have h3' : [S "written", S "meant"].contains z = false := h3
          simp only [kstB, if_neg z1, if_neg z2, if_neg z3, if_neg z4, if_neg z5, h3', Bool.false_eq_true, if_false, show S "shrunk" = Str.ofString "shrunk" from rfl, show S "ahead" = Str.ofString "ahead" from rfl, show S "told" = Str.ofString "told" from rfl, show S "written" = Str.ofString "written" from rfl, show S "meant" = Str.ofString "meant" from rfl]
        case hp2 =>
          have st2 := st.2
          rw [if_neg fun q => h3 (by omega), Nat.add_zero] at st2
          exact st2
    · rename ¬ ((_ : Int) = 2) => h2
      rename Fr _ _ _ _ => F7
      rename News _ _ _ _ => N7
      refine con_call (c134 (l := p.1) (by omega)) ok' F7 N7 G' trivial ?_
      rintro v h8 tk8 F8 N8 kp8 ⟨u8, rfl⟩
      clear F7 N7
      dsimp only
      refine SB.add (fun t9 k9 => ?_) (by rw [tx_len, tx_len, piece_prep okp, sizeLine_eq]; have := dq_len p.2; omega)
      k_steps
      rename Fr _ _ _ _ => F9
      rename News _ _ _ _ => N9
      have st := cnt_step ep e1 e2
      refine' ⟨⟨pre ++ [p], sh, ?ta3, ?tb3, ?tc3⟩, _, _, _, rfl, F9, N9, ?hk3, ?hr3, st.1, ?hp3⟩
      case hk3 =>
        intro z hz
        rcases List.mem_cons.mp hz with rfl | hz
        · rfl
        rcases List.mem_cons.mp hz with rfl | hz
        · exact congrArg (fun z => some (Value.str z _)) (show tx (wr pre) ++ tx p.1 = tx (wr (pre ++ [p])) by rw [wr_snoc, tx_app])
        · rw [List.mem_singleton.mp hz]
          exact congrArg (fun z => some (Value.str z _)) (show tx (dq (mn pre)) ++ tx (prep p.1) = tx (dq (mn (pre ++ [p]))) by rw [mn_snoc, dq_append, ← piece_prep okp, tx_app])
      case hr3 =>
        intro z h2 h3
        have z1 : z ≠ Str.ofString "shrunk" := h2 _ (.head _)
        have z2 : z ≠ Str.ofString "ahead" := h2 _ (.tail _ (.head _))
        have z3 : z ≠ Str.ofString "told" := h2 _ (.tail _ (.tail _ (.head _)))
        have z4 : z ≠ Str.ofString "written" := by rintro rfl; exact absurd h3 (by decide)
        have z5 : z ≠ Str.ofString "meant" := by rintro rfl; exact absurd h3 (by decide)
        have h3' : [S "written", S "meant"].contains z = false := h3
        simp only [kstB, if_neg z1, if_neg z2, if_neg z3, if_neg z4, if_neg z5, h3', Bool.false_eq_true, if_false, show S "shrunk" = Str.ofString "shrunk" from rfl, show S "ahead" = Str.ofString "ahead" from rfl, show S "told" = Str.ofString "told" from rfl, show S "written" = Str.ofString "written" from rfl, show S "meant" = Str.ofString "meant" from rfl]
      case hp3 =>
        have st2 := st.2
        rw [if_neg fun q => h2 (by omega), Nat.add_zero] at st2
        exact st2
  case fin =>
    intro c u h' tk hP F2 kp
    obtain ⟨pre, sh, tsh, tah, tto⟩ := c
    obtain ⟨e1, e2⟩ := hP
    dsimp only at e1 e2 F2
    have epre : pre = row := by rw [e1, List.size_toArray, hsz, List.take_length]
    subst epre
    have esh : sh = cnt 0 pre := by
      rw [List.size_toArray, hsz, List.drop_length] at e2
      exact e2
    have lw := wr_len hok
    have lm := mn_len hok
    have ld := dq_len (mn pre)
    have hlr2 := list_keep F2.keep hlr
    have hpr2 := hpr.keep (TK.of F2.keep)
    have N2 : News s.heap s.heap.objs.size h' [] := News.nil
    clear F1 e1 e2
    dsimp only
    have X2 := X.keeps F2.keep
    have T2 := topRead_of (T.keeps F2.keep)
    iterate 7 (first | walk1 | (dsimp only; walk1))
    refine comp_P (J := fun i ys _ => StrsAre ys ((pre.take i).map fun (p : List Nat × List Nat) => tx p.2)) (by rfl) (by decide) (by rfl) (by decide) (by rfl) (by rfl) (by decide) (fun _ _ _ _ _ h => h) ok'.han ?_
    iterate 1 (first | walk1 | (dsimp only; walk1))
    refine ⟨rl, vsr.toArray, rfl, by rw [List.size_toArray, hsz, sizeLine_eq]; omega, hlr2, ?_, .nil, ?_, ?_⟩
    · intro i v e
      obtain ⟨p, _, a, t, u, e2, q⟩ := hpr2.get (by simpa using e)
      exact ⟨a, _, _, e2, q⟩
    · intro i T' v₁ v₂ ys h' tk C news m' hi' hP hT hm hm₂ F' N' hJ
      dsimp only at F' N' ⊢
      obtain ⟨p, ep, a, t, u, e2, q⟩ := hpr2.get (by simpa using hP)
      cases e2
      obtain ⟨o, e4, _, n4, e5⟩ := hT
      obtain ⟨o', e4', _, n4', e5'⟩ := q
      dsimp only at e4
      rw [e4'] at e4
      cases e4
      rw [e5'] at e5
      cases e5
      k_steps
      refine ⟨_, _, _, rfl, by assumption, by assumption, ?_⟩
      dsimp only
      have hlt : i < pre.length := by simpa [hsz] using hi'
      have eg : pre[i] = p := by rw [List.getElem?_eq_getElem hlt] at ep; exact Option.some.inj ep
      rw [← List.take_append_getElem hlt, List.map_append, eg]
      exact strs_snoc hJ
    intro D h3 tk3 ys kp3 hD _ hJ
    dsimp only at kp3
    have F3 := F2.keeps kp3
    have N3 := N2.grown kp3
    have hJ' : StrsAre ys (pre.map fun p => tx p.2) := by
      have e : pre.take vsr.toArray.size = pre := List.take_of_length_le (by rw [List.size_toArray, hsz]; exact Nat.le_refl _)
      rw [← e]; exact hJ
    clear hJ F2 N2 X2 T2 hlr2 hpr2 kp3
    iterate 1 (first | walk1 | (dsimp only; walk1))
    refine join_listW (ys := pre.map fun p => tx p.2) ⟨_, hD, rfl, _, rfl⟩ (by simpa using hJ') (by decide) ?_ ?_
    · have : ((pre.map fun p => tx p.2).map (·.length)).sum = (mn pre).length := by
        rw [List.map_map]
        unfold mn
        rw [List.length_flatMap]
        exact congrArg List.sum (List.map_congr_left fun p _ => tx_len p.2)
      rw [this, List.length_map]
      omega
    intro t4 k4
    have ew : Txt.join (Str.ofString "") (pre.map fun p => tx p.2) = tx (mn pre) := by
      rw [show (Str.ofString "") = ⟨#[]⟩ from rfl, glued_empty]
      unfold mn
      rw [List.flatMap_map]
    rw [ew]
    clear ew
    k_steps
    dsimp only
    refine SB.add (fun t5 k5 => ?_) (by rw [show Str.ofString "257 \"" = tx [50, 53, 55, 32, 34] from rfl, tx_len, tx_len, sizeLine_eq]; simp only [List.length_cons, List.length_nil]; omega)
    rw [ask2]
    k_steps
    rename Fr _ _ _ _ => F5
    rename News _ _ _ _ => N5
    refine con_call (c110 (l := dq (mn pre)) (by omega)) (ok'.le (by decide)) F5 N5 G' trivial ?_
    rw [pf_dq]
    rintro v h6 tk6 F6 N6 kp6 ⟨u6, rfl⟩
    clear F5 N5
    k_steps
    · exfalso
      rename (_ != _) = true => hq
      simp at hq
    dsimp only
    refine SB.add (fun t7 k7 => ?_) (by rw [show Str.ofString "257 \"" = tx [50, 53, 55, 32, 34] from rfl, tx_len, tx_len, sizeLine_eq]; simp only [List.length_cons, List.length_nil]; omega)
    k_steps
    refine SB.add (fun t8 k8 => ?_) (by rw [ask2, tx_len, sizeLine_eq, show (Str.ofString "\" ").length = 2 from rfl]; simp only [List.length_cons]; omega)
    k_steps
    refine SB.add (fun t9 k9 => ?_) (by rw [ask2, show (Str.ofString "\" ") = tx [34, 32] from rfl, tx_app, tx_len, tx_len, sizeLine_eq]; simp only [List.length_cons, List.length_append, List.length_nil]; omega)
    rw [ask1]
    k_steps
    rename Fr _ _ _ _ => F8
    rename News _ _ _ _ => N8
    refine con_call (c110 (l := dq (mn pre) ++ 34 :: 32 :: wr pre) (by simp only [List.length_cons, List.length_append]; omega)) (ok'.le (by decide)) F8 N8 G' trivial ?_
    rw [pf_dq_end]
    rintro v h9 tk9 F9 N9 kp9 ⟨u9, rfl⟩
    clear F8 N8
    k_steps
    all_goals first
      | exact h _ _ _ (Fr.keep (by assumption)) ⟨tsh, by rw [← esh]⟩
      | (exfalso; rename (_ != _) = true => hq; simp at hq)
end
end Fz

end

section
set_option maxRecDepth 100000
set_option maxHeartbeats 4000000
set_option linter.unusedVariables false
open PySem PySem.W PyProof.Rows PySem.Calls PyProof.Rows.LCg
namespace Fz
noncomputable section
noncomputable def lit15a : { b : Stmt // b = (dB 15).getD 0 (.Pass ⟨0, 0, 0, 0⟩) } := by
  refine' ⟨_, _⟩
  rotate_left
  · conv => rhs; whnf
noncomputable def lit15b : { b : Stmt // b = (dB 15).getD 1 (.Pass ⟨0, 0, 0, 0⟩) } := by
  refine' ⟨_, _⟩
  rotate_left
  · conv => rhs; whnf
noncomputable def lit15c : { b : Stmt // b = (dB 15).getD 2 (.Pass ⟨0, 0, 0, 0⟩) } := by
  refine' ⟨_, _⟩
  rotate_left
  · conv => rhs; whnf
theorem body15 : dB 15 = [lit15a.1, lit15b.1, lit15c.1] := by
  rw [lit15a.2, lit15b.2, lit15c.2]
  kernel_rfl
theorem six_ok {ks : List Int} : (List.map (fun k' : Int => k'.fmod (10 ^ Int.toNat 9)) (List.take 6 ks) ++ List.drop ((ks.length : Int)).toNat [209, 69, 66, 0, 78, 31]).length = 6 ∧
    ∀ k ∈ List.map (fun k' : Int => k'.fmod (10 ^ Int.toNat 9)) (List.take 6 ks) ++ List.drop ((ks.length : Int)).toNat [209, 69, 66, 0, 78, 31], 0 ≤ k ∧ k < 1000000000 := by
  constructor
  · rw [List.length_append, List.length_map, List.length_take, List.length_drop, Int.toNat_natCast]
    simp only [List.length_cons, List.length_nil]
    omega
  · intro k hk
    rcases List.mem_append.mp hk with hk | hk
    · obtain ⟨a, _, rfl⟩ := List.mem_map.mp hk
      rw [show (10 ^ Int.toNat 9 : Int) = 1000000000 by decide]
      exact ⟨Int.fmod_nonneg_of_pos _ (by decide), Int.fmod_lt_of_pos _ (by decide)⟩
    · exact (show ∀ k ∈ ([209, 69, 66, 0, 78, 31] : List Int), 0 ≤ k ∧ k < 1000000000 by decide) k (List.mem_of_mem_drop hk)
abbrev two (p : List Nat × List Nat) : Bool := p.2.length == 2
/-- the places of the signs for two letters -/
def dbl (ring : List (List Nat × List Nat)) : List Nat := (List.range ring.length).filter fun p => two (ring.getD p ([], []))
end
end Fz

end

section
set_option maxRecDepth 100000
set_option maxHeartbeats 4000000
set_option linter.unusedVariables false
open PySem PySem.W PyProof.Rows PySem.Calls PyProof.Rows.LCg
namespace Fz
noncomputable section
local macro_rules | `(tactic| walk_at "eval Name") => `(tactic| (k_here; (with_reducible show wpAny _ _ (eval (Expr.Name _ _) (compEnvC _ _ _ _)) _ _ _); k_dflt (first
  | (refine' cname_L ?F ?v ?_ ?a ?b; (case F => k_asm); (case a => rfl); (case b => rfl); (case v => rfl); k_whole)
  | (refine' cname_L ?F ?v ?_ ?a ?b; (case F => k_asm); (case a => rfl); (case b => rfl); (case v => assumption); k_whole)
  | (refine' cname_C ?F ?v ?c ?_ ?a ?b; (case F => k_asm); (case v => assumption); (case c => rfl); (case a => rfl); (case b => rfl); k_whole)
  | (refine' cname_K ?F ?X ?T ?e ?_ ?g ?a ?b; (case F => k_asm); (case X => k_asm); (case T => k_asm); (case g => rfl); (case a => rfl); (case b => rfl); (case e => k_is); k_whole)
  | (refine' cname_B ?F ?X ?T ?e ?v ?n ?_ ?g ?h ?a ?b; (case F => k_asm); (case X => k_asm); (case T => k_asm); (case g => rfl); (case h => rfl); (case a => rfl); (case b => rfl); (case e => k_is); (case v => boot_fast); (case n => decide); k_whole))))
theorem law1 {w : World} {s : Shared} {h₁ : Heap} {tk : Nat} {fa c0 : Addr} {cd : Value} {oc : Obj} {sl : Addr} {vs : List Value} {ks : List Int} {E : Value → Shared → Prop}
    (G : Gr w s.heap) (F : Fr s.heap s.heap.objs.size h₁ (fun y => if y = S "script" then some (.ref sl) else none)) (N : News s.heap s.heap.objs.size h₁ [(s.heap.objs.size + 1, oc)]) (hc : oc.data = .cell none)
    (hl : s.heap.IsList sl vs.toArray) (hi : IntsAre vs ks) (h63 : ks.length ≤ 63) :
    wpAny (model (PySem.Challenge.rw_pm0045_01).prog w) (callerA.deeper (envOfC (S "law") (dS 15) s.heap.objs.size fa cd)) (exec lit15a.1 (envOfC (S "law") (dS 15) s.heap.objs.size fa cd))
      (fun f s' => f = .next ∧ ∃ h' tk' oc' R ring, s' = { s with heap := h', toks := tk' } ∧ Fr s.heap s.heap.objs.size h' (fun y => if y = S "script" then some (.ref sl) else none) ∧ News s.heap s.heap.objs.size h' [(s.heap.objs.size + 1, oc')] ∧ oc'.data = .cell (some (.ref R)) ∧
        RowAt h' (.ref R) ring ∧ (∀ p ∈ ring, pieceOK p = true) ∧ grow ring = 1 ∧ ring.length ≤ 60) E { s with heap := h₁, toks := tk } := by
  have G' := G
  obtain ⟨X, mean, mg, mb, T⟩ := G
  revert X; k_fill; intro X
  dsimp only [lit15a]
  k_steps
  rename Fr _ _ _ _ => F2
  rename News _ _ _ _ => N2
  rename IntsAre _ (_ ++ _) => hI2
  have ok' : Ok (callerA.deeper (envOfC (S "law") (dS 15) s.heap.objs.size fa cd)) 3 := ⟨rfl, by rw [depth_deeper]; decide, by rw [units_deeper]; decide⟩
  have hc2 := (N2 (s.heap.objs.size + 1, oc) (by repeat' (first | exact List.Mem.head _ | apply List.Mem.tail))).1
  refine con_call (c129 six_ok.1 six_ok.2) ok' F2 N2 G' ⟨_, N2.isList (.head _), hI2⟩ ?_
  rintro v h3 tk3 F3 N3 kp3 ⟨ring, ⟨R, vsr, rfl, hlr, hpr⟩, okr, gr, lr⟩
  dsimp only at kp3 hc2
  have hc3 := kp3 _ _ hc2
  clear F2 N2 kp3 hc2
  have hn0 : s.heap.get? (s.heap.objs.size + 1) = none := by
    cases e : s.heap.get? (s.heap.objs.size + 1) with
    | none => rfl
    | some o => exact absurd (Heap.lt_size e) (Nat.not_lt.mpr (Nat.le_succ _))
  refine wpAny_storeName_cell (c := s.heap.objs.size + 1) (v₀ := none) rfl (by rfl) (by rfl) ⟨oc, hc3, hc⟩ fun h4 hv hs => ?_
  obtain ⟨oc4, e4, d4⟩ := hv
  dsimp only at hs e4
  have up : ∀ b o, b ≠ s.heap.objs.size + 1 → h3.get? b = some o → h4.get? b = some o := fun b o hb e => hs.extBut b o hb e
  have tk : TK h3 h4 := fun b o ht e => up b o (fun q => by
    rw [q, hc3] at e; cases e
    obtain ⟨_, xs, k, hx'⟩ := ht
    rw [hc] at hx'; cases hx') e
  refine ⟨trivial, h4, _, oc4, R, ring, rfl, ⟨F3.ns.at' fun o e => up _ o (Nat.ne_of_lt (Nat.lt_succ_self _)) e, fun b o e => up b o (fun q => by rw [q, hn0] at e; cases e) (F3.keep b o e), F3.above⟩, fun p hp => ?_, d4, ⟨R, vsr, rfl, ?_, hpr.keep tk⟩, okr, gr, lr⟩
  · rw [List.mem_singleton.mp hp]
    exact ⟨e4, Ne.symm (Nat.ne_of_lt (Nat.lt_succ_self _)), hn0⟩
  · obtain ⟨o, e, c, k, d⟩ := hlr
    exact ⟨o, up _ o (fun q => by rw [q, hc3] at e; cases e; rw [hc] at d; cases d) e, c, k, d⟩
end
end Fz

end

section
set_option maxRecDepth 100000
set_option linter.unusedVariables false
open PySem PySem.W PyProof.Rows
namespace Fz
/-- how many are less: each number below the length, just once -/
theorem rank_sorted : ∀ l : List Int, l.Pairwise (· < ·) → l.map (fun x => l.countP fun y => decide (y < x)) = List.range l.length
  | [], _ => rfl
  | x :: r, h => by
    have hx := (List.pairwise_cons.mp h).1
    have ih := rank_sorted r (List.pairwise_cons.mp h).2
    rw [List.map_cons, List.length_cons, List.range_succ_eq_map]
    have h0 : (x :: r).countP (fun y => decide (y < x)) = 0 := by
      rw [List.countP_eq_zero]
      intro y hy
      rcases List.mem_cons.mp hy with rfl | hy
      · simp
      · have := hx y hy
        simp only [decide_eq_true_eq]
        omega
    rw [h0, ← ih, List.map_map]
    congr 1
    apply List.map_congr_left
    intro y hy
    rw [List.countP_cons]
    have := hx y hy
    simp [this]
theorem rank_perm {l : List Int} (h : l.Nodup) : (l.map fun x => l.countP fun y => decide (y < x)).Perm (List.range l.length) := by
  have p := List.mergeSort_perm l fun a b => decide (a ≤ b)
  have sl := List.pairwise_mergeSort (le := fun a b : Int => decide (a ≤ b)) (fun a b c h1 h2 => by simp only [decide_eq_true_eq] at *; omega) (fun a b => by simp only [Bool.or_eq_true, decide_eq_true_eq]; omega) l
  generalize l.mergeSort (fun a b => decide (a ≤ b)) = l' at p sl
  have hn : l'.Nodup := p.nodup_iff.mpr h
  have s : l'.Pairwise (· < ·) := by
    have := List.Pairwise.and sl hn
    refine this.imp fun ⟨a, b⟩ => ?_
    simp only [decide_eq_true_eq] at a
    omega
  have e := rank_sorted _ s
  rw [← p.length_eq, ← e]
  refine ((p.map _).symm).trans ?_
  rw [show (fun x => l.countP fun y => decide (y < x)) = (fun x => l'.countP fun y => decide (y < x)) from funext fun x => (p.countP_eq _).symm]
theorem cnt_append (s : Int) (a b : List (List Nat × List Nat)) : cnt s (a ++ b) = cnt s a + cnt (s + grow a) b := by
  induction a generalizing s with
  | nil => show cnt s b = 0 + cnt (s + 0) b; rw [Int.add_zero, Nat.zero_add]
  | cons p r ih =>
    have e : grow (p :: r) = ((p.2.length : Int) - (p.1.length : Int)) + grow r := by unfold grow; rw [List.map_cons, List.sum_cons]
    rw [List.cons_append, cnt, cnt, ih, e, Nat.add_assoc, Int.add_assoc]
theorem cnt_eq : ∀ (l : List (List Nat × List Nat)) (s : Int), cnt s l = (List.range l.length).countP fun q => two (l.getD q ([], [])) && decide (s + grow (l.take q) < 0)
  | [], s => rfl
  | p :: r, s => by
    rw [cnt, cnt_eq r, List.length_cons, List.range_succ_eq_map, List.countP_cons, List.countP_map, Nat.add_comm]
    congr 1
    · apply List.countP_congr
      intro q _
      have e : grow (p :: r.take q) = ((p.2.length : Int) - (p.1.length : Int)) + grow (r.take q) := by unfold grow; rw [List.map_cons, List.sum_cons]
      show _ ↔ (two ((p :: r).getD (q + 1) ([], [])) && decide (s + grow ((p :: r).take (q + 1)) < 0)) = true
      rw [List.take_succ_cons, e, List.getD_cons_succ, Int.add_assoc]
    · show _ = if (two p && decide (s + (0 : Int) < 0)) = true then 1 else 0
      rw [Int.add_zero]
      simp only [two, Bool.and_eq_true, beq_iff_eq, decide_eq_true_eq]
/-- the ring opened behind a place, that one left out -/
def opened (ring : List (List Nat × List Nat)) (p : Nat) : List (List Nat × List Nat) := ring.drop (p + 1) ++ ring.take p
def key (ring : List (List Nat × List Nat)) (p : Nat) : Int := 100 * grow (ring.take p) - (p : Int)
theorem cnt_opened {ring : List (List Nat × List Nat)} (h1 : ∀ p ∈ ring, p.2.length = 2 → p.1.length = 1) (hg : grow ring = 1) (hlen : ring.length ≤ 60) {p : Nat} (hp : p ∈ dbl ring) :
    cnt 0 (opened ring p) = (dbl ring).countP fun q => decide (key ring q < key ring p) := by
  obtain ⟨hp1, hp2⟩ := List.mem_filter.mp hp
  have hlt := List.mem_range.mp hp1
  have eg : ring.getD p ([], []) = ring[p] := by simp [hlt]
  rw [eg] at hp2
  have e2 : ring[p].2.length = 2 := by simpa [two] using hp2
  have e1 := h1 _ (List.getElem_mem hlt) e2
  have gs : ∀ q j, grow (ring.take (q + j)) = grow (ring.take q) + grow ((ring.drop q).take j) := fun q j => by
    rw [← grow_append, List.take_add]
  have g1 : grow (ring.take (p + 1)) = grow (ring.take p) + 1 := by
    rw [← List.take_append_getElem hlt, grow_append]
    have : grow [ring[p]] = (ring[p].2.length : Int) - (ring[p].1.length : Int) := by unfold grow; simp
    rw [this, e1, e2]
    rfl
  have g2 : grow (ring.drop (p + 1)) = - grow (ring.take p) := by
    have : grow ring = grow (ring.take (p + 1)) + grow (ring.drop (p + 1)) := by rw [← grow_append, List.take_append_drop]
    omega
  unfold opened
  rw [cnt_append, cnt_eq, cnt_eq, g2]
  unfold dbl
  rw [List.countP_filter]
  obtain ⟨k, hk⟩ : ∃ k, ring.length = p + (1 + k) := ⟨ring.length - p - 1, by omega⟩
  have l1 : (ring.drop (p + 1)).length = k := by rw [List.length_drop]; omega
  have l2 : (ring.take p).length = p := by rw [List.length_take]; omega
  rw [l1, l2]
  conv => rhs; rw [hk]
  rw [List.range_add, List.countP_append, List.countP_map, Nat.add_comm 1 k, List.range_succ_eq_map, List.countP_cons, List.countP_map]
  have z : ((fun a => decide (key ring a < key ring p) && two (ring.getD a ([], []))) ∘ fun x => p + x) 0 = false := by
    show (decide (key ring p < key ring p) && _) = false
    rw [decide_eq_false (Int.lt_irrefl _)]
    rfl
  rw [z, if_neg (by decide), Nat.add_zero, Nat.add_comm]
  congr 1
  · apply List.countP_congr
    intro q hq
    have hq := List.mem_range.mp hq
    have a1 : (ring.take p).getD q ([], []) = ring.getD q ([], []) := by
      rw [List.getD_eq_getElem?_getD, List.getD_eq_getElem?_getD, List.getElem?_take_of_lt hq]
    have a2 : (ring.take p).take q = ring.take q := by rw [List.take_take, Nat.min_eq_left (by omega)]
    rw [a1, a2]
    simp only [Bool.and_eq_true, decide_eq_true_eq]
    have k1 : key ring q = 100 * grow (ring.take q) - (q : Int) := rfl
    have k2 : key ring p = 100 * grow (ring.take p) - (p : Int) := rfl
    constructor
    · rintro ⟨x, y⟩; exact ⟨by omega, x⟩
    · rintro ⟨x, y⟩; exact ⟨y, by omega⟩
  · apply List.countP_congr
    intro q hq
    have hq := List.mem_range.mp hq
    have a1 : (ring.drop (p + 1)).getD q ([], []) = ring.getD (p + (q + 1)) ([], []) := by
      rw [List.getD_eq_getElem?_getD, List.getD_eq_getElem?_getD, List.getElem?_drop, show p + 1 + q = p + (q + 1) by omega]
    have a2 := gs (p + 1) q
    rw [a1]
    show _ ↔ (decide (key ring (p + (q + 1)) < key ring p) && two (ring.getD (p + (q + 1)) ([], []))) = true
    rw [show p + 1 + q = p + (q + 1) by omega] at a2
    simp only [Bool.and_eq_true, decide_eq_true_eq]
    have k1 : key ring (p + (q + 1)) = 100 * grow (ring.take (p + (q + 1))) - ((p + (q + 1) : Nat) : Int) := rfl
    have k2 : key ring p = 100 * grow (ring.take p) - (p : Int) := rfl
    rw [a2, g1] at k1
    constructor
    · rintro ⟨x, y⟩; exact ⟨by omega, x⟩
    · rintro ⟨x, y⟩; exact ⟨y, by omega⟩
theorem key_nodup {ring : List (List Nat × List Nat)} (hlen : ring.length ≤ 60) : ((dbl ring).map (key ring)).Nodup := by
  have hr : (dbl ring).Nodup := List.Pairwise.filter _ List.nodup_range
  have hs : (dbl ring).Pairwise fun a b => a < ring.length ∧ b < ring.length ∧ a ≠ b := by
    have : (dbl ring).Pairwise fun a b => (a ∈ dbl ring ∧ b ∈ dbl ring) ∧ a ≠ b := by
      refine List.Pairwise.and ?_ hr
      exact List.pairwise_of_forall_mem_list fun a ha b hb => ⟨ha, hb⟩
    exact this.imp fun ⟨⟨a, b⟩, c⟩ => ⟨List.mem_range.mp (List.mem_filter.mp a).1, List.mem_range.mp (List.mem_filter.mp b).1, c⟩
  refine List.pairwise_map.mpr (hs.imp ?_)
  rintro a b ⟨h1, h2, h3⟩ e
  unfold key at e
  omega
/-- the law, in plain words: each number below the doubles' number, just once -/
theorem plain {ring : List (List Nat × List Nat)} (h1 : ∀ p ∈ ring, p.2.length = 2 → p.1.length = 1) (hg : grow ring = 1) (hlen : ring.length ≤ 60) :
    ((dbl ring).map fun p => cnt 0 (opened ring p)).Perm (List.range (dbl ring).length) := by
  have e : ((dbl ring).map fun p => cnt 0 (opened ring p)) = ((dbl ring).map (key ring)).map fun x => ((dbl ring).map (key ring)).countP fun y => decide (y < x) := by
    rw [List.map_map]
    apply List.map_congr_left
    intro p hp
    rw [cnt_opened h1 hg hlen hp]
    show _ = ((dbl ring).map (key ring)).countP _
    rw [List.countP_map]
    rfl
  rw [e, show (dbl ring).length = ((dbl ring).map (key ring)).length by rw [List.length_map]]
  exact rank_perm (key_nodup hlen)
/-- sorted numbers that are these are the range -/
theorem range_unique {ns : List Int} {k : Nat} {ms : List Nat} (p : ns.Perm (ms.map fun n : Nat => (n : Int))) (q : ms.Perm (List.range k)) (s : ns.Pairwise (· ≤ ·)) : ns = (List.range k).map fun n : Nat => (n : Int) := by
  refine List.Perm.eq_of_pairwise (fun _ _ _ _ a b => Int.le_antisymm a b) s ?_ (p.trans (q.map _))
  refine List.pairwise_map.mpr ?_
  exact List.pairwise_lt_range.imp fun h => by omega
end Fz

end

section
set_option maxRecDepth 100000
set_option maxHeartbeats 4000000
set_option linter.unusedVariables false
open PySem PySem.W PyProof.Rows PySem.Calls PyProof.Rows.LCg
namespace Fz
noncomputable section
local macro_rules | `(tactic| walk_at "eval Name") => `(tactic| (k_here; (with_reducible show wpAny _ _ (eval (Expr.Name _ _) (compEnvC _ _ _ _)) _ _ _); k_dflt (first
  | (refine' cname_L ?F ?v ?_ ?a ?b; (case F => k_asm); (case a => rfl); (case b => rfl); (case v => rfl); k_whole)
  | (refine' cname_L ?F ?v ?_ ?a ?b; (case F => k_asm); (case a => rfl); (case b => rfl); (case v => assumption); k_whole)
  | (refine' cname_C ?F ?v ?c ?_ ?a ?b; (case F => k_asm); (case v => assumption); (case c => rfl); (case a => rfl); (case b => rfl); k_whole)
  | (refine' cname_K ?F ?X ?T ?e ?_ ?g ?a ?b; (case F => k_asm); (case X => k_asm); (case T => k_asm); (case g => rfl); (case a => rfl); (case b => rfl); (case e => k_is); k_whole)
  | (refine' cname_B ?F ?X ?T ?e ?v ?n ?_ ?g ?h ?a ?b; (case F => k_asm); (case X => k_asm); (case T => k_asm); (case g => rfl); (case h => rfl); (case a => rfl); (case b => rfl); (case e => k_is); (case v => boot_fast); (case n => decide); k_whole))))
theorem law2 {w : World} {s : Shared} {h₁ : Heap} {tk : Nat} {fa : Addr} {cd : Value} {oc : Obj} {R : Addr} {ring : List (List Nat × List Nat)} {m : Str → Option Value} {E : Value → Shared → Prop}
    (G : Gr w s.heap) (F : Fr s.heap s.heap.objs.size h₁ m) (N : News s.heap s.heap.objs.size h₁ [(s.heap.objs.size + 1, oc)]) (hc : oc.data = .cell (some (.ref R)))
    (hr : RowAt h₁ (.ref R) ring) (hlen : ring.length ≤ 60) (okr : ∀ p ∈ ring, pieceOK p = true) :
    wpAny (model (PySem.Challenge.rw_pm0045_01).prog w) (callerA.deeper (envOfC (S "law") (dS 15) s.heap.objs.size fa cd)) (exec lit15b.1 (envOfC (S "law") (dS 15) s.heap.objs.size fa cd))
      (fun f s' => f = .next ∧ ∃ h' tk' D vs, s' = { s with heap := h', toks := tk' } ∧ Fr s.heap s.heap.objs.size h' (fun y => if y = S "doubles" then some (.ref D) else m y) ∧ News s.heap s.heap.objs.size h' [(s.heap.objs.size + 1, oc)] ∧
        RowAt h' (.ref R) ring ∧ h'.IsList D vs.toArray ∧ IntsAre vs ((dbl ring).map fun n : Nat => (n : Int))) E { s with heap := h₁, toks := tk } := by
  have G' := G
  obtain ⟨X, mean, mg, mb, T⟩ := G
  revert X; k_fill; intro X
  have ok' : Ok (callerA.deeper (envOfC (S "law") (dS 15) s.heap.objs.size fa cd)) 3 := ⟨rfl, by rw [depth_deeper]; decide, by rw [units_deeper]; decide⟩
  generalize callerA.deeper (envOfC (S "law") (dS 15) s.heap.objs.size fa cd) = A at ok' ⊢
  have hm := N _ (.head _)
  have hcell : h₁.IsCell (s.heap.objs.size + 1) (some (.ref R)) := ⟨oc, hm.1, hc⟩
  obtain ⟨R', vsr, eR, hlr, hpr⟩ := hr
  cases eR
  have X₁ := X.keeps F.keep
  have T₁ := topRead_of (T.keeps F.keep)
  dsimp only [lit15b]
  refine comp_AS (J := fun i ys _ => IntsAre ys (((List.range i).filter fun p => two (ring.getD p ([], []))).map fun n : Nat => (n : Int))) (by rfl) (by decide) (by rfl) (by decide) (by rfl) (by rfl) (by rfl) (by rfl) (fun _ _ _ _ _ h => h) ?_
  k_steps
  have hsz : vsr.length = ring.length := hpr.length
  refine kun_lenL (k := (ring.length : Int)) hlr (by rw [List.size_toArray, hsz]) (by omega) ?_
  iterate 2 (first | walk1 | (dsimp only; walk1))
  rename IsRange _ _ _ _ _ _ _ _ => R₁
  rename Fr _ _ _ _ => F₁
  rename News _ _ _ _ => N₁
  rename ∀ (b : Addr) (o : Obj), _ = _ → _ = _ => kp
  dsimp only at kp R₁
  have hcell₁ := hcell.keeps kp
  have hlr₁ := list_keep kp hlr
  have hpr₁ := hpr.keep (TK.of kp)
  have hr₁ : RowAt _ (.ref R) ring := ⟨R, vsr, rfl, hlr₁, hpr₁⟩
  have X₂ := X.keeps F₁.keep
  have T₂ := topRead_of (T.keeps F₁.keep)
  clear hcell hlr hpr X₁ T₁
  refine ⟨_, _, s.heap, _, F₁, ?_, SrcOK.range (n := ring.length) ok'.han R₁ (small_one (by decide) (by decide) (by omega) (by omega)) (by rw [rangeSize_nat]; omega), .nil, ?_, ?_⟩
  · rw [sizeLine_eq]; omega
  · intro i v ys h' tk C news m' hi hP hm' F' N' hJ
    dsimp only at F' N' ⊢
    obtain ⟨t, rfl⟩ := hP
    refine wpAny_tests_one ?_
    k_steps
    rw [show (0 : Int) + (i : Int) = (i : Int) from Int.zero_add _] at hm' ⊢
    obtain ⟨v1, e1, a, t1, t2, rfl, htup⟩ := hpr₁.at hi
    obtain ⟨ot, et, ct, nt, dt⟩ := htup
    have htup' : IsTup h' a #[.str (tx ring[i].1) t1, .str (tx ring[i].2) t2] := ⟨ot, F'.keep _ _ et, ct, nt, dt⟩
    have hpl := piece_len (okr _ (List.getElem_mem hi))
    have hrg : (List.range (i + 1)).filter (fun p => two (ring.getD p ([], []))) = (List.range i).filter (fun p => two (ring.getD p ([], []))) ++ (if ring[i].2.length = 2 then [i] else []) := by
      rw [List.range_succ, List.filter_append]
      congr 1
      rw [List.filter_cons, List.filter_nil, show ring.getD i ([], []) = ring[i] by simp [hi]]
      simp [two]
    refine item_listL (list_keep F'.keep hlr₁) (Int.natCast_nonneg _) (by omega) (by rw [Int.toNat_natCast]; exact e1) ?_
    iterate 1 (first | walk1 | (dsimp only; walk1))
    refine tail_any (IsTup.typeIs htup') slot_tuple_getitem.lookup (getItem_tuple (j := 1) (x := .str (tx ring[i].2) t2) htup' (by decide) (by decide) (by rfl) (by rfl) ?_) (by with_unfolding_all rfl)
    k_steps
    refine len_str (by rw [tx_len]; omega) ?_
    rw [tx_len]
    k_steps
    · rename (_ : Int) = 2 => h2
      refine ⟨_, _, _, rfl, by assumption, by assumption, ?_⟩
      dsimp only
      rw [hrg, if_pos (by omega), List.map_append]
      exact IntsAre.append hJ (.cons _ _ .nil)
    · rename ¬ (_ : Int) = 2 => h2
      refine ⟨_, _, _, rfl, by assumption, by assumption, ?_⟩
      dsimp only
      rw [hrg, if_neg (by omega), List.append_nil]
      exact hJ
  · intro D h4 tk4 ys kp4 F4 hD _ hDL hJ
    dsimp only at kp4
    refine ⟨trivial, h4, _, D, ys, rfl, F4, fun p hp => ?_, ⟨R, vsr, rfl, list_but F₁.ns kp4 hlr₁, hpr₁.keep (tk_but F₁.ns kp4)⟩, ⟨_, hD, rfl, _, rfl⟩, hJ⟩
    rw [List.mem_singleton.mp hp]
    have n1 := N₁ _ (.head _)
    exact ⟨kp4 _ _ n1.2.1 n1.1, n1.2⟩
end
end Fz

end

section
set_option maxRecDepth 100000
set_option maxHeartbeats 4000000
set_option linter.unusedVariables false
open PySem PySem.W PyProof.Rows PySem.Calls PyProof.Rows.LCg
namespace Fz
noncomputable section
local macro_rules | `(tactic| walk_at "eval Name") => `(tactic| (k_here; (with_reducible show wpAny _ _ (eval (Expr.Name _ _) (compEnvC _ _ _ _)) _ _ _); k_dflt (first
  | (refine' cname_L ?F ?v ?_ ?a ?b; (case F => k_asm); (case a => rfl); (case b => rfl); (case v => rfl); k_whole)
  | (refine' cname_L ?F ?v ?_ ?a ?b; (case F => k_asm); (case a => rfl); (case b => rfl); (case v => assumption); k_whole)
  | (refine' cname_C ?F ?v ?c ?_ ?a ?b; (case F => k_asm); (case v => assumption); (case c => rfl); (case a => rfl); (case b => rfl); k_whole)
  | (refine' cname_K ?F ?X ?T ?e ?_ ?g ?a ?b; (case F => k_asm); (case X => k_asm); (case T => k_asm); (case g => rfl); (case a => rfl); (case b => rfl); (case e => k_is); k_whole)
  | (refine' cname_B ?F ?X ?T ?e ?v ?n ?_ ?g ?h ?a ?b; (case F => k_asm); (case X => k_asm); (case T => k_asm); (case g => rfl); (case h => rfl); (case a => rfl); (case b => rfl); (case e => k_is); (case v => boot_fast); (case n => decide); k_whole))))
theorem pick_from {vs : List Value} {x : Int} (h : 0 ≤ x) : (slicePick vs.toArray (some x) none none).toList = vs.drop x.toNat := by
  have e : sliceBounds (some x) none none vs.toArray.size = (((min x.toNat vs.toArray.size : Nat) : Int), ((vs.toArray.size : Nat) : Int), 1) := by
    simp only [sliceBounds, Option.getD_none, show (1 : Int) > 0 by decide, if_true, if_neg (show ¬ (x < 0) by omega)]
    congr 1
    omega
  rw [kmk_pick_nat _ e]
  show (vs.drop (min x.toNat vs.toArray.size)).take (vs.toArray.size - min x.toNat vs.toArray.size) = _
  rw [List.size_toArray, kmk_drop_min, List.take_of_length_le (by rw [List.length_drop]; omega)]
theorem pick_upto {vs : List Value} {y : Int} (h : 0 ≤ y) : (slicePick vs.toArray none (some y) none).toList = vs.take y.toNat := by
  have e : sliceBounds none (some y) none vs.toArray.size = (((0 : Nat) : Int), ((min y.toNat vs.toArray.size : Nat) : Int), 1) := by
    simp only [sliceBounds, Option.getD_none, show (1 : Int) > 0 by decide, if_true, if_neg (show ¬ (y < 0) by omega)]
    congr 1
    congr 1
    omega
  rw [kmk_pick_nat _ e]
  show (vs.drop 0).take (min y.toNat vs.toArray.size - 0) = _
  rw [List.drop_zero, Nat.sub_zero, List.size_toArray, kmk_take_min]
theorem Pairs.drop {h : Heap} : ∀ {vs ps} (n : Nat), Pairs h vs ps → Pairs h (vs.drop n) (ps.drop n)
  | _, _, 0, x => x
  | _, _, _ + 1, .nil => .nil
  | _, _, n + 1, .cons _ r => r.drop n
theorem Pairs.take {h : Heap} : ∀ {vs ps} (n : Nat), Pairs h vs ps → Pairs h (vs.take n) (ps.take n)
  | _, _, 0, _ => .nil
  | _, _, _ + 1, .nil => .nil
  | _, _, n + 1, .cons x r => .cons x (r.take n)
theorem dbl_le (ring : List (List Nat × List Nat)) : (dbl ring).length ≤ ring.length := by
  unfold dbl
  have := List.length_filter_le (fun p => two (ring.getD p ([], []))) (List.range ring.length)
  rw [List.length_range] at this
  exact this
theorem one_of_two {p : List Nat × List Nat} (h : pieceOK p = true) (h2 : p.2.length = 2) : p.1.length = 1 := by
  unfold pieceOK at h
  simp only [Bool.and_eq_true] at h
  have := h.2
  rw [h2] at this
  simpa using this
theorem ints_at : ∀ {vs : List Value} {ks : List Int} {i : Nat} {v : Value}, IntsAre vs ks → vs[i]? = some v → ∃ k t, ks[i]? = some k ∧ v = .int k t
  | _, _, 0, _, .cons k t _, e => ⟨k, t, rfl, by cases e; rfl⟩
  | _, _, i + 1, _, .cons _ _ r, e => ints_at (i := i) r (by simpa using e)
theorem law3 {w : World} {s : Shared} {h₁ : Heap} {tk : Nat} {fa : Addr} {cd : Value} {oc : Obj} {R D : Addr} {ring : List (List Nat × List Nat)} {vs : List Value} {m : Str → Option Value} {E : Value → Shared → Prop}
    (G : Gr w s.heap) (F : Fr s.heap s.heap.objs.size h₁ m) (hmd : m (S "doubles") = some (.ref D)) (N : News s.heap s.heap.objs.size h₁ [(s.heap.objs.size + 1, oc)]) (hc : oc.data = .cell (some (.ref R)))
    (hr : RowAt h₁ (.ref R) ring) (hlen : ring.length ≤ 60) (okr : ∀ p ∈ ring, pieceOK p = true) (hg : grow ring = 1) (hl : h₁.IsList D vs.toArray) (hi : IntsAre vs ((dbl ring).map fun n : Nat => (n : Int))) :
    wpAny (model (PySem.Challenge.rw_pm0045_01).prog w) (callerA.deeper (envOfC (S "law") (dS 15) s.heap.objs.size fa cd)) (exec lit15c.1 (envOfC (S "law") (dS 15) s.heap.objs.size fa cd))
      (fun f s' => f = .ret (.bool true) ∧ ∃ h' tk', s' = { s with heap := h', toks := tk' } ∧ Fr s.heap s.heap.objs.size h' m) E { s with heap := h₁, toks := tk } := by
  have G' := G
  obtain ⟨X, mean, mg, mb, T⟩ := G
  revert X; k_fill; intro X
  have ok' : Ok (callerA.deeper (envOfC (S "law") (dS 15) s.heap.objs.size fa cd)) 3 := ⟨rfl, by rw [depth_deeper]; decide, by rw [units_deeper]; decide⟩
  have hu : (callerA.deeper (envOfC (S "law") (dS 15) s.heap.objs.size fa cd)).units + 64 < cLine := by rw [units_deeper]; decide
  generalize callerA.deeper (envOfC (S "law") (dS 15) s.heap.objs.size fa cd) = A at ok' hu ⊢
  have hm := N _ (.head _)
  have hcell : h₁.IsCell (s.heap.objs.size + 1) (some (.ref R)) := ⟨oc, hm.1, hc⟩
  obtain ⟨R', vsr, eR, hlr, hpr⟩ := hr
  cases eR
  have hsz : vsr.length = ring.length := hpr.length
  have hdl := dbl_le ring
  have hvl : vs.length = (dbl ring).length := by rw [hi.length, List.length_map]
  have X₁ := X.keeps F.keep
  have T₁ := topRead_of (T.keeps F.keep)
  have G₁ : Gr w h₁ := G'.keep F.keep
  dsimp only [lit15c]
  iterate 6 (first | walk1 | (dsimp only; walk1))
  refine comp_A (J := fun i ys _ => IntsAre ys (((dbl ring).take i).map fun p => (cnt 0 (opened ring p) : Int))) (by rfl) (by decide) (by rfl) (by decide) (by rfl) (fun _ _ _ _ _ h => h) ?_
  refine wpAny_Name (wpAny_loadName_local rfl (by rfl) F.ns hmd ?_) (by decide)
  refine ⟨_, _, ?_, SrcOK.list ok'.han hl, .nil, ?_, ?_⟩
  · rw [List.size_toArray, hvl, sizeLine_eq]; omega
  · intro i v ys h' tk C news m' hi' hP hm' F' N' hJ
    dsimp only at F' N' ⊢
    refine wpAny_tests_nil ?_
    simp only [if_true]
    have hi2 : i < (dbl ring).length := by rw [← hvl]; simpa using hi'
    obtain ⟨t, rfl⟩ : ∃ t, v = .int ((dbl ring)[i] : Int) t := by
      obtain ⟨k, t, e, rfl⟩ := ints_at hi (by simpa using hP)
      rw [List.getElem?_map, List.getElem?_eq_getElem hi2] at e
      cases e
      exact ⟨t, rfl⟩
    have hp := List.getElem_mem hi2
    generalize hpe : (dbl ring)[i] = p at hp hm'
    k_steps
    rename Fr _ _ _ _ => F2
    rename News _ _ _ _ => N2
    have e1 : slicePick vsr.toArray (some ((p : Int) + 1)) none none = (vsr.drop (p + 1)).toArray := by
      exact Array.ext' (by rw [pick_from (by omega)]; rfl)
    have e2 : slicePick vsr.toArray none (some (p : Int)) none = (vsr.take p).toArray := by
      exact Array.ext' (by rw [pick_upto (by omega)]; rfl)
    rw [e1, e2] at N2
    dsimp only at N2 ⊢
    refine add_lists F2 N2 (N2.isList (.tail _ (.head _))) (N2.isList (.head _)) ?_ (by rw [List.length_drop, List.length_take, sizeLine_eq]; omega)
    intro h3 F3 N3
    dsimp only at N3 ⊢
    iterate 1 (first | walk1 | (dsimp only; walk1))
    have q3 := hpr.keep (TK.of F3.keep)
    have lo : (opened ring p).length ≤ 100 := by unfold opened; rw [List.length_append, List.length_drop, List.length_take]; omega
    have ho : ∀ q ∈ opened ring p, pieceOK q = true := fun q hq => by
      rcases List.mem_append.mp hq with hq | hq
      · exact okr q (List.mem_of_mem_drop hq)
      · exact okr q (List.mem_of_mem_take hq)
    refine ⟨X₁.keeps F3.keep, con_call (c139 ho lo) ok' F3 N3 G₁ ⟨_, _, rfl, N3.isList (.head _), (q3.drop (p + 1)).append (q3.take p)⟩ ?_⟩
    rintro v4 h4 tk4 F4 N4 kp4 ⟨t4, rfl⟩
    refine ⟨_, _, _, rfl, F4, ntail (ntail (ntail N4)), ?_⟩
    dsimp only
    rw [← List.take_append_getElem hi2, List.map_append, hpe]
    exact IntsAre.append hJ (.cons _ _ .nil)
  · intro D2 h4 tk4 ys kp4 hD2 _ hJ
    dsimp only at kp4
    have F4 := F.keeps kp4
    have N4 := N.grown kp4
    have hl4 := list_keep kp4 hl
    have hJ' : IntsAre ys ((dbl ring).map fun p => (cnt 0 (opened ring p) : Int)) := by
      have e : (dbl ring).take vs.toArray.size = dbl ring := List.take_of_length_le (by rw [List.size_toArray, hvl]; exact Nat.le_refl _)
      rw [← e]; exact hJ
    clear hJ F N hlr hpr hcell X₁ T₁ G₁ kp4
    obtain ⟨news4, N4', sn4⟩ := snap F4
    have hl2 : h4.IsList D2 ys.toArray := ⟨_, hD2, rfl, _, rfl⟩
    iterate 1 (first | walk1 | (dsimp only; walk1))
    refine' kso_sorted ?sF ?sN ?sl ?si ?sc ?_
    case sF => exact F4
    case sN => exact N4'
    case sl => exact hl2
    case si => exact hJ'
    case sc => rw [List.length_map]; omega
    intro D5 vs5 ns5 c5 h5 F5 N5 _ hi5 _ hp5 hs5 _
    have hl5 := sn4.list F5 (ntail N5) hl4
    clear hD2 hl4 N4' sn4
    obtain ⟨news5, N5', sn5⟩ := snap F5
    have hr5 : h5.IsList D5 vs5.toArray := N5.isList (.head _)
    have en : ns5 = (List.range (dbl ring).length).map fun n : Nat => (n : Int) := range_unique (by rw [List.map_map]; exact hp5) (plain (fun p hp => one_of_two (okr p hp)) hg hlen) hs5
    clear N5 F4 N4 hJ' hp5 hs5
    k_steps
    refine wpAny_Name (wpAny_loadName_local rfl (by rfl) F5.ns hmd ?_) (by decide)
    iterate 1 (first | walk1 | (dsimp only; walk1))
    refine kun_lenL (k := ((dbl ring).length : Int)) hl5 (by rw [List.size_toArray, hvl]) (by omega) ?_
    iterate 2 (first | walk1 | (dsimp only; walk1))
    rename IsRange _ _ _ _ _ _ _ _ => R6
    rename Fr _ _ _ _ => F6
    rename News _ _ _ _ => N6
    iterate 1 (first | walk1 | (dsimp only; walk1))
    refine kll_range (n := (dbl ring).length) ok'.han F6 N6 R6 (small_one (by decide) (by decide) (by omega) (by omega)) (by rw [rangeSize_nat]; omega) (by omega) ?_
    intro D7 us c7 h7 tk7 F7 N7 _ hi7
    have hr7 := sn5.list F7 (ntail N7) hr5
    have he : ns5 = rangeKs 0 (dbl ring).length := by
      rw [en]
      unfold rangeKs
      exact List.map_congr_left fun n _ => (Int.zero_add _).symm
    refine eq_intsK hr7 hi5 (N7.isList (.head _)) hi7 hu ?_
    rw [decide_eq_true he]
    exact ⟨rfl, h7, tk7, rfl, F7⟩
end
end Fz

end

section
set_option maxRecDepth 100000
set_option maxHeartbeats 4000000
set_option linter.unusedVariables false
open PySem PySem.W PyProof.Rows PySem.Calls PyProof.Rows.LCg
namespace Fz
noncomputable section
theorem law_body {w : World} {s : Shared} {h₁ : Heap} {tk : Nat} {fa : Addr} {cd : Value} {oc : Obj} {sl : Addr} {vs : List Value} {ks : List Int} {E : Value → Shared → Prop}
    (G : Gr w s.heap) (F : Fr s.heap s.heap.objs.size h₁ (fun y => if y = S "script" then some (.ref sl) else none)) (N : News s.heap s.heap.objs.size h₁ [(s.heap.objs.size + 1, oc)]) (hc : oc.data = .cell none)
    (hl : s.heap.IsList sl vs.toArray) (hi : IntsAre vs ks) (h63 : ks.length ≤ 63) :
    wpAny (model (PySem.Challenge.rw_pm0045_01).prog w) (callerA.deeper (envOfC (S "law") (dS 15) s.heap.objs.size fa cd)) (execs (dB 15) (envOfC (S "law") (dS 15) s.heap.objs.size fa cd))
      (fun f s' => f = .ret (.bool true) ∧ ∃ h' tk' m', s' = { s with heap := h', toks := tk' } ∧ Fr s.heap s.heap.objs.size h' m') E { s with heap := h₁, toks := tk } := by
  rw [body15]
  refine wpAny_execs_cons (wpAny_mono (law1 (c0 := 0) G F N hc hl hi h63) (fun f s1 q1 => ?_) fun _ _ e => e)
  obtain ⟨rfl, h2, tk2, oc2, R, ring, rfl, F2, N2, d2, r2, ok2, g2, l2⟩ := q1
  dsimp only
  refine wpAny_execs_cons (wpAny_mono (law2 G F2 N2 d2 r2 l2 ok2) (fun f s1 q1 => ?_) fun _ _ e => e)
  obtain ⟨rfl, h3, tk3, D, vs3, rfl, F3, N3, r3, hl3, hi3⟩ := q1
  dsimp only
  refine wpAny_execs_cons (wpAny_mono (law3 G F3 (by simp) N3 d2 r3 l2 ok2 g2 hl3 hi3) (fun f s1 q1 => ?_) fun _ _ e => e)
  obtain ⟨rfl, h4, tk4, rfl, F4⟩ := q1
  exact ⟨rfl, h4, tk4, _, rfl, F4⟩
theorem walk : WalkO qv lo (XL qv []) hk.says rlaw dlaw [] fun f vs => PySem.call f vs := by
  k_go0
  rename Tables _ _ _ _ => z1
  rename Glob _ _ _ _ _ _ _ _ => z2
  rename TopE _ _ _ _ => z3
  rename TopW _ _ _ => z4
  rename BMod _ _ _ _ _ => z5
  rename Ground _ _ _ _ _ _ _ _ _ => z6
  rename Flt.MathXP _ _ _ => z7
  rename LooseAre _ _ _ => z8
  rename Below _ _ _ _ => z9
  rename Dflts _ _ _ _ _ _ => z10
  clear z10 z9 z8 z7 z6 z5 z4 z3 z2 z1
  rename Top _ _ _ _ _ _ => T
  rename (KF _).In _ => X
  rename IntsAre _ _ => hI
  rename Heap.IsList _ _ _ => hL
  rename CellsAre _ _ _ => X0
  rename News _ _ _ _ => N0
  rename Fr _ _ _ _ => F
  have F0 : Fr _ _ _ (fun y => if y = S "script" then some (Value.ref _) else none) := F
  rw [show dlaw.body = dB 15 from rfl]
  rw [show rlaw.prog = (PySem.Challenge.rw_pm0045_01).prog from rfl]
  rename Obj.data _ = Data.cell _ => hd
  rename ¬ (_ : Int) < _ => hlen
  rename _ = #[] => hgens
  refine wpAny_mono (law_body ⟨X, _, _, _, T⟩ F0 N0 hd hL hI (by omega)) (fun f s' q => ?_) (fun _ _ e => e)
  obtain ⟨rfl, h', tk', m', rfl, F'⟩ := q
  dsimp only
  exact goodW_bool F' hgens (fun _ => by rfl) (by wrow_post)
end
end Fz

end

section
set_option maxRecDepth 100000
set_option maxHeartbeats 0
open PySem PySem.W PyProof.Rows PySem.Calls
namespace Fz
noncomputable section
theorem hd : (WalkO qv lo (XL qv []) hk.says rlaw dlaw [] fun f vs => PySem.call f vs) → PySem.Challenge.rw_pm0045_01.Holds := by
  intro hc
  w_on
  o_law
  refine holds_open (q := qv) (loose := lo) (Xt := xt) (XP := XL qv []) (Yf := hk.obs) (Ya := hk.val) (YP := hk.says) (N := 100000) left hk.of hk.keeps (fun s e => xl_of s (Bool.and_eq_true_iff.mp e).1) XL.keeps (by kernel_rfl) (by kernel_rfl) (by rfl) (fun s e => recFacts_of (Bool.and_eq_true_iff.mp e).2) (by rfl) (by assumption) (by decide +kernel) ⟨rfl, rfl, rfl, rfl, rfl, by decide +kernel⟩ ?hw hc
  w_witness2
end
end Fz

end

open PySem PySem.W PyProof.Rows
theorem PySem.Challenge.cw_pm0045_01_holds : PySem.Challenge.rw_pm0045_01.Holds := by
  exact Fz.hd Fz.walk
