import PyProof.Rows.All
import Wide.All
import OpenK.AllK
import Wide.FinOn
import Lean
import PySem.Challenge.RW_kl0050_01
open PySem PySem.W PyProof.Rows
set_option Elab.async false
set_option linter.unusedVariables false
set_option compiler.extract_closed false
namespace Mine
section
set_option maxRecDepth 100000
set_option maxHeartbeats 8000000
section
noncomputable abbrev prg : Program := PySem.Challenge.pw_kl0050_01
noncomputable abbrev bdy : List Stmt := behindTheImports prg
noncomputable def nth (l : List Stmt) (i : Nat) : Stmt := match l.drop i with
  | s :: _ => s
  | [] => .Pass default
noncomputable def stm (i : Nat) : Stmt := nth bdy i
noncomputable def cbody : Stmt → List Stmt
  | .ClassDef _ _ _ b _ _ _ _ _ _ _ => b
  | _ => []
noncomputable def meth (i j : Nat) : Stmt := nth (cbody (stm i)) j
noncomputable def fbody : Stmt → FuncBody
  | .FunctionDef _ _ b _ _ _ _ _ _ _ => .stmts b
  | _ => .stmts []
noncomputable def fargs : Stmt → Arguments
  | .FunctionDef _ a _ _ _ _ _ _ _ _ => a
  | _ => ⟨[], [], none, [], [], none, []⟩
noncomputable def fscope : Stmt → Scope
  | .FunctionDef _ _ _ _ _ _ sc _ _ _ => sc
  | _ => prg.main.scope
noncomputable def sts (i n : Nat) : List Stmt := (bdy.drop i).take n
noncomputable def env : Env := { scope := prg.main.scope, locals := mainNs, globals := mainNs, cells := [], code := .ref 13, frame := some 14 }
noncomputable abbrev cod : Code := .body bdy env
noncomputable abbrev q0 : Pos := ⟨0, 0, 0, 0⟩
noncomputable abbrev ann : Option Value := some (.ref 6)
/-- the pairs of the table of 650, out of the program's own text -/
noncomputable def pairsOf : List (Option PySem.Expr) → List PySem.Expr → List (Int × Str)
  | some (.Constant (.int k) _ _) :: ks, .Constant (.str v) _ _ :: vs => (k, v) :: pairsOf ks vs
  | _, _ => []
noncomputable def b3 : List (Int × Str) := match stm 14 with
  | .Assign _ (.Dict ks vs _) _ => pairsOf ks vs
  | _ => []
noncomputable def entsFrom (step : Nat) : Nat → List (Int × Str) → List DictEntry
  | _, [] => []
  | t, (k, v) :: r => ⟨k, .int k t, .str v (t + 1)⟩ :: entsFrom step (t + step) r
noncomputable def b3ents : List DictEntry := entsFrom 3 399 (b3.take 646) ++ entsFrom 2 2337 (b3.drop 646)
noncomputable def b3o (i : Nat) (_ : Params) : Obj := if i = 133 then ⟨.type "dict", none, .dict b3ents.toArray 650, #[]⟩ else ⟨.type "dict", none, .dict ((b3ents.drop (17 * (i - 133))).take 17).toArray ((b3ents.drop (17 * (i - 133))).take 17).length, #[]⟩
noncomputable def o_a_11 (P : Params) : Obj := (Obj.mk (Value.type "tuple") (Option.none) (Data.seq #[] 0) #[])
noncomputable def o_a_12 (P : Params) : Obj := (Obj.mk Value.none (Option.none) (Data.fields #[]) #[])
noncomputable def o_a_13 (P : Params) : Obj := (Obj.mk (Value.type "code") (Option.none) (Data.fields #[(Value.str (Str.ofString "<module>") 182), (Value.str (Str.ofString "<module>") 183), (Value.str (Str.ofString "/claim/cut.py") 184), (Value.int 1 0), (Value.int 0 0), (Value.int 0 0), (Value.int 0 0), (Value.int 0 0), (Value.ref 11), (Value.bool Bool.false), (Value.int 181 0), (Value.ref 12), Value.none, Value.none, Value.none, Value.none, (Value.int 185 0), (Value.int 1 0), (Value.str (Str.ofString "/claim/cut.py") 186)]) #[])
noncomputable def o_a_14 (P : Params) : Obj := (Obj.mk (Value.type "frame") (Option.none) Data.plain #[(Option.some (Value.ref 13)), (Option.some (Value.ref 3)), (Option.some (Value.ref 3)), (Option.none), (Option.some (Value.str (Str.ofString "__main__") 164)), (Option.none), (Option.some (Value.ref 0))])
noncomputable def T_a (P : Params) : BT := (.node (boot_o_0 P) (.node (boot_o_1 P) (.node (boot_o_3 P) (.node (boot_o_7 P) .nil .nil) (.node (o_a_11 P) .nil .nil)) (.node (boot_o_5 P) (.node (boot_o_9 P) .nil .nil) (.node (o_a_13 P) .nil .nil))) (.node (boot_o_2 P) (.node (boot_o_4 P) (.node (boot_o_8 P) .nil .nil) (.node (o_a_12 P) .nil .nil)) (.node (boot_o_6 P) (.node (boot_o_10 P) .nil .nil) (.node (o_a_14 P) .nil .nil))))
noncomputable def S_a (w : World) (os : OsState) : SharedT := ⟨T_a w.params, 15, (Life.mk [] [] [] 0 [] [] Bool.false #[] [] 0 Bool.false Bool.false Bool.false 0 [2000, 10, 10] Bool.false 0 Bool.true [] [] 0 Bool.false), #[], (Drawn.mk 0 0 0 0), 187, os⟩ -- pos ⟨0, 0, 0, 0⟩ steps 12
noncomputable def T_b (P : Params) : BT := (.node (boot_o_0 P) (.node (boot_o_1 P) (.node (boot_o_3 P) (.node (boot_o_7 P) .nil .nil) (.node (o_a_11 P) .nil .nil)) (.node (boot_o_5 P) (.node (boot_o_9 P) .nil .nil) (.node (o_a_13 P) .nil .nil))) (.node (boot_o_2 P) (.node (boot_o_4 P) (.node (boot_o_8 P) .nil .nil) (.node (o_a_12 P) .nil .nil)) (.node (boot_o_6 P) (.node (boot_o_10 P) .nil .nil) (.node (o_a_14 P) .nil .nil))))
noncomputable def S_b (w : World) (os : OsState) : SharedT := ⟨T_b w.params, 15, (Life.mk [] [] [] 0 [] [] Bool.false #[] [] 0 Bool.false Bool.false Bool.false 0 [2000, 10, 10] Bool.false 0 Bool.true [] [] 0 Bool.false), #[], (Drawn.mk 0 0 0 0), 187, os⟩ -- pos ⟨0, 0, 0, 0⟩ steps 0
noncomputable def o_2_3 (P : Params) : Obj := (Obj.mk (Value.type "dict") (Option.none) (Data.dict #[(DictEntry.mk (PyData.keyHash P (Str.ofString "__name__")) (Value.str (Str.ofString "__name__") 165) (Value.str (Str.ofString "cpy313.dis") 247)), (DictEntry.mk (PyData.keyHash P (Str.ofString "__doc__")) (Value.str (Str.ofString "__doc__") 166) Value.none), (DictEntry.mk (PyData.keyHash P (Str.ofString "__package__")) (Value.str (Str.ofString "__package__") 167) Value.none), (DictEntry.mk (PyData.keyHash P (Str.ofString "__loader__")) (Value.str (Str.ofString "__loader__") 168) (Value.builtin "__main__.__loader__#opaque")), (DictEntry.mk (PyData.keyHash P (Str.ofString "__spec__")) (Value.str (Str.ofString "__spec__") 169) Value.none), (DictEntry.mk (PyData.keyHash P (Str.ofString "__annotations__")) (Value.str (Str.ofString "__annotations__") 170) (Value.ref 6)), (DictEntry.mk (PyData.keyHash P (Str.ofString "__builtins__")) (Value.str (Str.ofString "__builtins__") 171) (Value.ref 4)), (DictEntry.mk (PyData.keyHash P (Str.ofString "__file__")) (Value.str (Str.ofString "__file__") 173) (Value.str (Str.ofString "/claim/cut.py") 172)), (DictEntry.mk (PyData.keyHash P (Str.ofString "__cached__")) (Value.str (Str.ofString "__cached__") 174) Value.none), (DictEntry.mk (PyData.keyHash P (Str.ofString "_netrclex")) (Value.str (Str.ofString "_netrclex") 246) (Value.ref 52))] 10) #[])
noncomputable def o_2_12 (P : Params) : Obj := (Obj.mk Value.none (Option.none) (Data.fields #[(Value.int 2 0), (Value.int 0 0), (Value.ref 20)]) #[])
noncomputable def o_2_15 (P : Params) : Obj := (Obj.mk (Value.type "tuple") (Option.none) (Data.seq #[] 0) #[])
noncomputable def o_2_16 (P : Params) : Obj := (Obj.mk (Value.type "builtin_function_or_method") (Option.none) (Data.fields #[(Value.builtin "type.__prepare__"), (Value.type "type")]) #[])
noncomputable def o_2_17 (P : Params) : Obj := (Obj.mk (Value.type "dict") (Option.none) (Data.dict #[(DictEntry.mk (PyData.keyHash P (Str.ofString "__module__")) (Value.str (Str.ofString "__module__") 196) (Value.str (Str.ofString "cpy313.netrc") 187)), (DictEntry.mk (PyData.keyHash P (Str.ofString "__qualname__")) (Value.str (Str.ofString "__qualname__") 198) (Value.str (Str.ofString "_netrclex") 197)), (DictEntry.mk (PyData.keyHash P (Str.ofString "__firstlineno__")) (Value.str (Str.ofString "__firstlineno__") 200) (Value.int 2 199)), (DictEntry.mk (PyData.keyHash P (Str.ofString "__init__")) (Value.str (Str.ofString "__init__") 208) (Value.ref 28)), (DictEntry.mk (PyData.keyHash P (Str.ofString "_read_char")) (Value.str (Str.ofString "_read_char") 216) (Value.ref 35)), (DictEntry.mk (PyData.keyHash P (Str.ofString "get_token")) (Value.str (Str.ofString "get_token") 226) (Value.ref 42)), (DictEntry.mk (PyData.keyHash P (Str.ofString "push_token")) (Value.str (Str.ofString "push_token") 234) (Value.ref 49)), (DictEntry.mk (PyData.keyHash P (Str.ofString "__static_attributes__")) (Value.str (Str.ofString "__static_attributes__") 239) (Value.ref 50))] 8) #[])
noncomputable def o_2_18 (P : Params) : Obj := (Obj.mk (Value.type "tuple") (Option.none) (Data.seq #[] 0) #[])
noncomputable def o_2_19 (P : Params) : Obj := (Obj.mk Value.none (Option.none) (Data.fields #[(Value.int 4 0), (Value.int 4 0), (Value.ref 27), (Value.int 10 0), (Value.int 4 0), (Value.ref 34), (Value.int 16 0), (Value.int 4 0), (Value.ref 41), (Value.int 43 0), (Value.int 4 0), (Value.ref 48)]) #[])
noncomputable def o_2_20 (P : Params) : Obj := (Obj.mk (Value.type "code") (Option.none) (Data.fields #[(Value.str (Str.ofString "_netrclex") 191), (Value.str (Str.ofString "_netrclex") 192), (Value.str (Str.ofString "/claim/cut.py") 193), (Value.int 2 0), (Value.int 0 0), (Value.int 0 0), (Value.int 0 0), (Value.int 0 0), (Value.ref 18), (Value.bool Bool.false), (Value.int 181 0), (Value.ref 19), Value.none, Value.none, Value.none, Value.none, (Value.int 194 0), (Value.int 2 0), (Value.str (Str.ofString "/claim/cut.py") 195)]) #[])
noncomputable def o_2_21 (P : Params) : Obj := (Obj.mk (Value.type "frame") (Option.none) Data.plain #[(Option.some (Value.ref 20)), (Option.some (Value.ref 3)), (Option.some (Value.ref 17)), (Option.none), (Option.some (Value.str (Str.ofString "cpy313.netrc") 187)), (Option.none), (Option.some (Value.ref 0))])
noncomputable def o_2_22 (P : Params) : Obj := (Obj.mk (Value.type "tuple") (Option.none) (Data.seq #[] 0) #[])
noncomputable def o_2_23 (P : Params) : Obj := (Obj.mk Value.none (Option.none) (Data.fields #[]) #[])
noncomputable def o_2_24 (P : Params) : Obj := (Obj.mk (Value.type "tuple") (Option.none) (Data.seq #[(Value.str (Str.ofString "self") 204), (Value.str (Str.ofString "fp") 205)] 0) #[])
noncomputable def o_2_25 (P : Params) : Obj := (Obj.mk (Value.type "tuple") (Option.none) (Data.seq #[] 0) #[])
noncomputable def o_2_26 (P : Params) : Obj := ⟨Value.none, (Option.none), (.func (FuncData.mk (Str.ofString "__init__") (Str.ofString "_netrclex.__init__") (fargs (meth 1 0)) (fbody (meth 1 0)) (fscope (meth 1 0)) 0 [] Value.none Value.none Value.none Value.none (Option.none) Value.none Value.none 0)), #[]⟩
noncomputable def o_2_27 (P : Params) : Obj := (Obj.mk (Value.type "code") (Option.none) (Data.fields #[(Value.str (Str.ofString "__init__") 201), (Value.str (Str.ofString "_netrclex.__init__") 202), (Value.str (Str.ofString "/claim/cut.py") 203), (Value.int 4 0), (Value.int 2 0), (Value.int 0 0), (Value.int 0 0), (Value.int 3 0), (Value.ref 22), (Value.bool Bool.true), (Value.int 181 0), (Value.ref 23), Value.none, (Value.ref 24), (Value.ref 25), (Value.ref 26), (Value.int 206 0), (Value.int 4 0), (Value.str (Str.ofString "/claim/cut.py") 207)]) #[])
noncomputable def o_2_28 (P : Params) : Obj := ⟨(Value.type "function"), (Option.none), (.func (FuncData.mk (Str.ofString "__init__") (Str.ofString "_netrclex.__init__") (fargs (meth 1 0)) (fbody (meth 1 0)) (fscope (meth 1 0)) 3 [] Value.none Value.none Value.none (Value.str (Str.ofString "cpy313.netrc") 187) (Option.none) (Value.ref 27) Value.none 0)), #[]⟩
noncomputable def o_2_29 (P : Params) : Obj := (Obj.mk (Value.type "tuple") (Option.none) (Data.seq #[] 0) #[])
noncomputable def o_2_30 (P : Params) : Obj := (Obj.mk Value.none (Option.none) (Data.fields #[]) #[])
noncomputable def o_2_31 (P : Params) : Obj := (Obj.mk (Value.type "tuple") (Option.none) (Data.seq #[(Value.str (Str.ofString "self") 212), (Value.str (Str.ofString "ch") 213)] 0) #[])
noncomputable def o_2_32 (P : Params) : Obj := (Obj.mk (Value.type "tuple") (Option.none) (Data.seq #[] 0) #[])
noncomputable def o_2_33 (P : Params) : Obj := ⟨Value.none, (Option.none), (.func (FuncData.mk (Str.ofString "_read_char") (Str.ofString "_netrclex._read_char") (fargs (meth 1 1)) (fbody (meth 1 1)) (fscope (meth 1 1)) 0 [] Value.none Value.none Value.none Value.none (Option.none) Value.none Value.none 0)), #[]⟩
noncomputable def o_2_34 (P : Params) : Obj := (Obj.mk (Value.type "code") (Option.none) (Data.fields #[(Value.str (Str.ofString "_read_char") 209), (Value.str (Str.ofString "_netrclex._read_char") 210), (Value.str (Str.ofString "/claim/cut.py") 211), (Value.int 10 0), (Value.int 1 0), (Value.int 0 0), (Value.int 0 0), (Value.int 3 0), (Value.ref 29), (Value.bool Bool.true), (Value.int 181 0), (Value.ref 30), Value.none, (Value.ref 31), (Value.ref 32), (Value.ref 33), (Value.int 214 0), (Value.int 10 0), (Value.str (Str.ofString "/claim/cut.py") 215)]) #[])
noncomputable def o_2_35 (P : Params) : Obj := ⟨(Value.type "function"), (Option.none), (.func (FuncData.mk (Str.ofString "_read_char") (Str.ofString "_netrclex._read_char") (fargs (meth 1 1)) (fbody (meth 1 1)) (fscope (meth 1 1)) 3 [] Value.none Value.none Value.none (Value.str (Str.ofString "cpy313.netrc") 187) (Option.none) (Value.ref 34) Value.none 0)), #[]⟩
noncomputable def o_2_36 (P : Params) : Obj := (Obj.mk (Value.type "tuple") (Option.none) (Data.seq #[] 0) #[])
noncomputable def o_2_37 (P : Params) : Obj := (Obj.mk Value.none (Option.none) (Data.fields #[]) #[])
noncomputable def o_2_38 (P : Params) : Obj := (Obj.mk (Value.type "tuple") (Option.none) (Data.seq #[(Value.str (Str.ofString "self") 220), (Value.str (Str.ofString "token") 221), (Value.str (Str.ofString "fiter") 222), (Value.str (Str.ofString "ch") 223)] 0) #[])
noncomputable def o_2_39 (P : Params) : Obj := (Obj.mk (Value.type "tuple") (Option.none) (Data.seq #[] 0) #[])
noncomputable def o_2_40 (P : Params) : Obj := ⟨Value.none, (Option.none), (.func (FuncData.mk (Str.ofString "get_token") (Str.ofString "_netrclex.get_token") (fargs (meth 1 2)) (fbody (meth 1 2)) (fscope (meth 1 2)) 0 [] Value.none Value.none Value.none Value.none (Option.none) Value.none Value.none 0)), #[]⟩
noncomputable def o_2_41 (P : Params) : Obj := (Obj.mk (Value.type "code") (Option.none) (Data.fields #[(Value.str (Str.ofString "get_token") 217), (Value.str (Str.ofString "_netrclex.get_token") 218), (Value.str (Str.ofString "/claim/cut.py") 219), (Value.int 16 0), (Value.int 1 0), (Value.int 0 0), (Value.int 0 0), (Value.int 3 0), (Value.ref 36), (Value.bool Bool.true), (Value.int 181 0), (Value.ref 37), Value.none, (Value.ref 38), (Value.ref 39), (Value.ref 40), (Value.int 224 0), (Value.int 16 0), (Value.str (Str.ofString "/claim/cut.py") 225)]) #[])
noncomputable def o_2_42 (P : Params) : Obj := ⟨(Value.type "function"), (Option.none), (.func (FuncData.mk (Str.ofString "get_token") (Str.ofString "_netrclex.get_token") (fargs (meth 1 2)) (fbody (meth 1 2)) (fscope (meth 1 2)) 3 [] Value.none Value.none Value.none (Value.str (Str.ofString "cpy313.netrc") 187) (Option.none) (Value.ref 41) Value.none 0)), #[]⟩
noncomputable def o_2_43 (P : Params) : Obj := (Obj.mk (Value.type "tuple") (Option.none) (Data.seq #[] 0) #[])
noncomputable def o_2_44 (P : Params) : Obj := (Obj.mk Value.none (Option.none) (Data.fields #[]) #[])
noncomputable def o_2_45 (P : Params) : Obj := (Obj.mk (Value.type "tuple") (Option.none) (Data.seq #[(Value.str (Str.ofString "self") 230), (Value.str (Str.ofString "token") 231)] 0) #[])
noncomputable def o_2_46 (P : Params) : Obj := (Obj.mk (Value.type "tuple") (Option.none) (Data.seq #[] 0) #[])
noncomputable def o_2_47 (P : Params) : Obj := ⟨Value.none, (Option.none), (.func (FuncData.mk (Str.ofString "push_token") (Str.ofString "_netrclex.push_token") (fargs (meth 1 3)) (fbody (meth 1 3)) (fscope (meth 1 3)) 0 [] Value.none Value.none Value.none Value.none (Option.none) Value.none Value.none 0)), #[]⟩
noncomputable def o_2_48 (P : Params) : Obj := (Obj.mk (Value.type "code") (Option.none) (Data.fields #[(Value.str (Str.ofString "push_token") 227), (Value.str (Str.ofString "_netrclex.push_token") 228), (Value.str (Str.ofString "/claim/cut.py") 229), (Value.int 43 0), (Value.int 2 0), (Value.int 0 0), (Value.int 0 0), (Value.int 3 0), (Value.ref 43), (Value.bool Bool.true), (Value.int 181 0), (Value.ref 44), Value.none, (Value.ref 45), (Value.ref 46), (Value.ref 47), (Value.int 232 0), (Value.int 43 0), (Value.str (Str.ofString "/claim/cut.py") 233)]) #[])
noncomputable def o_2_49 (P : Params) : Obj := ⟨(Value.type "function"), (Option.none), (.func (FuncData.mk (Str.ofString "push_token") (Str.ofString "_netrclex.push_token") (fargs (meth 1 3)) (fbody (meth 1 3)) (fscope (meth 1 3)) 3 [] Value.none Value.none Value.none (Value.str (Str.ofString "cpy313.netrc") 187) (Option.none) (Value.ref 48) Value.none 0)), #[]⟩
noncomputable def o_2_50 (P : Params) : Obj := (Obj.mk (Value.type "tuple") (Option.none) (Data.seq #[(Value.str (Str.ofString "instream") 235), (Value.str (Str.ofString "lineno") 236), (Value.str (Str.ofString "pushback") 237), (Value.str (Str.ofString "whitespace") 238)] 0) #[])
noncomputable def o_2_51 (P : Params) : Obj := (Obj.mk (Value.type "dict") (Option.none) (Data.dict #[(DictEntry.mk (PyData.keyHash P (Str.ofString "__module__")) (Value.str (Str.ofString "__module__") 196) (Value.str (Str.ofString "cpy313.netrc") 187)), (DictEntry.mk (PyData.keyHash P (Str.ofString "__firstlineno__")) (Value.str (Str.ofString "__firstlineno__") 200) (Value.int 2 199)), (DictEntry.mk (PyData.keyHash P (Str.ofString "__init__")) (Value.str (Str.ofString "__init__") 208) (Value.ref 28)), (DictEntry.mk (PyData.keyHash P (Str.ofString "_read_char")) (Value.str (Str.ofString "_read_char") 216) (Value.ref 35)), (DictEntry.mk (PyData.keyHash P (Str.ofString "get_token")) (Value.str (Str.ofString "get_token") 226) (Value.ref 42)), (DictEntry.mk (PyData.keyHash P (Str.ofString "push_token")) (Value.str (Str.ofString "push_token") 234) (Value.ref 49)), (DictEntry.mk (PyData.keyHash P (Str.ofString "__static_attributes__")) (Value.str (Str.ofString "__static_attributes__") 239) (Value.ref 50)), (DictEntry.mk (PyData.keyHash P (Str.ofString "__dict__")) (Value.str (Str.ofString "__dict__") 241) (Value.ref 53)), (DictEntry.mk (PyData.keyHash P (Str.ofString "__weakref__")) (Value.str (Str.ofString "__weakref__") 243) (Value.ref 54)), (DictEntry.mk (PyData.keyHash P (Str.ofString "__doc__")) (Value.str (Str.ofString "__doc__") 244) Value.none)] 4) #[])
noncomputable def o_2_52 (P : Params) : Obj := (Obj.mk (Value.type "type") (Option.none) (Data.cls (ClassData.mk (Str.ofString "_netrclex") [(Value.type "object")] [(Value.ref 52), (Value.type "object")] 51 (Str.ofString "_netrclex") Bool.true [] [] Bool.false (Option.none) Bool.false)) #[(Option.none), (Option.none), (Option.some (Value.str (Str.ofString "_netrclex") 189)), (Option.some (Value.str (Str.ofString "_netrclex") 197)), (Option.some (Value.builtin "object.__new__")), (Option.some (Value.bool Bool.true))])
noncomputable def o_2_53 (P : Params) : Obj := (Obj.mk (Value.type "getset_descriptor") (Option.none) (Data.fields #[(Value.str (Str.ofString "__dict__") 240), (Value.ref 52), (Value.builtin "function.__dict__"), (Value.builtin "function.__dict__#set")]) #[])
noncomputable def o_2_54 (P : Params) : Obj := (Obj.mk (Value.type "getset_descriptor") (Option.none) (Data.fields #[(Value.str (Str.ofString "__weakref__") 242), (Value.ref 52), (Value.builtin "ExceptionGroup.__weakref__"), Value.none]) #[])
noncomputable def o_2_55 (P : Params) : Obj := (Obj.mk (Value.type "super") (Option.none) (Data.fields #[(Value.ref 52), (Value.ref 52), (Value.ref 52)]) #[])
noncomputable def o_2_56 (P : Params) : Obj := (Obj.mk (Value.type "builtin_function_or_method") (Option.none) (Data.fields #[(Value.builtin "object.__init_subclass__"), (Value.ref 52)]) #[])
noncomputable def T_2 (P : Params) : BT := (.node (boot_o_0 P) (.node (boot_o_1 P) (.node (o_2_3 P) (.node (boot_o_7 P) (.node (o_2_15 P) (.node (o_2_31 P) .nil .nil) (.node (o_2_47 P) .nil .nil)) (.node (o_2_23 P) (.node (o_2_39 P) .nil .nil) (.node (o_2_55 P) .nil .nil))) (.node (o_a_11 P) (.node (o_2_19 P) (.node (o_2_35 P) .nil .nil) (.node (o_2_51 P) .nil .nil)) (.node (o_2_27 P) (.node (o_2_43 P) .nil .nil) .nil))) (.node (boot_o_5 P) (.node (boot_o_9 P) (.node (o_2_17 P) (.node (o_2_33 P) .nil .nil) (.node (o_2_49 P) .nil .nil)) (.node (o_2_25 P) (.node (o_2_41 P) .nil .nil) .nil)) (.node (o_a_13 P) (.node (o_2_21 P) (.node (o_2_37 P) .nil .nil) (.node (o_2_53 P) .nil .nil)) (.node (o_2_29 P) (.node (o_2_45 P) .nil .nil) .nil)))) (.node (boot_o_2 P) (.node (boot_o_4 P) (.node (boot_o_8 P) (.node (o_2_16 P) (.node (o_2_32 P) .nil .nil) (.node (o_2_48 P) .nil .nil)) (.node (o_2_24 P) (.node (o_2_40 P) .nil .nil) (.node (o_2_56 P) .nil .nil))) (.node (o_2_12 P) (.node (o_2_20 P) (.node (o_2_36 P) .nil .nil) (.node (o_2_52 P) .nil .nil)) (.node (o_2_28 P) (.node (o_2_44 P) .nil .nil) .nil))) (.node (boot_o_6 P) (.node (boot_o_10 P) (.node (o_2_18 P) (.node (o_2_34 P) .nil .nil) (.node (o_2_50 P) .nil .nil)) (.node (o_2_26 P) (.node (o_2_42 P) .nil .nil) .nil)) (.node (o_a_14 P) (.node (o_2_22 P) (.node (o_2_38 P) .nil .nil) (.node (o_2_54 P) .nil .nil)) (.node (o_2_30 P) (.node (o_2_46 P) .nil .nil) .nil)))))
noncomputable def S_2 (w : World) (os : OsState) : SharedT := ⟨T_2 w.params, 57, (Life.mk [] [] [] 0 [] [] Bool.false #[] [] 0 Bool.false Bool.false Bool.false 0 [2000, 10, 10] Bool.false 0 Bool.true [] [] 0 Bool.false), #[], (Drawn.mk 0 0 0 0), 249, os⟩ -- pos ⟨45, 0, 45, 8⟩ steps 9
noncomputable def o_9_3 (P : Params) : Obj := (Obj.mk (Value.type "dict") (Option.none) (Data.dict #[(DictEntry.mk (PyData.keyHash P (Str.ofString "__name__")) (Value.str (Str.ofString "__name__") 165) (Value.str (Str.ofString "cpy313.email.utils") 296)), (DictEntry.mk (PyData.keyHash P (Str.ofString "__doc__")) (Value.str (Str.ofString "__doc__") 166) Value.none), (DictEntry.mk (PyData.keyHash P (Str.ofString "__package__")) (Value.str (Str.ofString "__package__") 167) Value.none), (DictEntry.mk (PyData.keyHash P (Str.ofString "__loader__")) (Value.str (Str.ofString "__loader__") 168) (Value.builtin "__main__.__loader__#opaque")), (DictEntry.mk (PyData.keyHash P (Str.ofString "__spec__")) (Value.str (Str.ofString "__spec__") 169) Value.none), (DictEntry.mk (PyData.keyHash P (Str.ofString "__annotations__")) (Value.str (Str.ofString "__annotations__") 170) (Value.ref 6)), (DictEntry.mk (PyData.keyHash P (Str.ofString "__builtins__")) (Value.str (Str.ofString "__builtins__") 171) (Value.ref 4)), (DictEntry.mk (PyData.keyHash P (Str.ofString "__file__")) (Value.str (Str.ofString "__file__") 173) (Value.str (Str.ofString "/claim/cut.py") 172)), (DictEntry.mk (PyData.keyHash P (Str.ofString "__cached__")) (Value.str (Str.ofString "__cached__") 174) Value.none), (DictEntry.mk (PyData.keyHash P (Str.ofString "_netrclex")) (Value.str (Str.ofString "_netrclex") 246) (Value.ref 52)), (DictEntry.mk (PyData.keyHash P (Str.ofString "_Unknown")) (Value.str (Str.ofString "_Unknown") 275) (Value.ref 73)), (DictEntry.mk (PyData.keyHash P (Str.ofString "UNKNOWN")) (Value.str (Str.ofString "UNKNOWN") 276) (Value.ref 79)), (DictEntry.mk (PyData.keyHash P (Str.ofString "_get_name_info")) (Value.str (Str.ofString "_get_name_info") 286) (Value.ref 86)), (DictEntry.mk (PyData.keyHash P (Str.ofString "_parse_varint")) (Value.str (Str.ofString "_parse_varint") 295) (Value.ref 93)), (DictEntry.mk (PyData.keyHash P (Str.ofString "_iter_escaped_chars")) (Value.str (Str.ofString "_iter_escaped_chars") 307) (Value.ref 100)), (DictEntry.mk (PyData.keyHash P (Str.ofString "_strip_quoted_realnames")) (Value.str (Str.ofString "_strip_quoted_realnames") 319) (Value.ref 107))] 16) #[])
noncomputable def o_9_12 (P : Params) : Obj := (Obj.mk Value.none (Option.none) (Data.fields #[(Value.int 2 0), (Value.int 0 0), (Value.ref 20), (Value.int 46 0), (Value.int 0 0), (Value.ref 62), (Value.int 51 0), (Value.int 0 0), (Value.ref 85), (Value.int 57 0), (Value.int 0 0), (Value.ref 92), (Value.int 66 0), (Value.int 0 0), (Value.ref 99), (Value.int 79 0), (Value.int 0 0), (Value.ref 106)]) #[])
noncomputable def o_9_57 (P : Params) : Obj := (Obj.mk (Value.type "tuple") (Option.none) (Data.seq #[] 0) #[])
noncomputable def o_9_58 (P : Params) : Obj := (Obj.mk (Value.type "builtin_function_or_method") (Option.none) (Data.fields #[(Value.builtin "type.__prepare__"), (Value.type "type")]) #[])
noncomputable def o_9_59 (P : Params) : Obj := (Obj.mk (Value.type "dict") (Option.none) (Data.dict #[(DictEntry.mk (PyData.keyHash P (Str.ofString "__module__")) (Value.str (Str.ofString "__module__") 256) (Value.str (Str.ofString "cpy313.dis") 247)), (DictEntry.mk (PyData.keyHash P (Str.ofString "__qualname__")) (Value.str (Str.ofString "__qualname__") 258) (Value.str (Str.ofString "_Unknown") 257)), (DictEntry.mk (PyData.keyHash P (Str.ofString "__firstlineno__")) (Value.str (Str.ofString "__firstlineno__") 260) (Value.int 46 259)), (DictEntry.mk (PyData.keyHash P (Str.ofString "__repr__")) (Value.str (Str.ofString "__repr__") 267) (Value.ref 70)), (DictEntry.mk (PyData.keyHash P (Str.ofString "__static_attributes__")) (Value.str (Str.ofString "__static_attributes__") 268) (Value.ref 71))] 5) #[])
noncomputable def o_9_60 (P : Params) : Obj := (Obj.mk (Value.type "tuple") (Option.none) (Data.seq #[] 0) #[])
noncomputable def o_9_61 (P : Params) : Obj := (Obj.mk Value.none (Option.none) (Data.fields #[(Value.int 48 0), (Value.int 4 0), (Value.ref 69)]) #[])
noncomputable def o_9_62 (P : Params) : Obj := (Obj.mk (Value.type "code") (Option.none) (Data.fields #[(Value.str (Str.ofString "_Unknown") 251), (Value.str (Str.ofString "_Unknown") 252), (Value.str (Str.ofString "/claim/cut.py") 253), (Value.int 46 0), (Value.int 0 0), (Value.int 0 0), (Value.int 0 0), (Value.int 0 0), (Value.ref 60), (Value.bool Bool.false), (Value.int 181 0), (Value.ref 61), Value.none, Value.none, Value.none, Value.none, (Value.int 254 0), (Value.int 46 0), (Value.str (Str.ofString "/claim/cut.py") 255)]) #[])
noncomputable def o_9_63 (P : Params) : Obj := (Obj.mk (Value.type "frame") (Option.none) Data.plain #[(Option.some (Value.ref 62)), (Option.some (Value.ref 3)), (Option.some (Value.ref 59)), (Option.none), (Option.some (Value.str (Str.ofString "cpy313.dis") 247)), (Option.none), (Option.some (Value.ref 0))])
noncomputable def o_9_64 (P : Params) : Obj := (Obj.mk (Value.type "tuple") (Option.none) (Data.seq #[] 0) #[])
noncomputable def o_9_65 (P : Params) : Obj := (Obj.mk Value.none (Option.none) (Data.fields #[]) #[])
noncomputable def o_9_66 (P : Params) : Obj := (Obj.mk (Value.type "tuple") (Option.none) (Data.seq #[(Value.str (Str.ofString "self") 264)] 0) #[])
noncomputable def o_9_67 (P : Params) : Obj := (Obj.mk (Value.type "tuple") (Option.none) (Data.seq #[] 0) #[])
noncomputable def o_9_68 (P : Params) : Obj := ⟨Value.none, (Option.none), (.func (FuncData.mk (Str.ofString "__repr__") (Str.ofString "_Unknown.__repr__") (fargs (meth 3 0)) (fbody (meth 3 0)) (fscope (meth 3 0)) 0 [] Value.none Value.none Value.none Value.none (Option.none) Value.none Value.none 0)), #[]⟩
noncomputable def o_9_69 (P : Params) : Obj := (Obj.mk (Value.type "code") (Option.none) (Data.fields #[(Value.str (Str.ofString "__repr__") 261), (Value.str (Str.ofString "_Unknown.__repr__") 262), (Value.str (Str.ofString "/claim/cut.py") 263), (Value.int 48 0), (Value.int 1 0), (Value.int 0 0), (Value.int 0 0), (Value.int 3 0), (Value.ref 64), (Value.bool Bool.true), (Value.int 181 0), (Value.ref 65), Value.none, (Value.ref 66), (Value.ref 67), (Value.ref 68), (Value.int 265 0), (Value.int 48 0), (Value.str (Str.ofString "/claim/cut.py") 266)]) #[])
noncomputable def o_9_70 (P : Params) : Obj := ⟨(Value.type "function"), (Option.none), (.func (FuncData.mk (Str.ofString "__repr__") (Str.ofString "_Unknown.__repr__") (fargs (meth 3 0)) (fbody (meth 3 0)) (fscope (meth 3 0)) 3 [] Value.none Value.none Value.none (Value.str (Str.ofString "cpy313.dis") 247) (Option.none) (Value.ref 69) Value.none 0)), #[]⟩
noncomputable def o_9_71 (P : Params) : Obj := (Obj.mk (Value.type "tuple") (Option.none) (Data.seq #[] 0) #[])
noncomputable def o_9_72 (P : Params) : Obj := (Obj.mk (Value.type "dict") (Option.none) (Data.dict #[(DictEntry.mk (PyData.keyHash P (Str.ofString "__module__")) (Value.str (Str.ofString "__module__") 256) (Value.str (Str.ofString "cpy313.dis") 247)), (DictEntry.mk (PyData.keyHash P (Str.ofString "__firstlineno__")) (Value.str (Str.ofString "__firstlineno__") 260) (Value.int 46 259)), (DictEntry.mk (PyData.keyHash P (Str.ofString "__repr__")) (Value.str (Str.ofString "__repr__") 267) (Value.ref 70)), (DictEntry.mk (PyData.keyHash P (Str.ofString "__static_attributes__")) (Value.str (Str.ofString "__static_attributes__") 268) (Value.ref 71)), (DictEntry.mk (PyData.keyHash P (Str.ofString "__dict__")) (Value.str (Str.ofString "__dict__") 270) (Value.ref 74)), (DictEntry.mk (PyData.keyHash P (Str.ofString "__weakref__")) (Value.str (Str.ofString "__weakref__") 272) (Value.ref 75)), (DictEntry.mk (PyData.keyHash P (Str.ofString "__doc__")) (Value.str (Str.ofString "__doc__") 273) Value.none)] 4) #[])
noncomputable def o_9_73 (P : Params) : Obj := (Obj.mk (Value.type "type") (Option.none) (Data.cls (ClassData.mk (Str.ofString "_Unknown") [(Value.type "object")] [(Value.ref 73), (Value.type "object")] 72 (Str.ofString "_Unknown") Bool.true [] [] Bool.false (Option.none) Bool.false)) #[(Option.none), (Option.none), (Option.some (Value.str (Str.ofString "_Unknown") 249)), (Option.some (Value.str (Str.ofString "_Unknown") 257)), (Option.some (Value.builtin "object.__new__")), (Option.some (Value.bool Bool.true))])
noncomputable def o_9_74 (P : Params) : Obj := (Obj.mk (Value.type "getset_descriptor") (Option.none) (Data.fields #[(Value.str (Str.ofString "__dict__") 269), (Value.ref 73), (Value.builtin "function.__dict__"), (Value.builtin "function.__dict__#set")]) #[])
noncomputable def o_9_75 (P : Params) : Obj := (Obj.mk (Value.type "getset_descriptor") (Option.none) (Data.fields #[(Value.str (Str.ofString "__weakref__") 271), (Value.ref 73), (Value.builtin "ExceptionGroup.__weakref__"), Value.none]) #[])
noncomputable def o_9_76 (P : Params) : Obj := (Obj.mk (Value.type "super") (Option.none) (Data.fields #[(Value.ref 73), (Value.ref 73), (Value.ref 73)]) #[])
noncomputable def o_9_77 (P : Params) : Obj := (Obj.mk (Value.type "builtin_function_or_method") (Option.none) (Data.fields #[(Value.builtin "object.__init_subclass__"), (Value.ref 73)]) #[])
noncomputable def o_9_78 (P : Params) : Obj := (Obj.mk (Value.type "dict") (Option.none) (Data.dict #[] 0) #[])
noncomputable def o_9_79 (P : Params) : Obj := (Obj.mk (Value.ref 73) (Option.some 78) Data.plain #[])
noncomputable def o_9_80 (P : Params) : Obj := (Obj.mk (Value.type "tuple") (Option.none) (Data.seq #[] 0) #[])
noncomputable def o_9_81 (P : Params) : Obj := (Obj.mk Value.none (Option.none) (Data.fields #[]) #[])
noncomputable def o_9_82 (P : Params) : Obj := (Obj.mk (Value.type "tuple") (Option.none) (Data.seq #[(Value.str (Str.ofString "name_index") 280), (Value.str (Str.ofString "get_name") 281), (Value.str (Str.ofString "extrainfo") 282), (Value.str (Str.ofString "argval") 283)] 0) #[])
noncomputable def o_9_83 (P : Params) : Obj := (Obj.mk (Value.type "tuple") (Option.none) (Data.seq #[] 0) #[])
noncomputable def o_9_84 (P : Params) : Obj := ⟨Value.none, (Option.none), (.func (FuncData.mk (Str.ofString "_get_name_info") (Str.ofString "_get_name_info") (fargs (stm 5)) (fbody (stm 5)) (fscope (stm 5)) 0 [] Value.none Value.none Value.none Value.none (Option.none) Value.none Value.none 0)), #[]⟩
noncomputable def o_9_85 (P : Params) : Obj := (Obj.mk (Value.type "code") (Option.none) (Data.fields #[(Value.str (Str.ofString "_get_name_info") 277), (Value.str (Str.ofString "_get_name_info") 278), (Value.str (Str.ofString "/claim/cut.py") 279), (Value.int 51 0), (Value.int 2 0), (Value.int 0 0), (Value.int 0 0), (Value.int 11 0), (Value.ref 80), (Value.bool Bool.true), (Value.int 181 0), (Value.ref 81), Value.none, (Value.ref 82), (Value.ref 83), (Value.ref 84), (Value.int 284 0), (Value.int 51 0), (Value.str (Str.ofString "/claim/cut.py") 285)]) #[])
noncomputable def o_9_86 (P : Params) : Obj := ⟨(Value.type "function"), (Option.none), (.func (FuncData.mk (Str.ofString "_get_name_info") (Str.ofString "_get_name_info") (fargs (stm 5)) (fbody (stm 5)) (fscope (stm 5)) 3 [] Value.none Value.none Value.none (Value.str (Str.ofString "cpy313.dis") 247) (Option.none) (Value.ref 85) Value.none 0)), #[]⟩
noncomputable def o_9_87 (P : Params) : Obj := (Obj.mk (Value.type "tuple") (Option.none) (Data.seq #[] 0) #[])
noncomputable def o_9_88 (P : Params) : Obj := (Obj.mk Value.none (Option.none) (Data.fields #[]) #[])
noncomputable def o_9_89 (P : Params) : Obj := (Obj.mk (Value.type "tuple") (Option.none) (Data.seq #[(Value.str (Str.ofString "iterator") 290), (Value.str (Str.ofString "b") 291), (Value.str (Str.ofString "val") 292)] 0) #[])
noncomputable def o_9_90 (P : Params) : Obj := (Obj.mk (Value.type "tuple") (Option.none) (Data.seq #[] 0) #[])
noncomputable def o_9_91 (P : Params) : Obj := ⟨Value.none, (Option.none), (.func (FuncData.mk (Str.ofString "_parse_varint") (Str.ofString "_parse_varint") (fargs (stm 6)) (fbody (stm 6)) (fscope (stm 6)) 0 [] Value.none Value.none Value.none Value.none (Option.none) Value.none Value.none 0)), #[]⟩
noncomputable def o_9_92 (P : Params) : Obj := (Obj.mk (Value.type "code") (Option.none) (Data.fields #[(Value.str (Str.ofString "_parse_varint") 287), (Value.str (Str.ofString "_parse_varint") 288), (Value.str (Str.ofString "/claim/cut.py") 289), (Value.int 57 0), (Value.int 1 0), (Value.int 0 0), (Value.int 0 0), (Value.int 3 0), (Value.ref 87), (Value.bool Bool.true), (Value.int 181 0), (Value.ref 88), Value.none, (Value.ref 89), (Value.ref 90), (Value.ref 91), (Value.int 293 0), (Value.int 57 0), (Value.str (Str.ofString "/claim/cut.py") 294)]) #[])
noncomputable def o_9_93 (P : Params) : Obj := ⟨(Value.type "function"), (Option.none), (.func (FuncData.mk (Str.ofString "_parse_varint") (Str.ofString "_parse_varint") (fargs (stm 6)) (fbody (stm 6)) (fscope (stm 6)) 3 [] Value.none Value.none Value.none (Value.str (Str.ofString "cpy313.dis") 247) (Option.none) (Value.ref 92) Value.none 0)), #[]⟩
noncomputable def o_9_94 (P : Params) : Obj := (Obj.mk (Value.type "tuple") (Option.none) (Data.seq #[] 0) #[])
noncomputable def o_9_95 (P : Params) : Obj := (Obj.mk Value.none (Option.none) (Data.fields #[]) #[])
noncomputable def o_9_96 (P : Params) : Obj := (Obj.mk (Value.type "tuple") (Option.none) (Data.seq #[(Value.str (Str.ofString "addr") 301), (Value.str (Str.ofString "pos") 302), (Value.str (Str.ofString "escape") 303), (Value.str (Str.ofString "ch") 304)] 0) #[])
noncomputable def o_9_97 (P : Params) : Obj := (Obj.mk (Value.type "tuple") (Option.none) (Data.seq #[] 0) #[])
noncomputable def o_9_98 (P : Params) : Obj := ⟨Value.none, (Option.none), (.func (FuncData.mk (Str.ofString "_iter_escaped_chars") (Str.ofString "_iter_escaped_chars") (fargs (stm 8)) (fbody (stm 8)) (fscope (stm 8)) 0 [] Value.none Value.none Value.none Value.none (Option.none) Value.none Value.none 0)), #[]⟩
noncomputable def o_9_99 (P : Params) : Obj := (Obj.mk (Value.type "code") (Option.none) (Data.fields #[(Value.str (Str.ofString "_iter_escaped_chars") 298), (Value.str (Str.ofString "_iter_escaped_chars") 299), (Value.str (Str.ofString "/claim/cut.py") 300), (Value.int 66 0), (Value.int 1 0), (Value.int 0 0), (Value.int 0 0), (Value.int 35 0), (Value.ref 94), (Value.bool Bool.true), (Value.int 181 0), (Value.ref 95), Value.none, (Value.ref 96), (Value.ref 97), (Value.ref 98), (Value.int 305 0), (Value.int 66 0), (Value.str (Str.ofString "/claim/cut.py") 306)]) #[])
noncomputable def o_9_100 (P : Params) : Obj := ⟨(Value.type "function"), (Option.none), (.func (FuncData.mk (Str.ofString "_iter_escaped_chars") (Str.ofString "_iter_escaped_chars") (fargs (stm 8)) (fbody (stm 8)) (fscope (stm 8)) 3 [] Value.none Value.none Value.none (Value.str (Str.ofString "cpy313.email.utils") 296) (Option.none) (Value.ref 99) Value.none 0)), #[]⟩
noncomputable def o_9_101 (P : Params) : Obj := (Obj.mk (Value.type "tuple") (Option.none) (Data.seq #[] 0) #[])
noncomputable def o_9_102 (P : Params) : Obj := (Obj.mk Value.none (Option.none) (Data.fields #[]) #[])
noncomputable def o_9_103 (P : Params) : Obj := (Obj.mk (Value.type "tuple") (Option.none) (Data.seq #[(Value.str (Str.ofString "addr") 311), (Value.str (Str.ofString "start") 312), (Value.str (Str.ofString "open_pos") 313), (Value.str (Str.ofString "result") 314), (Value.str (Str.ofString "pos") 315), (Value.str (Str.ofString "ch") 316)] 0) #[])
noncomputable def o_9_104 (P : Params) : Obj := (Obj.mk (Value.type "tuple") (Option.none) (Data.seq #[] 0) #[])
noncomputable def o_9_105 (P : Params) : Obj := ⟨Value.none, (Option.none), (.func (FuncData.mk (Str.ofString "_strip_quoted_realnames") (Str.ofString "_strip_quoted_realnames") (fargs (stm 9)) (fbody (stm 9)) (fscope (stm 9)) 0 [] Value.none Value.none Value.none Value.none (Option.none) Value.none Value.none 0)), #[]⟩
noncomputable def o_9_106 (P : Params) : Obj := (Obj.mk (Value.type "code") (Option.none) (Data.fields #[(Value.str (Str.ofString "_strip_quoted_realnames") 308), (Value.str (Str.ofString "_strip_quoted_realnames") 309), (Value.str (Str.ofString "/claim/cut.py") 310), (Value.int 79 0), (Value.int 1 0), (Value.int 0 0), (Value.int 0 0), (Value.int 3 0), (Value.ref 101), (Value.bool Bool.true), (Value.int 181 0), (Value.ref 102), Value.none, (Value.ref 103), (Value.ref 104), (Value.ref 105), (Value.int 317 0), (Value.int 79 0), (Value.str (Str.ofString "/claim/cut.py") 318)]) #[])
noncomputable def o_9_107 (P : Params) : Obj := ⟨(Value.type "function"), (Option.none), (.func (FuncData.mk (Str.ofString "_strip_quoted_realnames") (Str.ofString "_strip_quoted_realnames") (fargs (stm 9)) (fbody (stm 9)) (fscope (stm 9)) 3 [] Value.none Value.none Value.none (Value.str (Str.ofString "cpy313.email.utils") 296) (Option.none) (Value.ref 106) Value.none 0)), #[]⟩
noncomputable def T_9 (P : Params) : BT := (.node (boot_o_0 P) (.node (boot_o_1 P) (.node (o_9_3 P) (.node (boot_o_7 P) (.node (o_2_15 P) (.node (o_2_31 P) (.node (o_9_63 P) .nil .nil) (.node (o_9_95 P) .nil .nil)) (.node (o_2_47 P) (.node (o_9_79 P) .nil .nil) .nil)) (.node (o_2_23 P) (.node (o_2_39 P) (.node (o_9_71 P) .nil .nil) (.node (o_9_103 P) .nil .nil)) (.node (o_2_55 P) (.node (o_9_87 P) .nil .nil) .nil))) (.node (o_a_11 P) (.node (o_2_19 P) (.node (o_2_35 P) (.node (o_9_67 P) .nil .nil) (.node (o_9_99 P) .nil .nil)) (.node (o_2_51 P) (.node (o_9_83 P) .nil .nil) .nil)) (.node (o_2_27 P) (.node (o_2_43 P) (.node (o_9_75 P) .nil .nil) (.node (o_9_107 P) .nil .nil)) (.node (o_9_59 P) (.node (o_9_91 P) .nil .nil) .nil)))) (.node (boot_o_5 P) (.node (boot_o_9 P) (.node (o_2_17 P) (.node (o_2_33 P) (.node (o_9_65 P) .nil .nil) (.node (o_9_97 P) .nil .nil)) (.node (o_2_49 P) (.node (o_9_81 P) .nil .nil) .nil)) (.node (o_2_25 P) (.node (o_2_41 P) (.node (o_9_73 P) .nil .nil) (.node (o_9_105 P) .nil .nil)) (.node (o_9_57 P) (.node (o_9_89 P) .nil .nil) .nil))) (.node (o_a_13 P) (.node (o_2_21 P) (.node (o_2_37 P) (.node (o_9_69 P) .nil .nil) (.node (o_9_101 P) .nil .nil)) (.node (o_2_53 P) (.node (o_9_85 P) .nil .nil) .nil)) (.node (o_2_29 P) (.node (o_2_45 P) (.node (o_9_77 P) .nil .nil) .nil) (.node (o_9_61 P) (.node (o_9_93 P) .nil .nil) .nil))))) (.node (boot_o_2 P) (.node (boot_o_4 P) (.node (boot_o_8 P) (.node (o_2_16 P) (.node (o_2_32 P) (.node (o_9_64 P) .nil .nil) (.node (o_9_96 P) .nil .nil)) (.node (o_2_48 P) (.node (o_9_80 P) .nil .nil) .nil)) (.node (o_2_24 P) (.node (o_2_40 P) (.node (o_9_72 P) .nil .nil) (.node (o_9_104 P) .nil .nil)) (.node (o_2_56 P) (.node (o_9_88 P) .nil .nil) .nil))) (.node (o_9_12 P) (.node (o_2_20 P) (.node (o_2_36 P) (.node (o_9_68 P) .nil .nil) (.node (o_9_100 P) .nil .nil)) (.node (o_2_52 P) (.node (o_9_84 P) .nil .nil) .nil)) (.node (o_2_28 P) (.node (o_2_44 P) (.node (o_9_76 P) .nil .nil) .nil) (.node (o_9_60 P) (.node (o_9_92 P) .nil .nil) .nil)))) (.node (boot_o_6 P) (.node (boot_o_10 P) (.node (o_2_18 P) (.node (o_2_34 P) (.node (o_9_66 P) .nil .nil) (.node (o_9_98 P) .nil .nil)) (.node (o_2_50 P) (.node (o_9_82 P) .nil .nil) .nil)) (.node (o_2_26 P) (.node (o_2_42 P) (.node (o_9_74 P) .nil .nil) (.node (o_9_106 P) .nil .nil)) (.node (o_9_58 P) (.node (o_9_90 P) .nil .nil) .nil))) (.node (o_a_14 P) (.node (o_2_22 P) (.node (o_2_38 P) (.node (o_9_70 P) .nil .nil) (.node (o_9_102 P) .nil .nil)) (.node (o_2_54 P) (.node (o_9_86 P) .nil .nil) .nil)) (.node (o_2_30 P) (.node (o_2_46 P) (.node (o_9_78 P) .nil .nil) .nil) (.node (o_9_62 P) (.node (o_9_94 P) .nil .nil) .nil))))))
noncomputable def S_9 (w : World) (os : OsState) : SharedT := ⟨T_9 w.params, 108, (Life.mk [] [] [] 0 [] [] Bool.false #[] [] 0 Bool.false Bool.false Bool.false 0 [2000, 10, 10] Bool.false 0 Bool.true [] [] 0 Bool.false), #[], (Drawn.mk 0 0 0 0), 320, os⟩ -- pos ⟨79, 0, 96, 26⟩ steps 34
noncomputable def o_11_3 (P : Params) : Obj := (Obj.mk (Value.type "dict") (Option.none) (Data.dict #[(DictEntry.mk (PyData.keyHash P (Str.ofString "__name__")) (Value.str (Str.ofString "__name__") 165) (Value.str (Str.ofString "cpy313.stringprep") 330)), (DictEntry.mk (PyData.keyHash P (Str.ofString "__doc__")) (Value.str (Str.ofString "__doc__") 166) Value.none), (DictEntry.mk (PyData.keyHash P (Str.ofString "__package__")) (Value.str (Str.ofString "__package__") 167) Value.none), (DictEntry.mk (PyData.keyHash P (Str.ofString "__loader__")) (Value.str (Str.ofString "__loader__") 168) (Value.builtin "__main__.__loader__#opaque")), (DictEntry.mk (PyData.keyHash P (Str.ofString "__spec__")) (Value.str (Str.ofString "__spec__") 169) Value.none), (DictEntry.mk (PyData.keyHash P (Str.ofString "__annotations__")) (Value.str (Str.ofString "__annotations__") 170) (Value.ref 6)), (DictEntry.mk (PyData.keyHash P (Str.ofString "__builtins__")) (Value.str (Str.ofString "__builtins__") 171) (Value.ref 4)), (DictEntry.mk (PyData.keyHash P (Str.ofString "__file__")) (Value.str (Str.ofString "__file__") 173) (Value.str (Str.ofString "/claim/cut.py") 172)), (DictEntry.mk (PyData.keyHash P (Str.ofString "__cached__")) (Value.str (Str.ofString "__cached__") 174) Value.none), (DictEntry.mk (PyData.keyHash P (Str.ofString "_netrclex")) (Value.str (Str.ofString "_netrclex") 246) (Value.ref 52)), (DictEntry.mk (PyData.keyHash P (Str.ofString "_Unknown")) (Value.str (Str.ofString "_Unknown") 275) (Value.ref 73)), (DictEntry.mk (PyData.keyHash P (Str.ofString "UNKNOWN")) (Value.str (Str.ofString "UNKNOWN") 276) (Value.ref 79)), (DictEntry.mk (PyData.keyHash P (Str.ofString "_get_name_info")) (Value.str (Str.ofString "_get_name_info") 286) (Value.ref 86)), (DictEntry.mk (PyData.keyHash P (Str.ofString "_parse_varint")) (Value.str (Str.ofString "_parse_varint") 295) (Value.ref 93)), (DictEntry.mk (PyData.keyHash P (Str.ofString "_iter_escaped_chars")) (Value.str (Str.ofString "_iter_escaped_chars") 307) (Value.ref 100)), (DictEntry.mk (PyData.keyHash P (Str.ofString "_strip_quoted_realnames")) (Value.str (Str.ofString "_strip_quoted_realnames") 319) (Value.ref 107)), (DictEntry.mk (PyData.keyHash P (Str.ofString "_check_parenthesis")) (Value.str (Str.ofString "_check_parenthesis") 329) (Value.ref 114))] 17) #[])
noncomputable def o_11_12 (P : Params) : Obj := (Obj.mk Value.none (Option.none) (Data.fields #[(Value.int 2 0), (Value.int 0 0), (Value.ref 20), (Value.int 46 0), (Value.int 0 0), (Value.ref 62), (Value.int 51 0), (Value.int 0 0), (Value.ref 85), (Value.int 57 0), (Value.int 0 0), (Value.ref 92), (Value.int 66 0), (Value.int 0 0), (Value.ref 99), (Value.int 79 0), (Value.int 0 0), (Value.ref 106), (Value.int 97 0), (Value.int 0 0), (Value.ref 113)]) #[])
noncomputable def o_11_108 (P : Params) : Obj := (Obj.mk (Value.type "tuple") (Option.none) (Data.seq #[] 0) #[])
noncomputable def o_11_109 (P : Params) : Obj := (Obj.mk Value.none (Option.none) (Data.fields #[]) #[])
noncomputable def o_11_110 (P : Params) : Obj := (Obj.mk (Value.type "tuple") (Option.none) (Data.seq #[(Value.str (Str.ofString "addr") 323), (Value.str (Str.ofString "opens") 324), (Value.str (Str.ofString "pos") 325), (Value.str (Str.ofString "ch") 326)] 0) #[])
noncomputable def o_11_111 (P : Params) : Obj := (Obj.mk (Value.type "tuple") (Option.none) (Data.seq #[] 0) #[])
noncomputable def o_11_112 (P : Params) : Obj := ⟨Value.none, (Option.none), (.func (FuncData.mk (Str.ofString "_check_parenthesis") (Str.ofString "_check_parenthesis") (fargs (stm 10)) (fbody (stm 10)) (fscope (stm 10)) 0 [] Value.none Value.none Value.none Value.none (Option.none) Value.none Value.none 0)), #[]⟩
noncomputable def o_11_113 (P : Params) : Obj := (Obj.mk (Value.type "code") (Option.none) (Data.fields #[(Value.str (Str.ofString "_check_parenthesis") 320), (Value.str (Str.ofString "_check_parenthesis") 321), (Value.str (Str.ofString "/claim/cut.py") 322), (Value.int 97 0), (Value.int 1 0), (Value.int 0 0), (Value.int 0 0), (Value.int 3 0), (Value.ref 108), (Value.bool Bool.true), (Value.int 181 0), (Value.ref 109), Value.none, (Value.ref 110), (Value.ref 111), (Value.ref 112), (Value.int 327 0), (Value.int 97 0), (Value.str (Str.ofString "/claim/cut.py") 328)]) #[])
noncomputable def o_11_114 (P : Params) : Obj := ⟨(Value.type "function"), (Option.none), (.func (FuncData.mk (Str.ofString "_check_parenthesis") (Str.ofString "_check_parenthesis") (fargs (stm 10)) (fbody (stm 10)) (fscope (stm 10)) 3 [] Value.none Value.none Value.none (Value.str (Str.ofString "cpy313.email.utils") 296) (Option.none) (Value.ref 113) Value.none 0)), #[]⟩
noncomputable def T_11 (P : Params) : BT := (.node (boot_o_0 P) (.node (boot_o_1 P) (.node (o_11_3 P) (.node (boot_o_7 P) (.node (o_2_15 P) (.node (o_2_31 P) (.node (o_9_63 P) .nil .nil) (.node (o_9_95 P) .nil .nil)) (.node (o_2_47 P) (.node (o_9_79 P) .nil .nil) (.node (o_11_111 P) .nil .nil))) (.node (o_2_23 P) (.node (o_2_39 P) (.node (o_9_71 P) .nil .nil) (.node (o_9_103 P) .nil .nil)) (.node (o_2_55 P) (.node (o_9_87 P) .nil .nil) .nil))) (.node (o_a_11 P) (.node (o_2_19 P) (.node (o_2_35 P) (.node (o_9_67 P) .nil .nil) (.node (o_9_99 P) .nil .nil)) (.node (o_2_51 P) (.node (o_9_83 P) .nil .nil) .nil)) (.node (o_2_27 P) (.node (o_2_43 P) (.node (o_9_75 P) .nil .nil) (.node (o_9_107 P) .nil .nil)) (.node (o_9_59 P) (.node (o_9_91 P) .nil .nil) .nil)))) (.node (boot_o_5 P) (.node (boot_o_9 P) (.node (o_2_17 P) (.node (o_2_33 P) (.node (o_9_65 P) .nil .nil) (.node (o_9_97 P) .nil .nil)) (.node (o_2_49 P) (.node (o_9_81 P) .nil .nil) (.node (o_11_113 P) .nil .nil))) (.node (o_2_25 P) (.node (o_2_41 P) (.node (o_9_73 P) .nil .nil) (.node (o_9_105 P) .nil .nil)) (.node (o_9_57 P) (.node (o_9_89 P) .nil .nil) .nil))) (.node (o_a_13 P) (.node (o_2_21 P) (.node (o_2_37 P) (.node (o_9_69 P) .nil .nil) (.node (o_9_101 P) .nil .nil)) (.node (o_2_53 P) (.node (o_9_85 P) .nil .nil) .nil)) (.node (o_2_29 P) (.node (o_2_45 P) (.node (o_9_77 P) .nil .nil) (.node (o_11_109 P) .nil .nil)) (.node (o_9_61 P) (.node (o_9_93 P) .nil .nil) .nil))))) (.node (boot_o_2 P) (.node (boot_o_4 P) (.node (boot_o_8 P) (.node (o_2_16 P) (.node (o_2_32 P) (.node (o_9_64 P) .nil .nil) (.node (o_9_96 P) .nil .nil)) (.node (o_2_48 P) (.node (o_9_80 P) .nil .nil) (.node (o_11_112 P) .nil .nil))) (.node (o_2_24 P) (.node (o_2_40 P) (.node (o_9_72 P) .nil .nil) (.node (o_9_104 P) .nil .nil)) (.node (o_2_56 P) (.node (o_9_88 P) .nil .nil) .nil))) (.node (o_11_12 P) (.node (o_2_20 P) (.node (o_2_36 P) (.node (o_9_68 P) .nil .nil) (.node (o_9_100 P) .nil .nil)) (.node (o_2_52 P) (.node (o_9_84 P) .nil .nil) .nil)) (.node (o_2_28 P) (.node (o_2_44 P) (.node (o_9_76 P) .nil .nil) (.node (o_11_108 P) .nil .nil)) (.node (o_9_60 P) (.node (o_9_92 P) .nil .nil) .nil)))) (.node (boot_o_6 P) (.node (boot_o_10 P) (.node (o_2_18 P) (.node (o_2_34 P) (.node (o_9_66 P) .nil .nil) (.node (o_9_98 P) .nil .nil)) (.node (o_2_50 P) (.node (o_9_82 P) .nil .nil) (.node (o_11_114 P) .nil .nil))) (.node (o_2_26 P) (.node (o_2_42 P) (.node (o_9_74 P) .nil .nil) (.node (o_9_106 P) .nil .nil)) (.node (o_9_58 P) (.node (o_9_90 P) .nil .nil) .nil))) (.node (o_a_14 P) (.node (o_2_22 P) (.node (o_2_38 P) (.node (o_9_70 P) .nil .nil) (.node (o_9_102 P) .nil .nil)) (.node (o_2_54 P) (.node (o_9_86 P) .nil .nil) .nil)) (.node (o_2_30 P) (.node (o_2_46 P) (.node (o_9_78 P) .nil .nil) (.node (o_11_110 P) .nil .nil)) (.node (o_9_62 P) (.node (o_9_94 P) .nil .nil) .nil))))))
noncomputable def S_11 (w : World) (os : OsState) : SharedT := ⟨T_11 w.params, 115, (Life.mk [] [] [] 0 [] [] Bool.false #[] [] 0 Bool.false Bool.false Bool.false 0 [2000, 10, 10] Bool.false 0 Bool.true [] [] 0 Bool.false), #[], (Drawn.mk 0 0 0 0), 332, os⟩ -- pos ⟨108, 0, 108, 8⟩ steps 9
noncomputable def o_12_3 (P : Params) : Obj := (Obj.mk (Value.type "dict") (Option.none) (Data.dict #[(DictEntry.mk (PyData.keyHash P (Str.ofString "__name__")) (Value.str (Str.ofString "__name__") 165) (Value.str (Str.ofString "cpy313.stringprep") 330)), (DictEntry.mk (PyData.keyHash P (Str.ofString "__doc__")) (Value.str (Str.ofString "__doc__") 166) Value.none), (DictEntry.mk (PyData.keyHash P (Str.ofString "__package__")) (Value.str (Str.ofString "__package__") 167) Value.none), (DictEntry.mk (PyData.keyHash P (Str.ofString "__loader__")) (Value.str (Str.ofString "__loader__") 168) (Value.builtin "__main__.__loader__#opaque")), (DictEntry.mk (PyData.keyHash P (Str.ofString "__spec__")) (Value.str (Str.ofString "__spec__") 169) Value.none), (DictEntry.mk (PyData.keyHash P (Str.ofString "__annotations__")) (Value.str (Str.ofString "__annotations__") 170) (Value.ref 6)), (DictEntry.mk (PyData.keyHash P (Str.ofString "__builtins__")) (Value.str (Str.ofString "__builtins__") 171) (Value.ref 4)), (DictEntry.mk (PyData.keyHash P (Str.ofString "__file__")) (Value.str (Str.ofString "__file__") 173) (Value.str (Str.ofString "/claim/cut.py") 172)), (DictEntry.mk (PyData.keyHash P (Str.ofString "__cached__")) (Value.str (Str.ofString "__cached__") 174) Value.none), (DictEntry.mk (PyData.keyHash P (Str.ofString "_netrclex")) (Value.str (Str.ofString "_netrclex") 246) (Value.ref 52)), (DictEntry.mk (PyData.keyHash P (Str.ofString "_Unknown")) (Value.str (Str.ofString "_Unknown") 275) (Value.ref 73)), (DictEntry.mk (PyData.keyHash P (Str.ofString "UNKNOWN")) (Value.str (Str.ofString "UNKNOWN") 276) (Value.ref 79)), (DictEntry.mk (PyData.keyHash P (Str.ofString "_get_name_info")) (Value.str (Str.ofString "_get_name_info") 286) (Value.ref 86)), (DictEntry.mk (PyData.keyHash P (Str.ofString "_parse_varint")) (Value.str (Str.ofString "_parse_varint") 295) (Value.ref 93)), (DictEntry.mk (PyData.keyHash P (Str.ofString "_iter_escaped_chars")) (Value.str (Str.ofString "_iter_escaped_chars") 307) (Value.ref 100)), (DictEntry.mk (PyData.keyHash P (Str.ofString "_strip_quoted_realnames")) (Value.str (Str.ofString "_strip_quoted_realnames") 319) (Value.ref 107)), (DictEntry.mk (PyData.keyHash P (Str.ofString "_check_parenthesis")) (Value.str (Str.ofString "_check_parenthesis") 329) (Value.ref 114)), (DictEntry.mk (PyData.keyHash P (Str.ofString "b1_set")) (Value.str (Str.ofString "b1_set") 391) (Value.ref 122))] 18) #[])
noncomputable def o_12_115 (P : Params) : Obj := (Obj.mk (Value.type "list") (Option.none) (Data.seq #[(Value.int 173 332), (Value.int 847 333), (Value.int 6150 334), (Value.int 6155 335), (Value.int 6156 336), (Value.int 6157 337), (Value.int 8203 338), (Value.int 8204 339), (Value.int 8205 340), (Value.int 8288 341), (Value.int 65279 342)] 0) #[])
noncomputable def o_12_116 (P : Params) : Obj := (Obj.mk (Value.type "range") (Option.none) (Data.fields #[(Value.int 65024 343), (Value.int 65040 344), (Value.int 1 345)]) #[])
noncomputable def o_12_117 (P : Params) : Obj := (Obj.mk (Value.type "list") (Option.none) (Data.seq #[(Value.int 65024 348), (Value.int 65025 349), (Value.int 65026 350), (Value.int 65027 351), (Value.int 65028 352), (Value.int 65029 353), (Value.int 65030 354), (Value.int 65031 355), (Value.int 65032 356), (Value.int 65033 357), (Value.int 65034 358), (Value.int 65035 359), (Value.int 65036 360), (Value.int 65037 361), (Value.int 65038 362), (Value.int 65039 363)] 18) #[])
noncomputable def o_12_118 (P : Params) : Obj := (Obj.mk (Value.type "range_iterator") (Option.none) (Data.fields #[(Value.int 65040 0), (Value.int 0 0), (Value.int 1 0)]) #[])
noncomputable def o_12_119 (P : Params) : Obj := (Obj.mk (Value.type "tuple") (Option.none) (Data.seq #[] 0) #[])
noncomputable def o_12_120 (P : Params) : Obj := (Obj.mk (Value.type "StopIteration") (Option.none) (Data.fields #[(Value.ref 119), Value.none, Value.none, Value.none, (Value.bool Bool.false), Value.none]) #[])
noncomputable def o_12_121 (P : Params) : Obj := (Obj.mk (Value.type "list") (Option.none) (Data.seq #[(Value.int 173 332), (Value.int 847 333), (Value.int 6150 334), (Value.int 6155 335), (Value.int 6156 336), (Value.int 6157 337), (Value.int 8203 338), (Value.int 8204 339), (Value.int 8205 340), (Value.int 8288 341), (Value.int 65279 342), (Value.int 65024 348), (Value.int 65025 349), (Value.int 65026 350), (Value.int 65027 351), (Value.int 65028 352), (Value.int 65029 353), (Value.int 65030 354), (Value.int 65031 355), (Value.int 65032 356), (Value.int 65033 357), (Value.int 65034 358), (Value.int 65035 359), (Value.int 65036 360), (Value.int 65037 361), (Value.int 65038 362), (Value.int 65039 363)] 0) #[])
noncomputable def o_12_122 (P : Params) : Obj := (Obj.mk (Value.type "set") (Option.none) (Data.set #[(65024, (Value.int 65024 348)), (65025, (Value.int 65025 349)), (65026, (Value.int 65026 350)), (65027, (Value.int 65027 351)), (65028, (Value.int 65028 352)), (65029, (Value.int 65029 353)), (6150, (Value.int 6150 334)), (65030, (Value.int 65030 354)), (65031, (Value.int 65031 355)), (65032, (Value.int 65032 356)), (65033, (Value.int 65033 357)), (6155, (Value.int 6155 335)), (6156, (Value.int 6156 336)), (6157, (Value.int 6157 337)), (8203, (Value.int 8203 338)), (8204, (Value.int 8204 339)), (8205, (Value.int 8205 340)), (65034, (Value.int 65034 358)), (65035, (Value.int 65035 359)), (65036, (Value.int 65036 360)), (65037, (Value.int 65037 361)), (65038, (Value.int 65038 362)), (65039, (Value.int 65039 363)), (173, (Value.int 173 332)), (847, (Value.int 847 333)), (8288, (Value.int 8288 341)), (65279, (Value.int 65279 342))] 29 (SetTable.mk 127 #[0, 1, 2, 3, 4, 5, 6, 7, 8, 9, 10, 11, 12, 13, 14, 15, 16, 17, 18, 19, 20, 21, 22, 45, 79, 96, 127] #[] 0 (Bool.not (Params.followText P "set-order")) 2 Bool.true)) #[])
noncomputable def o_12_123 (P : Params) : Obj := (Obj.mk (Value.type "list_iterator") (Option.none) (Data.fields #[Value.none, (Value.int 27 0)]) #[])
noncomputable def o_12_124 (P : Params) : Obj := (Obj.mk (Value.type "tuple") (Option.none) (Data.seq #[] 0) #[])
noncomputable def o_12_125 (P : Params) : Obj := (Obj.mk (Value.type "StopIteration") (Option.none) (Data.fields #[(Value.ref 124), Value.none, Value.none, Value.none, (Value.bool Bool.false), Value.none]) #[])
noncomputable def T_12 (P : Params) : BT := (.node (boot_o_0 P) (.node (boot_o_1 P) (.node (o_12_3 P) (.node (boot_o_7 P) (.node (o_2_15 P) (.node (o_2_31 P) (.node (o_9_63 P) .nil .nil) (.node (o_9_95 P) .nil .nil)) (.node (o_2_47 P) (.node (o_9_79 P) .nil .nil) (.node (o_11_111 P) .nil .nil))) (.node (o_2_23 P) (.node (o_2_39 P) (.node (o_9_71 P) .nil .nil) (.node (o_9_103 P) .nil .nil)) (.node (o_2_55 P) (.node (o_9_87 P) .nil .nil) (.node (o_12_119 P) .nil .nil)))) (.node (o_a_11 P) (.node (o_2_19 P) (.node (o_2_35 P) (.node (o_9_67 P) .nil .nil) (.node (o_9_99 P) .nil .nil)) (.node (o_2_51 P) (.node (o_9_83 P) .nil .nil) (.node (o_12_115 P) .nil .nil))) (.node (o_2_27 P) (.node (o_2_43 P) (.node (o_9_75 P) .nil .nil) (.node (o_9_107 P) .nil .nil)) (.node (o_9_59 P) (.node (o_9_91 P) .nil .nil) (.node (o_12_123 P) .nil .nil))))) (.node (boot_o_5 P) (.node (boot_o_9 P) (.node (o_2_17 P) (.node (o_2_33 P) (.node (o_9_65 P) .nil .nil) (.node (o_9_97 P) .nil .nil)) (.node (o_2_49 P) (.node (o_9_81 P) .nil .nil) (.node (o_11_113 P) .nil .nil))) (.node (o_2_25 P) (.node (o_2_41 P) (.node (o_9_73 P) .nil .nil) (.node (o_9_105 P) .nil .nil)) (.node (o_9_57 P) (.node (o_9_89 P) .nil .nil) (.node (o_12_121 P) .nil .nil)))) (.node (o_a_13 P) (.node (o_2_21 P) (.node (o_2_37 P) (.node (o_9_69 P) .nil .nil) (.node (o_9_101 P) .nil .nil)) (.node (o_2_53 P) (.node (o_9_85 P) .nil .nil) (.node (o_12_117 P) .nil .nil))) (.node (o_2_29 P) (.node (o_2_45 P) (.node (o_9_77 P) .nil .nil) (.node (o_11_109 P) .nil .nil)) (.node (o_9_61 P) (.node (o_9_93 P) .nil .nil) (.node (o_12_125 P) .nil .nil)))))) (.node (boot_o_2 P) (.node (boot_o_4 P) (.node (boot_o_8 P) (.node (o_2_16 P) (.node (o_2_32 P) (.node (o_9_64 P) .nil .nil) (.node (o_9_96 P) .nil .nil)) (.node (o_2_48 P) (.node (o_9_80 P) .nil .nil) (.node (o_11_112 P) .nil .nil))) (.node (o_2_24 P) (.node (o_2_40 P) (.node (o_9_72 P) .nil .nil) (.node (o_9_104 P) .nil .nil)) (.node (o_2_56 P) (.node (o_9_88 P) .nil .nil) (.node (o_12_120 P) .nil .nil)))) (.node (o_11_12 P) (.node (o_2_20 P) (.node (o_2_36 P) (.node (o_9_68 P) .nil .nil) (.node (o_9_100 P) .nil .nil)) (.node (o_2_52 P) (.node (o_9_84 P) .nil .nil) (.node (o_12_116 P) .nil .nil))) (.node (o_2_28 P) (.node (o_2_44 P) (.node (o_9_76 P) .nil .nil) (.node (o_11_108 P) .nil .nil)) (.node (o_9_60 P) (.node (o_9_92 P) .nil .nil) (.node (o_12_124 P) .nil .nil))))) (.node (boot_o_6 P) (.node (boot_o_10 P) (.node (o_2_18 P) (.node (o_2_34 P) (.node (o_9_66 P) .nil .nil) (.node (o_9_98 P) .nil .nil)) (.node (o_2_50 P) (.node (o_9_82 P) .nil .nil) (.node (o_11_114 P) .nil .nil))) (.node (o_2_26 P) (.node (o_2_42 P) (.node (o_9_74 P) .nil .nil) (.node (o_9_106 P) .nil .nil)) (.node (o_9_58 P) (.node (o_9_90 P) .nil .nil) (.node (o_12_122 P) .nil .nil)))) (.node (o_a_14 P) (.node (o_2_22 P) (.node (o_2_38 P) (.node (o_9_70 P) .nil .nil) (.node (o_9_102 P) .nil .nil)) (.node (o_2_54 P) (.node (o_9_86 P) .nil .nil) (.node (o_12_118 P) .nil .nil))) (.node (o_2_30 P) (.node (o_2_46 P) (.node (o_9_78 P) .nil .nil) (.node (o_11_110 P) .nil .nil)) (.node (o_9_62 P) (.node (o_9_94 P) .nil .nil) .nil))))))
noncomputable def S_12 (w : World) (os : OsState) : SharedT := ⟨T_12 w.params, 126, (Life.mk [] [] [] 0 [] [] Bool.false #[] [] 0 Bool.false Bool.false Bool.false 0 [2000, 10, 10] Bool.false 0 Bool.true [] [] 0 Bool.false), #[], (Drawn.mk 0 0 0 0), 392, os⟩ -- pos ⟨109, 0, 109, 6⟩ steps 998
noncomputable def o_13_3 (P : Params) : Obj := (Obj.mk (Value.type "dict") (Option.none) (Data.dict #[(DictEntry.mk (PyData.keyHash P (Str.ofString "__name__")) (Value.str (Str.ofString "__name__") 165) (Value.str (Str.ofString "cpy313.stringprep") 330)), (DictEntry.mk (PyData.keyHash P (Str.ofString "__doc__")) (Value.str (Str.ofString "__doc__") 166) Value.none), (DictEntry.mk (PyData.keyHash P (Str.ofString "__package__")) (Value.str (Str.ofString "__package__") 167) Value.none), (DictEntry.mk (PyData.keyHash P (Str.ofString "__loader__")) (Value.str (Str.ofString "__loader__") 168) (Value.builtin "__main__.__loader__#opaque")), (DictEntry.mk (PyData.keyHash P (Str.ofString "__spec__")) (Value.str (Str.ofString "__spec__") 169) Value.none), (DictEntry.mk (PyData.keyHash P (Str.ofString "__annotations__")) (Value.str (Str.ofString "__annotations__") 170) (Value.ref 6)), (DictEntry.mk (PyData.keyHash P (Str.ofString "__builtins__")) (Value.str (Str.ofString "__builtins__") 171) (Value.ref 4)), (DictEntry.mk (PyData.keyHash P (Str.ofString "__file__")) (Value.str (Str.ofString "__file__") 173) (Value.str (Str.ofString "/claim/cut.py") 172)), (DictEntry.mk (PyData.keyHash P (Str.ofString "__cached__")) (Value.str (Str.ofString "__cached__") 174) Value.none), (DictEntry.mk (PyData.keyHash P (Str.ofString "_netrclex")) (Value.str (Str.ofString "_netrclex") 246) (Value.ref 52)), (DictEntry.mk (PyData.keyHash P (Str.ofString "_Unknown")) (Value.str (Str.ofString "_Unknown") 275) (Value.ref 73)), (DictEntry.mk (PyData.keyHash P (Str.ofString "UNKNOWN")) (Value.str (Str.ofString "UNKNOWN") 276) (Value.ref 79)), (DictEntry.mk (PyData.keyHash P (Str.ofString "_get_name_info")) (Value.str (Str.ofString "_get_name_info") 286) (Value.ref 86)), (DictEntry.mk (PyData.keyHash P (Str.ofString "_parse_varint")) (Value.str (Str.ofString "_parse_varint") 295) (Value.ref 93)), (DictEntry.mk (PyData.keyHash P (Str.ofString "_iter_escaped_chars")) (Value.str (Str.ofString "_iter_escaped_chars") 307) (Value.ref 100)), (DictEntry.mk (PyData.keyHash P (Str.ofString "_strip_quoted_realnames")) (Value.str (Str.ofString "_strip_quoted_realnames") 319) (Value.ref 107)), (DictEntry.mk (PyData.keyHash P (Str.ofString "_check_parenthesis")) (Value.str (Str.ofString "_check_parenthesis") 329) (Value.ref 114)), (DictEntry.mk (PyData.keyHash P (Str.ofString "b1_set")) (Value.str (Str.ofString "b1_set") 391) (Value.ref 122)), (DictEntry.mk (PyData.keyHash P (Str.ofString "in_table_b1")) (Value.str (Str.ofString "in_table_b1") 398) (Value.ref 132))] 19) #[])
noncomputable def o_13_12 (P : Params) : Obj := (Obj.mk Value.none (Option.none) (Data.fields #[(Value.int 2 0), (Value.int 0 0), (Value.ref 20), (Value.int 46 0), (Value.int 0 0), (Value.ref 62), (Value.int 51 0), (Value.int 0 0), (Value.ref 85), (Value.int 57 0), (Value.int 0 0), (Value.ref 92), (Value.int 66 0), (Value.int 0 0), (Value.ref 99), (Value.int 79 0), (Value.int 0 0), (Value.ref 106), (Value.int 97 0), (Value.int 0 0), (Value.ref 113), (Value.int 110 0), (Value.int 0 0), (Value.ref 131)]) #[])
noncomputable def o_13_126 (P : Params) : Obj := (Obj.mk (Value.type "tuple") (Option.none) (Data.seq #[] 0) #[])
noncomputable def o_13_127 (P : Params) : Obj := (Obj.mk Value.none (Option.none) (Data.fields #[]) #[])
noncomputable def o_13_128 (P : Params) : Obj := (Obj.mk (Value.type "tuple") (Option.none) (Data.seq #[(Value.str (Str.ofString "code") 395)] 0) #[])
noncomputable def o_13_129 (P : Params) : Obj := (Obj.mk (Value.type "tuple") (Option.none) (Data.seq #[] 0) #[])
noncomputable def o_13_130 (P : Params) : Obj := ⟨Value.none, (Option.none), (.func (FuncData.mk (Str.ofString "in_table_b1") (Str.ofString "in_table_b1") (fargs (stm 13)) (fbody (stm 13)) (fscope (stm 13)) 0 [] Value.none Value.none Value.none Value.none (Option.none) Value.none Value.none 0)), #[]⟩
noncomputable def o_13_131 (P : Params) : Obj := (Obj.mk (Value.type "code") (Option.none) (Data.fields #[(Value.str (Str.ofString "in_table_b1") 392), (Value.str (Str.ofString "in_table_b1") 393), (Value.str (Str.ofString "/claim/cut.py") 394), (Value.int 110 0), (Value.int 1 0), (Value.int 0 0), (Value.int 0 0), (Value.int 3 0), (Value.ref 126), (Value.bool Bool.true), (Value.int 181 0), (Value.ref 127), Value.none, (Value.ref 128), (Value.ref 129), (Value.ref 130), (Value.int 396 0), (Value.int 110 0), (Value.str (Str.ofString "/claim/cut.py") 397)]) #[])
noncomputable def o_13_132 (P : Params) : Obj := ⟨(Value.type "function"), (Option.none), (.func (FuncData.mk (Str.ofString "in_table_b1") (Str.ofString "in_table_b1") (fargs (stm 13)) (fbody (stm 13)) (fscope (stm 13)) 3 [] Value.none Value.none Value.none (Value.str (Str.ofString "cpy313.stringprep") 330) (Option.none) (Value.ref 131) Value.none 0)), #[]⟩
noncomputable def T_13 (P : Params) : BT := (.node (boot_o_0 P) (.node (boot_o_1 P) (.node (o_13_3 P) (.node (boot_o_7 P) (.node (o_2_15 P) (.node (o_2_31 P) (.node (o_9_63 P) (.node (o_13_127 P) .nil .nil) .nil) (.node (o_9_95 P) .nil .nil)) (.node (o_2_47 P) (.node (o_9_79 P) .nil .nil) (.node (o_11_111 P) .nil .nil))) (.node (o_2_23 P) (.node (o_2_39 P) (.node (o_9_71 P) .nil .nil) (.node (o_9_103 P) .nil .nil)) (.node (o_2_55 P) (.node (o_9_87 P) .nil .nil) (.node (o_12_119 P) .nil .nil)))) (.node (o_a_11 P) (.node (o_2_19 P) (.node (o_2_35 P) (.node (o_9_67 P) (.node (o_13_131 P) .nil .nil) .nil) (.node (o_9_99 P) .nil .nil)) (.node (o_2_51 P) (.node (o_9_83 P) .nil .nil) (.node (o_12_115 P) .nil .nil))) (.node (o_2_27 P) (.node (o_2_43 P) (.node (o_9_75 P) .nil .nil) (.node (o_9_107 P) .nil .nil)) (.node (o_9_59 P) (.node (o_9_91 P) .nil .nil) (.node (o_12_123 P) .nil .nil))))) (.node (boot_o_5 P) (.node (boot_o_9 P) (.node (o_2_17 P) (.node (o_2_33 P) (.node (o_9_65 P) (.node (o_13_129 P) .nil .nil) .nil) (.node (o_9_97 P) .nil .nil)) (.node (o_2_49 P) (.node (o_9_81 P) .nil .nil) (.node (o_11_113 P) .nil .nil))) (.node (o_2_25 P) (.node (o_2_41 P) (.node (o_9_73 P) .nil .nil) (.node (o_9_105 P) .nil .nil)) (.node (o_9_57 P) (.node (o_9_89 P) .nil .nil) (.node (o_12_121 P) .nil .nil)))) (.node (o_a_13 P) (.node (o_2_21 P) (.node (o_2_37 P) (.node (o_9_69 P) .nil .nil) (.node (o_9_101 P) .nil .nil)) (.node (o_2_53 P) (.node (o_9_85 P) .nil .nil) (.node (o_12_117 P) .nil .nil))) (.node (o_2_29 P) (.node (o_2_45 P) (.node (o_9_77 P) .nil .nil) (.node (o_11_109 P) .nil .nil)) (.node (o_9_61 P) (.node (o_9_93 P) .nil .nil) (.node (o_12_125 P) .nil .nil)))))) (.node (boot_o_2 P) (.node (boot_o_4 P) (.node (boot_o_8 P) (.node (o_2_16 P) (.node (o_2_32 P) (.node (o_9_64 P) (.node (o_13_128 P) .nil .nil) .nil) (.node (o_9_96 P) .nil .nil)) (.node (o_2_48 P) (.node (o_9_80 P) .nil .nil) (.node (o_11_112 P) .nil .nil))) (.node (o_2_24 P) (.node (o_2_40 P) (.node (o_9_72 P) .nil .nil) (.node (o_9_104 P) .nil .nil)) (.node (o_2_56 P) (.node (o_9_88 P) .nil .nil) (.node (o_12_120 P) .nil .nil)))) (.node (o_13_12 P) (.node (o_2_20 P) (.node (o_2_36 P) (.node (o_9_68 P) (.node (o_13_132 P) .nil .nil) .nil) (.node (o_9_100 P) .nil .nil)) (.node (o_2_52 P) (.node (o_9_84 P) .nil .nil) (.node (o_12_116 P) .nil .nil))) (.node (o_2_28 P) (.node (o_2_44 P) (.node (o_9_76 P) .nil .nil) (.node (o_11_108 P) .nil .nil)) (.node (o_9_60 P) (.node (o_9_92 P) .nil .nil) (.node (o_12_124 P) .nil .nil))))) (.node (boot_o_6 P) (.node (boot_o_10 P) (.node (o_2_18 P) (.node (o_2_34 P) (.node (o_9_66 P) (.node (o_13_130 P) .nil .nil) .nil) (.node (o_9_98 P) .nil .nil)) (.node (o_2_50 P) (.node (o_9_82 P) .nil .nil) (.node (o_11_114 P) .nil .nil))) (.node (o_2_26 P) (.node (o_2_42 P) (.node (o_9_74 P) .nil .nil) (.node (o_9_106 P) .nil .nil)) (.node (o_9_58 P) (.node (o_9_90 P) .nil .nil) (.node (o_12_122 P) .nil .nil)))) (.node (o_a_14 P) (.node (o_2_22 P) (.node (o_2_38 P) (.node (o_9_70 P) .nil .nil) (.node (o_9_102 P) .nil .nil)) (.node (o_2_54 P) (.node (o_9_86 P) .nil .nil) (.node (o_12_118 P) .nil .nil))) (.node (o_2_30 P) (.node (o_2_46 P) (.node (o_9_78 P) .nil .nil) (.node (o_11_110 P) .nil .nil)) (.node (o_9_62 P) (.node (o_9_94 P) .nil .nil) (.node (o_13_126 P) .nil .nil)))))))
noncomputable def S_13 (w : World) (os : OsState) : SharedT := ⟨T_13 w.params, 133, (Life.mk [] [] [] 0 [] [] Bool.false #[] [] 0 Bool.false Bool.false Bool.false 0 [2000, 10, 10] Bool.false 0 Bool.true [] [] 0 Bool.false), #[], (Drawn.mk 0 0 0 0), 399, os⟩ -- pos ⟨110, 0, 111, 30⟩ steps 29
noncomputable def o_14_3 (P : Params) : Obj := (Obj.mk (Value.type "dict") (Option.none) (Data.dict #[(DictEntry.mk (PyData.keyHash P (Str.ofString "__name__")) (Value.str (Str.ofString "__name__") 165) (Value.str (Str.ofString "cpy313.stringprep") 330)), (DictEntry.mk (PyData.keyHash P (Str.ofString "__doc__")) (Value.str (Str.ofString "__doc__") 166) Value.none), (DictEntry.mk (PyData.keyHash P (Str.ofString "__package__")) (Value.str (Str.ofString "__package__") 167) Value.none), (DictEntry.mk (PyData.keyHash P (Str.ofString "__loader__")) (Value.str (Str.ofString "__loader__") 168) (Value.builtin "__main__.__loader__#opaque")), (DictEntry.mk (PyData.keyHash P (Str.ofString "__spec__")) (Value.str (Str.ofString "__spec__") 169) Value.none), (DictEntry.mk (PyData.keyHash P (Str.ofString "__annotations__")) (Value.str (Str.ofString "__annotations__") 170) (Value.ref 6)), (DictEntry.mk (PyData.keyHash P (Str.ofString "__builtins__")) (Value.str (Str.ofString "__builtins__") 171) (Value.ref 4)), (DictEntry.mk (PyData.keyHash P (Str.ofString "__file__")) (Value.str (Str.ofString "__file__") 173) (Value.str (Str.ofString "/claim/cut.py") 172)), (DictEntry.mk (PyData.keyHash P (Str.ofString "__cached__")) (Value.str (Str.ofString "__cached__") 174) Value.none), (DictEntry.mk (PyData.keyHash P (Str.ofString "_netrclex")) (Value.str (Str.ofString "_netrclex") 246) (Value.ref 52)), (DictEntry.mk (PyData.keyHash P (Str.ofString "_Unknown")) (Value.str (Str.ofString "_Unknown") 275) (Value.ref 73)), (DictEntry.mk (PyData.keyHash P (Str.ofString "UNKNOWN")) (Value.str (Str.ofString "UNKNOWN") 276) (Value.ref 79)), (DictEntry.mk (PyData.keyHash P (Str.ofString "_get_name_info")) (Value.str (Str.ofString "_get_name_info") 286) (Value.ref 86)), (DictEntry.mk (PyData.keyHash P (Str.ofString "_parse_varint")) (Value.str (Str.ofString "_parse_varint") 295) (Value.ref 93)), (DictEntry.mk (PyData.keyHash P (Str.ofString "_iter_escaped_chars")) (Value.str (Str.ofString "_iter_escaped_chars") 307) (Value.ref 100)), (DictEntry.mk (PyData.keyHash P (Str.ofString "_strip_quoted_realnames")) (Value.str (Str.ofString "_strip_quoted_realnames") 319) (Value.ref 107)), (DictEntry.mk (PyData.keyHash P (Str.ofString "_check_parenthesis")) (Value.str (Str.ofString "_check_parenthesis") 329) (Value.ref 114)), (DictEntry.mk (PyData.keyHash P (Str.ofString "b1_set")) (Value.str (Str.ofString "b1_set") 391) (Value.ref 122)), (DictEntry.mk (PyData.keyHash P (Str.ofString "in_table_b1")) (Value.str (Str.ofString "in_table_b1") 398) (Value.ref 132)), (DictEntry.mk (PyData.keyHash P (Str.ofString "b3_exceptions")) (Value.str (Str.ofString "b3_exceptions") 2349) (Value.ref 133))] 20) #[])
noncomputable def T_14 (P : Params) : BT := (.node (boot_o_0 P) (.node (boot_o_1 P) (.node (o_14_3 P) (.node (boot_o_7 P) (.node (o_2_15 P) (.node (o_2_31 P) (.node (o_9_63 P) (.node (o_13_127 P) .nil .nil) .nil) (.node (o_9_95 P) (.node (b3o 159 P) .nil .nil) .nil)) (.node (o_2_47 P) (.node (o_9_79 P) (.node (b3o 143 P) .nil .nil) .nil) (.node (o_11_111 P) .nil .nil))) (.node (o_2_23 P) (.node (o_2_39 P) (.node (o_9_71 P) (.node (b3o 135 P) .nil .nil) .nil) (.node (o_9_103 P) (.node (b3o 167 P) .nil .nil) .nil)) (.node (o_2_55 P) (.node (o_9_87 P) (.node (b3o 151 P) .nil .nil) .nil) (.node (o_12_119 P) .nil .nil)))) (.node (o_a_11 P) (.node (o_2_19 P) (.node (o_2_35 P) (.node (o_9_67 P) (.node (o_13_131 P) .nil .nil) .nil) (.node (o_9_99 P) (.node (b3o 163 P) .nil .nil) .nil)) (.node (o_2_51 P) (.node (o_9_83 P) (.node (b3o 147 P) .nil .nil) .nil) (.node (o_12_115 P) .nil .nil))) (.node (o_2_27 P) (.node (o_2_43 P) (.node (o_9_75 P) (.node (b3o 139 P) .nil .nil) .nil) (.node (o_9_107 P) (.node (b3o 171 P) .nil .nil) .nil)) (.node (o_9_59 P) (.node (o_9_91 P) (.node (b3o 155 P) .nil .nil) .nil) (.node (o_12_123 P) .nil .nil))))) (.node (boot_o_5 P) (.node (boot_o_9 P) (.node (o_2_17 P) (.node (o_2_33 P) (.node (o_9_65 P) (.node (o_13_129 P) .nil .nil) .nil) (.node (o_9_97 P) (.node (b3o 161 P) .nil .nil) .nil)) (.node (o_2_49 P) (.node (o_9_81 P) (.node (b3o 145 P) .nil .nil) .nil) (.node (o_11_113 P) .nil .nil))) (.node (o_2_25 P) (.node (o_2_41 P) (.node (o_9_73 P) (.node (b3o 137 P) .nil .nil) .nil) (.node (o_9_105 P) (.node (b3o 169 P) .nil .nil) .nil)) (.node (o_9_57 P) (.node (o_9_89 P) (.node (b3o 153 P) .nil .nil) .nil) (.node (o_12_121 P) .nil .nil)))) (.node (o_a_13 P) (.node (o_2_21 P) (.node (o_2_37 P) (.node (o_9_69 P) (.node (b3o 133 P) .nil .nil) .nil) (.node (o_9_101 P) (.node (b3o 165 P) .nil .nil) .nil)) (.node (o_2_53 P) (.node (o_9_85 P) (.node (b3o 149 P) .nil .nil) .nil) (.node (o_12_117 P) .nil .nil))) (.node (o_2_29 P) (.node (o_2_45 P) (.node (o_9_77 P) (.node (b3o 141 P) .nil .nil) .nil) (.node (o_11_109 P) .nil .nil)) (.node (o_9_61 P) (.node (o_9_93 P) (.node (b3o 157 P) .nil .nil) .nil) (.node (o_12_125 P) .nil .nil)))))) (.node (boot_o_2 P) (.node (boot_o_4 P) (.node (boot_o_8 P) (.node (o_2_16 P) (.node (o_2_32 P) (.node (o_9_64 P) (.node (o_13_128 P) .nil .nil) .nil) (.node (o_9_96 P) (.node (b3o 160 P) .nil .nil) .nil)) (.node (o_2_48 P) (.node (o_9_80 P) (.node (b3o 144 P) .nil .nil) .nil) (.node (o_11_112 P) .nil .nil))) (.node (o_2_24 P) (.node (o_2_40 P) (.node (o_9_72 P) (.node (b3o 136 P) .nil .nil) .nil) (.node (o_9_104 P) (.node (b3o 168 P) .nil .nil) .nil)) (.node (o_2_56 P) (.node (o_9_88 P) (.node (b3o 152 P) .nil .nil) .nil) (.node (o_12_120 P) .nil .nil)))) (.node (o_13_12 P) (.node (o_2_20 P) (.node (o_2_36 P) (.node (o_9_68 P) (.node (o_13_132 P) .nil .nil) .nil) (.node (o_9_100 P) (.node (b3o 164 P) .nil .nil) .nil)) (.node (o_2_52 P) (.node (o_9_84 P) (.node (b3o 148 P) .nil .nil) .nil) (.node (o_12_116 P) .nil .nil))) (.node (o_2_28 P) (.node (o_2_44 P) (.node (o_9_76 P) (.node (b3o 140 P) .nil .nil) .nil) (.node (o_11_108 P) .nil .nil)) (.node (o_9_60 P) (.node (o_9_92 P) (.node (b3o 156 P) .nil .nil) .nil) (.node (o_12_124 P) .nil .nil))))) (.node (boot_o_6 P) (.node (boot_o_10 P) (.node (o_2_18 P) (.node (o_2_34 P) (.node (o_9_66 P) (.node (o_13_130 P) .nil .nil) .nil) (.node (o_9_98 P) (.node (b3o 162 P) .nil .nil) .nil)) (.node (o_2_50 P) (.node (o_9_82 P) (.node (b3o 146 P) .nil .nil) .nil) (.node (o_11_114 P) .nil .nil))) (.node (o_2_26 P) (.node (o_2_42 P) (.node (o_9_74 P) (.node (b3o 138 P) .nil .nil) .nil) (.node (o_9_106 P) (.node (b3o 170 P) .nil .nil) .nil)) (.node (o_9_58 P) (.node (o_9_90 P) (.node (b3o 154 P) .nil .nil) .nil) (.node (o_12_122 P) .nil .nil)))) (.node (o_a_14 P) (.node (o_2_22 P) (.node (o_2_38 P) (.node (o_9_70 P) (.node (b3o 134 P) .nil .nil) .nil) (.node (o_9_102 P) (.node (b3o 166 P) .nil .nil) .nil)) (.node (o_2_54 P) (.node (o_9_86 P) (.node (b3o 150 P) .nil .nil) .nil) (.node (o_12_118 P) .nil .nil))) (.node (o_2_30 P) (.node (o_2_46 P) (.node (o_9_78 P) (.node (b3o 142 P) .nil .nil) .nil) (.node (o_11_110 P) .nil .nil)) (.node (o_9_62 P) (.node (o_9_94 P) (.node (b3o 158 P) .nil .nil) .nil) (.node (o_13_126 P) .nil .nil)))))))
noncomputable def S_14 (w : World) (os : OsState) : SharedT := ⟨T_14 w.params, 172, (Life.mk [] [] [] 0 [] [] Bool.false #[] [] 0 Bool.false Bool.false Bool.false 0 [2000, 10, 10] Bool.false 0 Bool.true [] [] 0 Bool.false), #[], (Drawn.mk 0 0 0 0), 2350, os⟩ -- pos ⟨112, 0, 112, 13⟩ steps 12524
noncomputable def o_28_3 (P : Params) : Obj := (Obj.mk (Value.type "dict") (Option.none) (Data.dict #[(DictEntry.mk (PyData.keyHash P (Str.ofString "__name__")) (Value.str (Str.ofString "__name__") 165) (Value.str (Str.ofString "law_kl0050_01") 2358)), (DictEntry.mk (PyData.keyHash P (Str.ofString "__doc__")) (Value.str (Str.ofString "__doc__") 166) Value.none), (DictEntry.mk (PyData.keyHash P (Str.ofString "__package__")) (Value.str (Str.ofString "__package__") 167) Value.none), (DictEntry.mk (PyData.keyHash P (Str.ofString "__loader__")) (Value.str (Str.ofString "__loader__") 168) (Value.builtin "__main__.__loader__#opaque")), (DictEntry.mk (PyData.keyHash P (Str.ofString "__spec__")) (Value.str (Str.ofString "__spec__") 169) Value.none), (DictEntry.mk (PyData.keyHash P (Str.ofString "__annotations__")) (Value.str (Str.ofString "__annotations__") 170) (Value.ref 6)), (DictEntry.mk (PyData.keyHash P (Str.ofString "__builtins__")) (Value.str (Str.ofString "__builtins__") 171) (Value.ref 4)), (DictEntry.mk (PyData.keyHash P (Str.ofString "__file__")) (Value.str (Str.ofString "__file__") 173) (Value.str (Str.ofString "/claim/cut.py") 172)), (DictEntry.mk (PyData.keyHash P (Str.ofString "__cached__")) (Value.str (Str.ofString "__cached__") 174) Value.none), (DictEntry.mk (PyData.keyHash P (Str.ofString "_netrclex")) (Value.str (Str.ofString "_netrclex") 246) (Value.ref 52)), (DictEntry.mk (PyData.keyHash P (Str.ofString "_Unknown")) (Value.str (Str.ofString "_Unknown") 275) (Value.ref 73)), (DictEntry.mk (PyData.keyHash P (Str.ofString "UNKNOWN")) (Value.str (Str.ofString "UNKNOWN") 276) (Value.ref 79)), (DictEntry.mk (PyData.keyHash P (Str.ofString "_get_name_info")) (Value.str (Str.ofString "_get_name_info") 286) (Value.ref 86)), (DictEntry.mk (PyData.keyHash P (Str.ofString "_parse_varint")) (Value.str (Str.ofString "_parse_varint") 295) (Value.ref 93)), (DictEntry.mk (PyData.keyHash P (Str.ofString "_iter_escaped_chars")) (Value.str (Str.ofString "_iter_escaped_chars") 307) (Value.ref 100)), (DictEntry.mk (PyData.keyHash P (Str.ofString "_strip_quoted_realnames")) (Value.str (Str.ofString "_strip_quoted_realnames") 319) (Value.ref 107)), (DictEntry.mk (PyData.keyHash P (Str.ofString "_check_parenthesis")) (Value.str (Str.ofString "_check_parenthesis") 329) (Value.ref 114)), (DictEntry.mk (PyData.keyHash P (Str.ofString "b1_set")) (Value.str (Str.ofString "b1_set") 391) (Value.ref 122)), (DictEntry.mk (PyData.keyHash P (Str.ofString "in_table_b1")) (Value.str (Str.ofString "in_table_b1") 398) (Value.ref 132)), (DictEntry.mk (PyData.keyHash P (Str.ofString "b3_exceptions")) (Value.str (Str.ofString "b3_exceptions") 2349) (Value.ref 133)), (DictEntry.mk (PyData.keyHash P (Str.ofString "map_table_b3")) (Value.str (Str.ofString "map_table_b3") 2357) (Value.ref 178)), (DictEntry.mk (PyData.keyHash P (Str.ofString "_law_spelled")) (Value.str (Str.ofString "_law_spelled") 2372) (Value.ref 185)), (DictEntry.mk (PyData.keyHash P (Str.ofString "_law_octets")) (Value.str (Str.ofString "_law_octets") 2384) (Value.ref 192)), (DictEntry.mk (PyData.keyHash P (Str.ofString "_law_read")) (Value.str (Str.ofString "_law_read") 2393) (Value.ref 199)), (DictEntry.mk (PyData.keyHash P (Str.ofString "_law_prepared")) (Value.str (Str.ofString "_law_prepared") 2399) (Value.ref 204)), (DictEntry.mk (PyData.keyHash P (Str.ofString "_law_lexer")) (Value.str (Str.ofString "_law_lexer") 2408) (Value.ref 211)), (DictEntry.mk (PyData.keyHash P (Str.ofString "_law_numbers")) (Value.str (Str.ofString "_law_numbers") 2414) (Value.ref 216)), (DictEntry.mk (PyData.keyHash P (Str.ofString "_law_path")) (Value.str (Str.ofString "_law_path") 2424) (Value.ref 223)), (DictEntry.mk (PyData.keyHash P (Str.ofString "_law_rows")) (Value.str (Str.ofString "_law_rows") 2434) (Value.ref 230)), (DictEntry.mk (PyData.keyHash P (Str.ofString "_law_line")) (Value.str (Str.ofString "_law_line") 2440) (Value.ref 235)), (DictEntry.mk (PyData.keyHash P (Str.ofString "_law_rise")) (Value.str (Str.ofString "_law_rise") 2448) (Value.ref 242)), (DictEntry.mk (PyData.keyHash P (Str.ofString "_law_rises")) (Value.str (Str.ofString "_law_rises") 2459) (Value.ref 249)), (DictEntry.mk (PyData.keyHash P (Str.ofString "_law_pairs")) (Value.str (Str.ofString "_law_pairs") 2469) (Value.ref 256))] 33) #[])
noncomputable def o_28_12 (P : Params) : Obj := (Obj.mk Value.none (Option.none) (Data.fields #[(Value.int 2 0), (Value.int 0 0), (Value.ref 20), (Value.int 46 0), (Value.int 0 0), (Value.ref 62), (Value.int 51 0), (Value.int 0 0), (Value.ref 85), (Value.int 57 0), (Value.int 0 0), (Value.ref 92), (Value.int 66 0), (Value.int 0 0), (Value.ref 99), (Value.int 79 0), (Value.int 0 0), (Value.ref 106), (Value.int 97 0), (Value.int 0 0), (Value.ref 113), (Value.int 110 0), (Value.int 0 0), (Value.ref 131), (Value.int 113 0), (Value.int 0 0), (Value.ref 177), (Value.int 119 0), (Value.int 0 0), (Value.ref 184), (Value.int 135 0), (Value.int 0 0), (Value.ref 191), (Value.int 145 0), (Value.int 0 0), (Value.ref 198), (Value.int 153 0), (Value.int 0 0), (Value.ref 203), (Value.int 155 0), (Value.int 0 0), (Value.ref 210), (Value.int 160 0), (Value.int 0 0), (Value.ref 215), (Value.int 165 0), (Value.int 0 0), (Value.ref 222), (Value.int 172 0), (Value.int 0 0), (Value.ref 229), (Value.int 179 0), (Value.int 0 0), (Value.ref 234), (Value.int 196 0), (Value.int 0 0), (Value.ref 241), (Value.int 201 0), (Value.int 0 0), (Value.ref 248), (Value.int 209 0), (Value.int 0 0), (Value.ref 255)]) #[])
noncomputable def o_28_172 (P : Params) : Obj := (Obj.mk (Value.type "tuple") (Option.none) (Data.seq #[] 0) #[])
noncomputable def o_28_173 (P : Params) : Obj := (Obj.mk Value.none (Option.none) (Data.fields #[]) #[])
noncomputable def o_28_174 (P : Params) : Obj := (Obj.mk (Value.type "tuple") (Option.none) (Data.seq #[(Value.str (Str.ofString "code") 2353), (Value.str (Str.ofString "r") 2354)] 0) #[])
noncomputable def o_28_175 (P : Params) : Obj := (Obj.mk (Value.type "tuple") (Option.none) (Data.seq #[] 0) #[])
noncomputable def o_28_176 (P : Params) : Obj := ⟨Value.none, (Option.none), (.func (FuncData.mk (Str.ofString "map_table_b3") (Str.ofString "map_table_b3") (fargs (stm 15)) (fbody (stm 15)) (fscope (stm 15)) 0 [] Value.none Value.none Value.none Value.none (Option.none) Value.none Value.none 0)), #[]⟩
noncomputable def o_28_177 (P : Params) : Obj := (Obj.mk (Value.type "code") (Option.none) (Data.fields #[(Value.str (Str.ofString "map_table_b3") 2350), (Value.str (Str.ofString "map_table_b3") 2351), (Value.str (Str.ofString "/claim/cut.py") 2352), (Value.int 113 0), (Value.int 1 0), (Value.int 0 0), (Value.int 0 0), (Value.int 3 0), (Value.ref 172), (Value.bool Bool.true), (Value.int 181 0), (Value.ref 173), Value.none, (Value.ref 174), (Value.ref 175), (Value.ref 176), (Value.int 2355 0), (Value.int 113 0), (Value.str (Str.ofString "/claim/cut.py") 2356)]) #[])
noncomputable def o_28_178 (P : Params) : Obj := ⟨(Value.type "function"), (Option.none), (.func (FuncData.mk (Str.ofString "map_table_b3") (Str.ofString "map_table_b3") (fargs (stm 15)) (fbody (stm 15)) (fscope (stm 15)) 3 [] Value.none Value.none Value.none (Value.str (Str.ofString "cpy313.stringprep") 330) (Option.none) (Value.ref 177) Value.none 0)), #[]⟩
noncomputable def o_28_179 (P : Params) : Obj := (Obj.mk (Value.type "tuple") (Option.none) (Data.seq #[] 0) #[])
noncomputable def o_28_180 (P : Params) : Obj := (Obj.mk Value.none (Option.none) (Data.fields #[]) #[])
noncomputable def o_28_181 (P : Params) : Obj := (Obj.mk (Value.type "tuple") (Option.none) (Data.seq #[(Value.str (Str.ofString "row") 2363), (Value.str (Str.ofString "number") 2364), (Value.str (Str.ofString "forms") 2365), (Value.str (Str.ofString "pairs") 2366), (Value.str (Str.ofString "text") 2367), (Value.str (Str.ofString "place") 2368), (Value.str (Str.ofString "choice") 2369)] 0) #[])
noncomputable def o_28_182 (P : Params) : Obj := (Obj.mk (Value.type "tuple") (Option.none) (Data.seq #[] 0) #[])
noncomputable def o_28_183 (P : Params) : Obj := ⟨Value.none, (Option.none), (.func (FuncData.mk (Str.ofString "_law_spelled") (Str.ofString "_law_spelled") (fargs (stm 17)) (fbody (stm 17)) (fscope (stm 17)) 0 [] Value.none Value.none Value.none Value.none (Option.none) Value.none Value.none 0)), #[]⟩
noncomputable def o_28_184 (P : Params) : Obj := (Obj.mk (Value.type "code") (Option.none) (Data.fields #[(Value.str (Str.ofString "_law_spelled") 2360), (Value.str (Str.ofString "_law_spelled") 2361), (Value.str (Str.ofString "/claim/cut.py") 2362), (Value.int 119 0), (Value.int 2 0), (Value.int 0 0), (Value.int 0 0), (Value.int 3 0), (Value.ref 179), (Value.bool Bool.true), (Value.int 181 0), (Value.ref 180), Value.none, (Value.ref 181), (Value.ref 182), (Value.ref 183), (Value.int 2370 0), (Value.int 119 0), (Value.str (Str.ofString "/claim/cut.py") 2371)]) #[])
noncomputable def o_28_185 (P : Params) : Obj := ⟨(Value.type "function"), (Option.none), (.func (FuncData.mk (Str.ofString "_law_spelled") (Str.ofString "_law_spelled") (fargs (stm 17)) (fbody (stm 17)) (fscope (stm 17)) 3 [] Value.none Value.none Value.none (Value.str (Str.ofString "law_kl0050_01") 2358) (Option.none) (Value.ref 184) Value.none 0)), #[]⟩
noncomputable def o_28_186 (P : Params) : Obj := (Obj.mk (Value.type "tuple") (Option.none) (Data.seq #[] 0) #[])
noncomputable def o_28_187 (P : Params) : Obj := (Obj.mk Value.none (Option.none) (Data.fields #[]) #[])
noncomputable def o_28_188 (P : Params) : Obj := (Obj.mk (Value.type "tuple") (Option.none) (Data.seq #[(Value.str (Str.ofString "text") 2376), (Value.str (Str.ofString "octets") 2377), (Value.str (Str.ofString "sign") 2378), (Value.str (Str.ofString "left") 2379), (Value.str (Str.ofString "digit") 2380), (Value.str (Str.ofString "digits") 2381)] 0) #[])
noncomputable def o_28_189 (P : Params) : Obj := (Obj.mk (Value.type "tuple") (Option.none) (Data.seq #[] 0) #[])
noncomputable def o_28_190 (P : Params) : Obj := ⟨Value.none, (Option.none), (.func (FuncData.mk (Str.ofString "_law_octets") (Str.ofString "_law_octets") (fargs (stm 18)) (fbody (stm 18)) (fscope (stm 18)) 0 [] Value.none Value.none Value.none Value.none (Option.none) Value.none Value.none 0)), #[]⟩
noncomputable def o_28_191 (P : Params) : Obj := (Obj.mk (Value.type "code") (Option.none) (Data.fields #[(Value.str (Str.ofString "_law_octets") 2373), (Value.str (Str.ofString "_law_octets") 2374), (Value.str (Str.ofString "/claim/cut.py") 2375), (Value.int 135 0), (Value.int 1 0), (Value.int 0 0), (Value.int 0 0), (Value.int 3 0), (Value.ref 186), (Value.bool Bool.true), (Value.int 181 0), (Value.ref 187), Value.none, (Value.ref 188), (Value.ref 189), (Value.ref 190), (Value.int 2382 0), (Value.int 135 0), (Value.str (Str.ofString "/claim/cut.py") 2383)]) #[])
noncomputable def o_28_192 (P : Params) : Obj := ⟨(Value.type "function"), (Option.none), (.func (FuncData.mk (Str.ofString "_law_octets") (Str.ofString "_law_octets") (fargs (stm 18)) (fbody (stm 18)) (fscope (stm 18)) 3 [] Value.none Value.none Value.none (Value.str (Str.ofString "law_kl0050_01") 2358) (Option.none) (Value.ref 191) Value.none 0)), #[]⟩
noncomputable def o_28_193 (P : Params) : Obj := (Obj.mk (Value.type "tuple") (Option.none) (Data.seq #[] 0) #[])
noncomputable def o_28_194 (P : Params) : Obj := (Obj.mk Value.none (Option.none) (Data.fields #[]) #[])
noncomputable def o_28_195 (P : Params) : Obj := (Obj.mk (Value.type "tuple") (Option.none) (Data.seq #[(Value.str (Str.ofString "octets") 2388), (Value.str (Str.ofString "iterator") 2389), (Value.str (Str.ofString "text") 2390)] 0) #[])
noncomputable def o_28_196 (P : Params) : Obj := (Obj.mk (Value.type "tuple") (Option.none) (Data.seq #[] 0) #[])
noncomputable def o_28_197 (P : Params) : Obj := ⟨Value.none, (Option.none), (.func (FuncData.mk (Str.ofString "_law_read") (Str.ofString "_law_read") (fargs (stm 19)) (fbody (stm 19)) (fscope (stm 19)) 0 [] Value.none Value.none Value.none Value.none (Option.none) Value.none Value.none 0)), #[]⟩
noncomputable def o_28_198 (P : Params) : Obj := (Obj.mk (Value.type "code") (Option.none) (Data.fields #[(Value.str (Str.ofString "_law_read") 2385), (Value.str (Str.ofString "_law_read") 2386), (Value.str (Str.ofString "/claim/cut.py") 2387), (Value.int 145 0), (Value.int 1 0), (Value.int 0 0), (Value.int 0 0), (Value.int 3 0), (Value.ref 193), (Value.bool Bool.true), (Value.int 181 0), (Value.ref 194), Value.none, (Value.ref 195), (Value.ref 196), (Value.ref 197), (Value.int 2391 0), (Value.int 145 0), (Value.str (Str.ofString "/claim/cut.py") 2392)]) #[])
noncomputable def o_28_199 (P : Params) : Obj := ⟨(Value.type "function"), (Option.none), (.func (FuncData.mk (Str.ofString "_law_read") (Str.ofString "_law_read") (fargs (stm 19)) (fbody (stm 19)) (fscope (stm 19)) 3 [] Value.none Value.none Value.none (Value.str (Str.ofString "law_kl0050_01") 2358) (Option.none) (Value.ref 198) Value.none 0)), #[]⟩
noncomputable def o_28_200 (P : Params) : Obj := (Obj.mk (Value.type "tuple") (Option.none) (Data.seq #[] 0) #[])
noncomputable def o_28_201 (P : Params) : Obj := (Obj.mk Value.none (Option.none) (Data.fields #[]) #[])
noncomputable def o_28_202 (P : Params) : Obj := ⟨Value.none, (Option.none), (.func (FuncData.mk (Str.ofString "_law_prepared") (Str.ofString "_law_prepared") (fargs (stm 20)) (fbody (stm 20)) (fscope (stm 20)) 0 [] Value.none Value.none Value.none Value.none (Option.none) Value.none Value.none 0)), #[]⟩
noncomputable def o_28_203 (P : Params) : Obj := (Obj.mk (Value.type "code") (Option.none) (Data.fields #[(Value.str (Str.ofString "_law_prepared") 2394), (Value.str (Str.ofString "_law_prepared") 2395), (Value.str (Str.ofString "/claim/cut.py") 2396), (Value.int 153 0), (Value.int 1 0), (Value.int 0 0), (Value.int 0 0), (Value.int 3 0), (Value.ref 200), (Value.bool Bool.true), (Value.int 181 0), (Value.ref 201), Value.none, Value.none, Value.none, (Value.ref 202), (Value.int 2397 0), (Value.int 153 0), (Value.str (Str.ofString "/claim/cut.py") 2398)]) #[])
noncomputable def o_28_204 (P : Params) : Obj := ⟨(Value.type "function"), (Option.none), (.func (FuncData.mk (Str.ofString "_law_prepared") (Str.ofString "_law_prepared") (fargs (stm 20)) (fbody (stm 20)) (fscope (stm 20)) 3 [] Value.none Value.none Value.none (Value.str (Str.ofString "law_kl0050_01") 2358) (Option.none) (Value.ref 203) Value.none 0)), #[]⟩
noncomputable def o_28_205 (P : Params) : Obj := (Obj.mk (Value.type "tuple") (Option.none) (Data.seq #[] 0) #[])
noncomputable def o_28_206 (P : Params) : Obj := (Obj.mk Value.none (Option.none) (Data.fields #[]) #[])
noncomputable def o_28_207 (P : Params) : Obj := (Obj.mk (Value.type "tuple") (Option.none) (Data.seq #[(Value.str (Str.ofString "text") 2403), (Value.str (Str.ofString "stream") 2404)] 0) #[])
noncomputable def o_28_208 (P : Params) : Obj := (Obj.mk (Value.type "tuple") (Option.none) (Data.seq #[(Value.str (Str.ofString "signs") 2405)] 0) #[])
noncomputable def o_28_209 (P : Params) : Obj := ⟨Value.none, (Option.none), (.func (FuncData.mk (Str.ofString "_law_lexer") (Str.ofString "_law_lexer") (fargs (stm 21)) (fbody (stm 21)) (fscope (stm 21)) 0 [] Value.none Value.none Value.none Value.none (Option.none) Value.none Value.none 0)), #[]⟩
noncomputable def o_28_210 (P : Params) : Obj := (Obj.mk (Value.type "code") (Option.none) (Data.fields #[(Value.str (Str.ofString "_law_lexer") 2400), (Value.str (Str.ofString "_law_lexer") 2401), (Value.str (Str.ofString "/claim/cut.py") 2402), (Value.int 155 0), (Value.int 1 0), (Value.int 0 0), (Value.int 0 0), (Value.int 3 0), (Value.ref 205), (Value.bool Bool.true), (Value.int 181 0), (Value.ref 206), Value.none, (Value.ref 207), (Value.ref 208), (Value.ref 209), (Value.int 2406 0), (Value.int 155 0), (Value.str (Str.ofString "/claim/cut.py") 2407)]) #[])
noncomputable def o_28_211 (P : Params) : Obj := ⟨(Value.type "function"), (Option.none), (.func (FuncData.mk (Str.ofString "_law_lexer") (Str.ofString "_law_lexer") (fargs (stm 21)) (fbody (stm 21)) (fscope (stm 21)) 3 [] Value.none Value.none Value.none (Value.str (Str.ofString "law_kl0050_01") 2358) (Option.none) (Value.ref 210) Value.none 0)), #[]⟩
noncomputable def o_28_212 (P : Params) : Obj := (Obj.mk (Value.type "tuple") (Option.none) (Data.seq #[] 0) #[])
noncomputable def o_28_213 (P : Params) : Obj := (Obj.mk Value.none (Option.none) (Data.fields #[]) #[])
noncomputable def o_28_214 (P : Params) : Obj := ⟨Value.none, (Option.none), (.func (FuncData.mk (Str.ofString "_law_numbers") (Str.ofString "_law_numbers") (fargs (stm 22)) (fbody (stm 22)) (fscope (stm 22)) 0 [] Value.none Value.none Value.none Value.none (Option.none) Value.none Value.none 0)), #[]⟩
noncomputable def o_28_215 (P : Params) : Obj := (Obj.mk (Value.type "code") (Option.none) (Data.fields #[(Value.str (Str.ofString "_law_numbers") 2409), (Value.str (Str.ofString "_law_numbers") 2410), (Value.str (Str.ofString "/claim/cut.py") 2411), (Value.int 160 0), (Value.int 2 0), (Value.int 0 0), (Value.int 0 0), (Value.int 3 0), (Value.ref 212), (Value.bool Bool.true), (Value.int 181 0), (Value.ref 213), Value.none, Value.none, Value.none, (Value.ref 214), (Value.int 2412 0), (Value.int 160 0), (Value.str (Str.ofString "/claim/cut.py") 2413)]) #[])
noncomputable def o_28_216 (P : Params) : Obj := ⟨(Value.type "function"), (Option.none), (.func (FuncData.mk (Str.ofString "_law_numbers") (Str.ofString "_law_numbers") (fargs (stm 22)) (fbody (stm 22)) (fscope (stm 22)) 3 [] Value.none Value.none Value.none (Value.str (Str.ofString "law_kl0050_01") 2358) (Option.none) (Value.ref 215) Value.none 0)), #[]⟩
noncomputable def o_28_217 (P : Params) : Obj := (Obj.mk (Value.type "tuple") (Option.none) (Data.seq #[] 0) #[])
noncomputable def o_28_218 (P : Params) : Obj := (Obj.mk Value.none (Option.none) (Data.fields #[]) #[])
noncomputable def o_28_219 (P : Params) : Obj := (Obj.mk (Value.type "tuple") (Option.none) (Data.seq #[(Value.str (Str.ofString "starts") 2418), (Value.str (Str.ofString "row") 2419), (Value.str (Str.ofString "level") 2420), (Value.str (Str.ofString "start") 2421)] 0) #[])
noncomputable def o_28_220 (P : Params) : Obj := (Obj.mk (Value.type "tuple") (Option.none) (Data.seq #[] 0) #[])
noncomputable def o_28_221 (P : Params) : Obj := ⟨Value.none, (Option.none), (.func (FuncData.mk (Str.ofString "_law_path") (Str.ofString "_law_path") (fargs (stm 23)) (fbody (stm 23)) (fscope (stm 23)) 0 [] Value.none Value.none Value.none Value.none (Option.none) Value.none Value.none 0)), #[]⟩
noncomputable def o_28_222 (P : Params) : Obj := (Obj.mk (Value.type "code") (Option.none) (Data.fields #[(Value.str (Str.ofString "_law_path") 2415), (Value.str (Str.ofString "_law_path") 2416), (Value.str (Str.ofString "/claim/cut.py") 2417), (Value.int 165 0), (Value.int 1 0), (Value.int 0 0), (Value.int 0 0), (Value.int 3 0), (Value.ref 217), (Value.bool Bool.true), (Value.int 181 0), (Value.ref 218), Value.none, (Value.ref 219), (Value.ref 220), (Value.ref 221), (Value.int 2422 0), (Value.int 165 0), (Value.str (Str.ofString "/claim/cut.py") 2423)]) #[])
noncomputable def o_28_223 (P : Params) : Obj := ⟨(Value.type "function"), (Option.none), (.func (FuncData.mk (Str.ofString "_law_path") (Str.ofString "_law_path") (fargs (stm 23)) (fbody (stm 23)) (fscope (stm 23)) 3 [] Value.none Value.none Value.none (Value.str (Str.ofString "law_kl0050_01") 2358) (Option.none) (Value.ref 222) Value.none 0)), #[]⟩
noncomputable def o_28_224 (P : Params) : Obj := (Obj.mk (Value.type "tuple") (Option.none) (Data.seq #[] 0) #[])
noncomputable def o_28_225 (P : Params) : Obj := (Obj.mk Value.none (Option.none) (Data.fields #[]) #[])
noncomputable def o_28_226 (P : Params) : Obj := (Obj.mk (Value.type "tuple") (Option.none) (Data.seq #[(Value.str (Str.ofString "path") 2428), (Value.str (Str.ofString "rows") 2429), (Value.str (Str.ofString "level") 2430), (Value.str (Str.ofString "step") 2431)] 0) #[])
noncomputable def o_28_227 (P : Params) : Obj := (Obj.mk (Value.type "tuple") (Option.none) (Data.seq #[] 0) #[])
noncomputable def o_28_228 (P : Params) : Obj := ⟨Value.none, (Option.none), (.func (FuncData.mk (Str.ofString "_law_rows") (Str.ofString "_law_rows") (fargs (stm 24)) (fbody (stm 24)) (fscope (stm 24)) 0 [] Value.none Value.none Value.none Value.none (Option.none) Value.none Value.none 0)), #[]⟩
noncomputable def o_28_229 (P : Params) : Obj := (Obj.mk (Value.type "code") (Option.none) (Data.fields #[(Value.str (Str.ofString "_law_rows") 2425), (Value.str (Str.ofString "_law_rows") 2426), (Value.str (Str.ofString "/claim/cut.py") 2427), (Value.int 172 0), (Value.int 1 0), (Value.int 0 0), (Value.int 0 0), (Value.int 3 0), (Value.ref 224), (Value.bool Bool.true), (Value.int 181 0), (Value.ref 225), Value.none, (Value.ref 226), (Value.ref 227), (Value.ref 228), (Value.int 2432 0), (Value.int 172 0), (Value.str (Str.ofString "/claim/cut.py") 2433)]) #[])
noncomputable def o_28_230 (P : Params) : Obj := ⟨(Value.type "function"), (Option.none), (.func (FuncData.mk (Str.ofString "_law_rows") (Str.ofString "_law_rows") (fargs (stm 24)) (fbody (stm 24)) (fscope (stm 24)) 3 [] Value.none Value.none Value.none (Value.str (Str.ofString "law_kl0050_01") 2358) (Option.none) (Value.ref 229) Value.none 0)), #[]⟩
noncomputable def o_28_231 (P : Params) : Obj := (Obj.mk (Value.type "tuple") (Option.none) (Data.seq #[] 0) #[])
noncomputable def o_28_232 (P : Params) : Obj := (Obj.mk Value.none (Option.none) (Data.fields #[]) #[])
noncomputable def o_28_233 (P : Params) : Obj := ⟨Value.none, (Option.none), (.func (FuncData.mk (Str.ofString "_law_line") (Str.ofString "_law_line") (fargs (stm 25)) (fbody (stm 25)) (fscope (stm 25)) 0 [] Value.none Value.none Value.none Value.none (Option.none) Value.none Value.none 0)), #[]⟩
noncomputable def o_28_234 (P : Params) : Obj := (Obj.mk (Value.type "code") (Option.none) (Data.fields #[(Value.str (Str.ofString "_law_line") 2435), (Value.str (Str.ofString "_law_line") 2436), (Value.str (Str.ofString "/claim/cut.py") 2437), (Value.int 179 0), (Value.int 1 0), (Value.int 0 0), (Value.int 0 0), (Value.int 3 0), (Value.ref 231), (Value.bool Bool.true), (Value.int 181 0), (Value.ref 232), Value.none, Value.none, Value.none, (Value.ref 233), (Value.int 2438 0), (Value.int 179 0), (Value.str (Str.ofString "/claim/cut.py") 2439)]) #[])
noncomputable def o_28_235 (P : Params) : Obj := ⟨(Value.type "function"), (Option.none), (.func (FuncData.mk (Str.ofString "_law_line") (Str.ofString "_law_line") (fargs (stm 25)) (fbody (stm 25)) (fscope (stm 25)) 3 [] Value.none Value.none Value.none (Value.str (Str.ofString "law_kl0050_01") 2358) (Option.none) (Value.ref 234) Value.none 0)), #[]⟩
noncomputable def o_28_236 (P : Params) : Obj := (Obj.mk (Value.type "tuple") (Option.none) (Data.seq #[] 0) #[])
noncomputable def o_28_237 (P : Params) : Obj := (Obj.mk Value.none (Option.none) (Data.fields #[]) #[])
noncomputable def o_28_238 (P : Params) : Obj := (Obj.mk (Value.type "tuple") (Option.none) (Data.seq #[(Value.str (Str.ofString "front") 2444), (Value.str (Str.ofString "rise") 2445)] 0) #[])
noncomputable def o_28_239 (P : Params) : Obj := (Obj.mk (Value.type "tuple") (Option.none) (Data.seq #[] 0) #[])
noncomputable def o_28_240 (P : Params) : Obj := ⟨Value.none, (Option.none), (.func (FuncData.mk (Str.ofString "_law_rise") (Str.ofString "_law_rise") (fargs (stm 26)) (fbody (stm 26)) (fscope (stm 26)) 0 [] Value.none Value.none Value.none Value.none (Option.none) Value.none Value.none 0)), #[]⟩
noncomputable def o_28_241 (P : Params) : Obj := (Obj.mk (Value.type "code") (Option.none) (Data.fields #[(Value.str (Str.ofString "_law_rise") 2441), (Value.str (Str.ofString "_law_rise") 2442), (Value.str (Str.ofString "/claim/cut.py") 2443), (Value.int 196 0), (Value.int 1 0), (Value.int 0 0), (Value.int 0 0), (Value.int 3 0), (Value.ref 236), (Value.bool Bool.true), (Value.int 181 0), (Value.ref 237), Value.none, (Value.ref 238), (Value.ref 239), (Value.ref 240), (Value.int 2446 0), (Value.int 196 0), (Value.str (Str.ofString "/claim/cut.py") 2447)]) #[])
noncomputable def o_28_242 (P : Params) : Obj := ⟨(Value.type "function"), (Option.none), (.func (FuncData.mk (Str.ofString "_law_rise") (Str.ofString "_law_rise") (fargs (stm 26)) (fbody (stm 26)) (fscope (stm 26)) 3 [] Value.none Value.none Value.none (Value.str (Str.ofString "law_kl0050_01") 2358) (Option.none) (Value.ref 241) Value.none 0)), #[]⟩
noncomputable def o_28_243 (P : Params) : Obj := (Obj.mk (Value.type "tuple") (Option.none) (Data.seq #[] 0) #[])
noncomputable def o_28_244 (P : Params) : Obj := (Obj.mk Value.none (Option.none) (Data.fields #[]) #[])
noncomputable def o_28_245 (P : Params) : Obj := (Obj.mk (Value.type "tuple") (Option.none) (Data.seq #[(Value.str (Str.ofString "brackets") 2452), (Value.str (Str.ofString "pieces") 2453), (Value.str (Str.ofString "rises") 2454), (Value.str (Str.ofString "turn") 2455), (Value.str (Str.ofString "fallen") 2456)] 0) #[])
noncomputable def o_28_246 (P : Params) : Obj := (Obj.mk (Value.type "tuple") (Option.none) (Data.seq #[] 0) #[])
noncomputable def o_28_247 (P : Params) : Obj := ⟨Value.none, (Option.none), (.func (FuncData.mk (Str.ofString "_law_rises") (Str.ofString "_law_rises") (fargs (stm 27)) (fbody (stm 27)) (fscope (stm 27)) 0 [] Value.none Value.none Value.none Value.none (Option.none) Value.none Value.none 0)), #[]⟩
noncomputable def o_28_248 (P : Params) : Obj := (Obj.mk (Value.type "code") (Option.none) (Data.fields #[(Value.str (Str.ofString "_law_rises") 2449), (Value.str (Str.ofString "_law_rises") 2450), (Value.str (Str.ofString "/claim/cut.py") 2451), (Value.int 201 0), (Value.int 1 0), (Value.int 0 0), (Value.int 0 0), (Value.int 3 0), (Value.ref 243), (Value.bool Bool.true), (Value.int 181 0), (Value.ref 244), Value.none, (Value.ref 245), (Value.ref 246), (Value.ref 247), (Value.int 2457 0), (Value.int 201 0), (Value.str (Str.ofString "/claim/cut.py") 2458)]) #[])
noncomputable def o_28_249 (P : Params) : Obj := ⟨(Value.type "function"), (Option.none), (.func (FuncData.mk (Str.ofString "_law_rises") (Str.ofString "_law_rises") (fargs (stm 27)) (fbody (stm 27)) (fscope (stm 27)) 3 [] Value.none Value.none Value.none (Value.str (Str.ofString "law_kl0050_01") 2358) (Option.none) (Value.ref 248) Value.none 0)), #[]⟩
noncomputable def o_28_250 (P : Params) : Obj := (Obj.mk (Value.type "tuple") (Option.none) (Data.seq #[] 0) #[])
noncomputable def o_28_251 (P : Params) : Obj := (Obj.mk Value.none (Option.none) (Data.fields #[]) #[])
noncomputable def o_28_252 (P : Params) : Obj := (Obj.mk (Value.type "tuple") (Option.none) (Data.seq #[(Value.str (Str.ofString "row") 2463), (Value.str (Str.ofString "ahead") 2464), (Value.str (Str.ofString "pairs") 2465), (Value.str (Str.ofString "step") 2466)] 0) #[])
noncomputable def o_28_253 (P : Params) : Obj := (Obj.mk (Value.type "tuple") (Option.none) (Data.seq #[] 0) #[])
noncomputable def o_28_254 (P : Params) : Obj := ⟨Value.none, (Option.none), (.func (FuncData.mk (Str.ofString "_law_pairs") (Str.ofString "_law_pairs") (fargs (stm 28)) (fbody (stm 28)) (fscope (stm 28)) 0 [] Value.none Value.none Value.none Value.none (Option.none) Value.none Value.none 0)), #[]⟩
noncomputable def o_28_255 (P : Params) : Obj := (Obj.mk (Value.type "code") (Option.none) (Data.fields #[(Value.str (Str.ofString "_law_pairs") 2460), (Value.str (Str.ofString "_law_pairs") 2461), (Value.str (Str.ofString "/claim/cut.py") 2462), (Value.int 209 0), (Value.int 1 0), (Value.int 0 0), (Value.int 0 0), (Value.int 3 0), (Value.ref 250), (Value.bool Bool.true), (Value.int 181 0), (Value.ref 251), Value.none, (Value.ref 252), (Value.ref 253), (Value.ref 254), (Value.int 2467 0), (Value.int 209 0), (Value.str (Str.ofString "/claim/cut.py") 2468)]) #[])
noncomputable def o_28_256 (P : Params) : Obj := ⟨(Value.type "function"), (Option.none), (.func (FuncData.mk (Str.ofString "_law_pairs") (Str.ofString "_law_pairs") (fargs (stm 28)) (fbody (stm 28)) (fscope (stm 28)) 3 [] Value.none Value.none Value.none (Value.str (Str.ofString "law_kl0050_01") 2358) (Option.none) (Value.ref 255) Value.none 0)), #[]⟩
noncomputable def T_28 (P : Params) : BT := (.node (boot_o_0 P) (.node (boot_o_1 P) (.node (o_28_3 P) (.node (boot_o_7 P) (.node (o_2_15 P) (.node (o_2_31 P) (.node (o_9_63 P) (.node (o_13_127 P) (.node (o_28_255 P) .nil .nil) .nil) (.node (o_28_191 P) .nil .nil)) (.node (o_9_95 P) (.node (b3o 159 P) .nil .nil) (.node (o_28_223 P) .nil .nil))) (.node (o_2_47 P) (.node (o_9_79 P) (.node (b3o 143 P) .nil .nil) (.node (o_28_207 P) .nil .nil)) (.node (o_11_111 P) (.node (o_28_175 P) .nil .nil) (.node (o_28_239 P) .nil .nil)))) (.node (o_2_23 P) (.node (o_2_39 P) (.node (o_9_71 P) (.node (b3o 135 P) .nil .nil) (.node (o_28_199 P) .nil .nil)) (.node (o_9_103 P) (.node (b3o 167 P) .nil .nil) (.node (o_28_231 P) .nil .nil))) (.node (o_2_55 P) (.node (o_9_87 P) (.node (b3o 151 P) .nil .nil) (.node (o_28_215 P) .nil .nil)) (.node (o_12_119 P) (.node (o_28_183 P) .nil .nil) (.node (o_28_247 P) .nil .nil))))) (.node (o_a_11 P) (.node (o_2_19 P) (.node (o_2_35 P) (.node (o_9_67 P) (.node (o_13_131 P) .nil .nil) (.node (o_28_195 P) .nil .nil)) (.node (o_9_99 P) (.node (b3o 163 P) .nil .nil) (.node (o_28_227 P) .nil .nil))) (.node (o_2_51 P) (.node (o_9_83 P) (.node (b3o 147 P) .nil .nil) (.node (o_28_211 P) .nil .nil)) (.node (o_12_115 P) (.node (o_28_179 P) .nil .nil) (.node (o_28_243 P) .nil .nil)))) (.node (o_2_27 P) (.node (o_2_43 P) (.node (o_9_75 P) (.node (b3o 139 P) .nil .nil) (.node (o_28_203 P) .nil .nil)) (.node (o_9_107 P) (.node (b3o 171 P) .nil .nil) (.node (o_28_235 P) .nil .nil))) (.node (o_9_59 P) (.node (o_9_91 P) (.node (b3o 155 P) .nil .nil) (.node (o_28_219 P) .nil .nil)) (.node (o_12_123 P) (.node (o_28_187 P) .nil .nil) (.node (o_28_251 P) .nil .nil)))))) (.node (boot_o_5 P) (.node (boot_o_9 P) (.node (o_2_17 P) (.node (o_2_33 P) (.node (o_9_65 P) (.node (o_13_129 P) .nil .nil) (.node (o_28_193 P) .nil .nil)) (.node (o_9_97 P) (.node (b3o 161 P) .nil .nil) (.node (o_28_225 P) .nil .nil))) (.node (o_2_49 P) (.node (o_9_81 P) (.node (b3o 145 P) .nil .nil) (.node (o_28_209 P) .nil .nil)) (.node (o_11_113 P) (.node (o_28_177 P) .nil .nil) (.node (o_28_241 P) .nil .nil)))) (.node (o_2_25 P) (.node (o_2_41 P) (.node (o_9_73 P) (.node (b3o 137 P) .nil .nil) (.node (o_28_201 P) .nil .nil)) (.node (o_9_105 P) (.node (b3o 169 P) .nil .nil) (.node (o_28_233 P) .nil .nil))) (.node (o_9_57 P) (.node (o_9_89 P) (.node (b3o 153 P) .nil .nil) (.node (o_28_217 P) .nil .nil)) (.node (o_12_121 P) (.node (o_28_185 P) .nil .nil) (.node (o_28_249 P) .nil .nil))))) (.node (o_a_13 P) (.node (o_2_21 P) (.node (o_2_37 P) (.node (o_9_69 P) (.node (b3o 133 P) .nil .nil) (.node (o_28_197 P) .nil .nil)) (.node (o_9_101 P) (.node (b3o 165 P) .nil .nil) (.node (o_28_229 P) .nil .nil))) (.node (o_2_53 P) (.node (o_9_85 P) (.node (b3o 149 P) .nil .nil) (.node (o_28_213 P) .nil .nil)) (.node (o_12_117 P) (.node (o_28_181 P) .nil .nil) (.node (o_28_245 P) .nil .nil)))) (.node (o_2_29 P) (.node (o_2_45 P) (.node (o_9_77 P) (.node (b3o 141 P) .nil .nil) (.node (o_28_205 P) .nil .nil)) (.node (o_11_109 P) (.node (o_28_173 P) .nil .nil) (.node (o_28_237 P) .nil .nil))) (.node (o_9_61 P) (.node (o_9_93 P) (.node (b3o 157 P) .nil .nil) (.node (o_28_221 P) .nil .nil)) (.node (o_12_125 P) (.node (o_28_189 P) .nil .nil) (.node (o_28_253 P) .nil .nil))))))) (.node (boot_o_2 P) (.node (boot_o_4 P) (.node (boot_o_8 P) (.node (o_2_16 P) (.node (o_2_32 P) (.node (o_9_64 P) (.node (o_13_128 P) (.node (o_28_256 P) .nil .nil) .nil) (.node (o_28_192 P) .nil .nil)) (.node (o_9_96 P) (.node (b3o 160 P) .nil .nil) (.node (o_28_224 P) .nil .nil))) (.node (o_2_48 P) (.node (o_9_80 P) (.node (b3o 144 P) .nil .nil) (.node (o_28_208 P) .nil .nil)) (.node (o_11_112 P) (.node (o_28_176 P) .nil .nil) (.node (o_28_240 P) .nil .nil)))) (.node (o_2_24 P) (.node (o_2_40 P) (.node (o_9_72 P) (.node (b3o 136 P) .nil .nil) (.node (o_28_200 P) .nil .nil)) (.node (o_9_104 P) (.node (b3o 168 P) .nil .nil) (.node (o_28_232 P) .nil .nil))) (.node (o_2_56 P) (.node (o_9_88 P) (.node (b3o 152 P) .nil .nil) (.node (o_28_216 P) .nil .nil)) (.node (o_12_120 P) (.node (o_28_184 P) .nil .nil) (.node (o_28_248 P) .nil .nil))))) (.node (o_28_12 P) (.node (o_2_20 P) (.node (o_2_36 P) (.node (o_9_68 P) (.node (o_13_132 P) .nil .nil) (.node (o_28_196 P) .nil .nil)) (.node (o_9_100 P) (.node (b3o 164 P) .nil .nil) (.node (o_28_228 P) .nil .nil))) (.node (o_2_52 P) (.node (o_9_84 P) (.node (b3o 148 P) .nil .nil) (.node (o_28_212 P) .nil .nil)) (.node (o_12_116 P) (.node (o_28_180 P) .nil .nil) (.node (o_28_244 P) .nil .nil)))) (.node (o_2_28 P) (.node (o_2_44 P) (.node (o_9_76 P) (.node (b3o 140 P) .nil .nil) (.node (o_28_204 P) .nil .nil)) (.node (o_11_108 P) (.node (o_28_172 P) .nil .nil) (.node (o_28_236 P) .nil .nil))) (.node (o_9_60 P) (.node (o_9_92 P) (.node (b3o 156 P) .nil .nil) (.node (o_28_220 P) .nil .nil)) (.node (o_12_124 P) (.node (o_28_188 P) .nil .nil) (.node (o_28_252 P) .nil .nil)))))) (.node (boot_o_6 P) (.node (boot_o_10 P) (.node (o_2_18 P) (.node (o_2_34 P) (.node (o_9_66 P) (.node (o_13_130 P) .nil .nil) (.node (o_28_194 P) .nil .nil)) (.node (o_9_98 P) (.node (b3o 162 P) .nil .nil) (.node (o_28_226 P) .nil .nil))) (.node (o_2_50 P) (.node (o_9_82 P) (.node (b3o 146 P) .nil .nil) (.node (o_28_210 P) .nil .nil)) (.node (o_11_114 P) (.node (o_28_178 P) .nil .nil) (.node (o_28_242 P) .nil .nil)))) (.node (o_2_26 P) (.node (o_2_42 P) (.node (o_9_74 P) (.node (b3o 138 P) .nil .nil) (.node (o_28_202 P) .nil .nil)) (.node (o_9_106 P) (.node (b3o 170 P) .nil .nil) (.node (o_28_234 P) .nil .nil))) (.node (o_9_58 P) (.node (o_9_90 P) (.node (b3o 154 P) .nil .nil) (.node (o_28_218 P) .nil .nil)) (.node (o_12_122 P) (.node (o_28_186 P) .nil .nil) (.node (o_28_250 P) .nil .nil))))) (.node (o_a_14 P) (.node (o_2_22 P) (.node (o_2_38 P) (.node (o_9_70 P) (.node (b3o 134 P) .nil .nil) (.node (o_28_198 P) .nil .nil)) (.node (o_9_102 P) (.node (b3o 166 P) .nil .nil) (.node (o_28_230 P) .nil .nil))) (.node (o_2_54 P) (.node (o_9_86 P) (.node (b3o 150 P) .nil .nil) (.node (o_28_214 P) .nil .nil)) (.node (o_12_118 P) (.node (o_28_182 P) .nil .nil) (.node (o_28_246 P) .nil .nil)))) (.node (o_2_30 P) (.node (o_2_46 P) (.node (o_9_78 P) (.node (b3o 142 P) .nil .nil) (.node (o_28_206 P) .nil .nil)) (.node (o_11_110 P) (.node (o_28_174 P) .nil .nil) (.node (o_28_238 P) .nil .nil))) (.node (o_9_62 P) (.node (o_9_94 P) (.node (b3o 158 P) .nil .nil) (.node (o_28_222 P) .nil .nil)) (.node (o_13_126 P) (.node (o_28_190 P) .nil .nil) (.node (o_28_254 P) .nil .nil))))))))
noncomputable def S_28 (w : World) (os : OsState) : SharedT := ⟨T_28 w.params, 257, (Life.mk [] [] [] 0 [] [] Bool.false #[] [] 0 Bool.false Bool.false Bool.false 0 [2000, 10, 10] Bool.false 0 Bool.true [] [] 0 Bool.false), #[], (Drawn.mk 0 0 0 0), 2470, os⟩ -- pos ⟨209, 0, 217, 16⟩ steps 32
noncomputable def o_30_3 (P : Params) : Obj := (Obj.mk (Value.type "dict") (Option.none) (Data.dict #[(DictEntry.mk (PyData.keyHash P (Str.ofString "__name__")) (Value.str (Str.ofString "__name__") 165) (Value.str (Str.ofString "law_kl0050_01") 2358)), (DictEntry.mk (PyData.keyHash P (Str.ofString "__doc__")) (Value.str (Str.ofString "__doc__") 166) Value.none), (DictEntry.mk (PyData.keyHash P (Str.ofString "__package__")) (Value.str (Str.ofString "__package__") 167) Value.none), (DictEntry.mk (PyData.keyHash P (Str.ofString "__loader__")) (Value.str (Str.ofString "__loader__") 168) (Value.builtin "__main__.__loader__#opaque")), (DictEntry.mk (PyData.keyHash P (Str.ofString "__spec__")) (Value.str (Str.ofString "__spec__") 169) Value.none), (DictEntry.mk (PyData.keyHash P (Str.ofString "__annotations__")) (Value.str (Str.ofString "__annotations__") 170) (Value.ref 6)), (DictEntry.mk (PyData.keyHash P (Str.ofString "__builtins__")) (Value.str (Str.ofString "__builtins__") 171) (Value.ref 4)), (DictEntry.mk (PyData.keyHash P (Str.ofString "__file__")) (Value.str (Str.ofString "__file__") 173) (Value.str (Str.ofString "/claim/cut.py") 172)), (DictEntry.mk (PyData.keyHash P (Str.ofString "__cached__")) (Value.str (Str.ofString "__cached__") 174) Value.none), (DictEntry.mk (PyData.keyHash P (Str.ofString "_netrclex")) (Value.str (Str.ofString "_netrclex") 246) (Value.ref 52)), (DictEntry.mk (PyData.keyHash P (Str.ofString "_Unknown")) (Value.str (Str.ofString "_Unknown") 275) (Value.ref 73)), (DictEntry.mk (PyData.keyHash P (Str.ofString "UNKNOWN")) (Value.str (Str.ofString "UNKNOWN") 276) (Value.ref 79)), (DictEntry.mk (PyData.keyHash P (Str.ofString "_get_name_info")) (Value.str (Str.ofString "_get_name_info") 286) (Value.ref 86)), (DictEntry.mk (PyData.keyHash P (Str.ofString "_parse_varint")) (Value.str (Str.ofString "_parse_varint") 295) (Value.ref 93)), (DictEntry.mk (PyData.keyHash P (Str.ofString "_iter_escaped_chars")) (Value.str (Str.ofString "_iter_escaped_chars") 307) (Value.ref 100)), (DictEntry.mk (PyData.keyHash P (Str.ofString "_strip_quoted_realnames")) (Value.str (Str.ofString "_strip_quoted_realnames") 319) (Value.ref 107)), (DictEntry.mk (PyData.keyHash P (Str.ofString "_check_parenthesis")) (Value.str (Str.ofString "_check_parenthesis") 329) (Value.ref 114)), (DictEntry.mk (PyData.keyHash P (Str.ofString "b1_set")) (Value.str (Str.ofString "b1_set") 391) (Value.ref 122)), (DictEntry.mk (PyData.keyHash P (Str.ofString "in_table_b1")) (Value.str (Str.ofString "in_table_b1") 398) (Value.ref 132)), (DictEntry.mk (PyData.keyHash P (Str.ofString "b3_exceptions")) (Value.str (Str.ofString "b3_exceptions") 2349) (Value.ref 133)), (DictEntry.mk (PyData.keyHash P (Str.ofString "map_table_b3")) (Value.str (Str.ofString "map_table_b3") 2357) (Value.ref 178)), (DictEntry.mk (PyData.keyHash P (Str.ofString "_law_spelled")) (Value.str (Str.ofString "_law_spelled") 2372) (Value.ref 185)), (DictEntry.mk (PyData.keyHash P (Str.ofString "_law_octets")) (Value.str (Str.ofString "_law_octets") 2384) (Value.ref 192)), (DictEntry.mk (PyData.keyHash P (Str.ofString "_law_read")) (Value.str (Str.ofString "_law_read") 2393) (Value.ref 199)), (DictEntry.mk (PyData.keyHash P (Str.ofString "_law_prepared")) (Value.str (Str.ofString "_law_prepared") 2399) (Value.ref 204)), (DictEntry.mk (PyData.keyHash P (Str.ofString "_law_lexer")) (Value.str (Str.ofString "_law_lexer") 2408) (Value.ref 211)), (DictEntry.mk (PyData.keyHash P (Str.ofString "_law_numbers")) (Value.str (Str.ofString "_law_numbers") 2414) (Value.ref 216)), (DictEntry.mk (PyData.keyHash P (Str.ofString "_law_path")) (Value.str (Str.ofString "_law_path") 2424) (Value.ref 223)), (DictEntry.mk (PyData.keyHash P (Str.ofString "_law_rows")) (Value.str (Str.ofString "_law_rows") 2434) (Value.ref 230)), (DictEntry.mk (PyData.keyHash P (Str.ofString "_law_line")) (Value.str (Str.ofString "_law_line") 2440) (Value.ref 235)), (DictEntry.mk (PyData.keyHash P (Str.ofString "_law_rise")) (Value.str (Str.ofString "_law_rise") 2448) (Value.ref 242)), (DictEntry.mk (PyData.keyHash P (Str.ofString "_law_rises")) (Value.str (Str.ofString "_law_rises") 2459) (Value.ref 249)), (DictEntry.mk (PyData.keyHash P (Str.ofString "_law_pairs")) (Value.str (Str.ofString "_law_pairs") 2469) (Value.ref 256)), (DictEntry.mk (PyData.keyHash P (Str.ofString "_law_walk")) (Value.str (Str.ofString "_law_walk") 2475) (Value.ref 261)), (DictEntry.mk (PyData.keyHash P (Str.ofString "law")) (Value.str (Str.ofString "law") 2481) (Value.ref 266))] 35) #[])
noncomputable def o_30_12 (P : Params) : Obj := (Obj.mk Value.none (Option.none) (Data.fields #[(Value.int 2 0), (Value.int 0 0), (Value.ref 20), (Value.int 46 0), (Value.int 0 0), (Value.ref 62), (Value.int 51 0), (Value.int 0 0), (Value.ref 85), (Value.int 57 0), (Value.int 0 0), (Value.ref 92), (Value.int 66 0), (Value.int 0 0), (Value.ref 99), (Value.int 79 0), (Value.int 0 0), (Value.ref 106), (Value.int 97 0), (Value.int 0 0), (Value.ref 113), (Value.int 110 0), (Value.int 0 0), (Value.ref 131), (Value.int 113 0), (Value.int 0 0), (Value.ref 177), (Value.int 119 0), (Value.int 0 0), (Value.ref 184), (Value.int 135 0), (Value.int 0 0), (Value.ref 191), (Value.int 145 0), (Value.int 0 0), (Value.ref 198), (Value.int 153 0), (Value.int 0 0), (Value.ref 203), (Value.int 155 0), (Value.int 0 0), (Value.ref 210), (Value.int 160 0), (Value.int 0 0), (Value.ref 215), (Value.int 165 0), (Value.int 0 0), (Value.ref 222), (Value.int 172 0), (Value.int 0 0), (Value.ref 229), (Value.int 179 0), (Value.int 0 0), (Value.ref 234), (Value.int 196 0), (Value.int 0 0), (Value.ref 241), (Value.int 201 0), (Value.int 0 0), (Value.ref 248), (Value.int 209 0), (Value.int 0 0), (Value.ref 255), (Value.int 218 0), (Value.int 0 0), (Value.ref 260), (Value.int 234 0), (Value.int 0 0), (Value.ref 265)]) #[])
noncomputable def o_30_257 (P : Params) : Obj := (Obj.mk (Value.type "tuple") (Option.none) (Data.seq #[] 0) #[])
noncomputable def o_30_258 (P : Params) : Obj := (Obj.mk Value.none (Option.none) (Data.fields #[]) #[])
noncomputable def o_30_259 (P : Params) : Obj := ⟨Value.none, (Option.none), (.func (FuncData.mk (Str.ofString "_law_walk") (Str.ofString "_law_walk") (fargs (stm 29)) (fbody (stm 29)) (fscope (stm 29)) 0 [] Value.none Value.none Value.none Value.none (Option.none) Value.none Value.none 0)), #[]⟩
noncomputable def o_30_260 (P : Params) : Obj := (Obj.mk (Value.type "code") (Option.none) (Data.fields #[(Value.str (Str.ofString "_law_walk") 2470), (Value.str (Str.ofString "_law_walk") 2471), (Value.str (Str.ofString "/claim/cut.py") 2472), (Value.int 218 0), (Value.int 2 0), (Value.int 0 0), (Value.int 0 0), (Value.int 3 0), (Value.ref 257), (Value.bool Bool.true), (Value.int 181 0), (Value.ref 258), Value.none, Value.none, Value.none, (Value.ref 259), (Value.int 2473 0), (Value.int 218 0), (Value.str (Str.ofString "/claim/cut.py") 2474)]) #[])
noncomputable def o_30_261 (P : Params) : Obj := ⟨(Value.type "function"), (Option.none), (.func (FuncData.mk (Str.ofString "_law_walk") (Str.ofString "_law_walk") (fargs (stm 29)) (fbody (stm 29)) (fscope (stm 29)) 3 [] Value.none Value.none Value.none (Value.str (Str.ofString "law_kl0050_01") 2358) (Option.none) (Value.ref 260) Value.none 0)), #[]⟩
noncomputable def o_30_262 (P : Params) : Obj := (Obj.mk (Value.type "tuple") (Option.none) (Data.seq #[] 0) #[])
noncomputable def o_30_263 (P : Params) : Obj := (Obj.mk Value.none (Option.none) (Data.fields #[]) #[])
noncomputable def o_30_264 (P : Params) : Obj := ⟨Value.none, (Option.none), (.func (FuncData.mk (Str.ofString "law") (Str.ofString "law") (fargs (stm 30)) (fbody (stm 30)) (fscope (stm 30)) 0 [] Value.none Value.none Value.none Value.none (Option.none) Value.none Value.none 0)), #[]⟩
noncomputable def o_30_265 (P : Params) : Obj := (Obj.mk (Value.type "code") (Option.none) (Data.fields #[(Value.str (Str.ofString "law") 2476), (Value.str (Str.ofString "law") 2477), (Value.str (Str.ofString "/claim/cut.py") 2478), (Value.int 234 0), (Value.int 1 0), (Value.int 0 0), (Value.int 0 0), (Value.int 3 0), (Value.ref 262), (Value.bool Bool.true), (Value.int 181 0), (Value.ref 263), Value.none, Value.none, Value.none, (Value.ref 264), (Value.int 2479 0), (Value.int 234 0), (Value.str (Str.ofString "/claim/cut.py") 2480)]) #[])
noncomputable def o_30_266 (P : Params) : Obj := ⟨(Value.type "function"), (Option.none), (.func (FuncData.mk (Str.ofString "law") (Str.ofString "law") (fargs (stm 30)) (fbody (stm 30)) (fscope (stm 30)) 3 [] Value.none Value.none Value.none (Value.str (Str.ofString "law_kl0050_01") 2358) (Option.none) (Value.ref 265) Value.none 0)), #[]⟩
noncomputable def T_30 (P : Params) : BT := (.node (boot_o_0 P) (.node (boot_o_1 P) (.node (o_30_3 P) (.node (boot_o_7 P) (.node (o_2_15 P) (.node (o_2_31 P) (.node (o_9_63 P) (.node (o_13_127 P) (.node (o_28_255 P) .nil .nil) .nil) (.node (o_28_191 P) .nil .nil)) (.node (o_9_95 P) (.node (b3o 159 P) .nil .nil) (.node (o_28_223 P) .nil .nil))) (.node (o_2_47 P) (.node (o_9_79 P) (.node (b3o 143 P) .nil .nil) (.node (o_28_207 P) .nil .nil)) (.node (o_11_111 P) (.node (o_28_175 P) .nil .nil) (.node (o_28_239 P) .nil .nil)))) (.node (o_2_23 P) (.node (o_2_39 P) (.node (o_9_71 P) (.node (b3o 135 P) (.node (o_30_263 P) .nil .nil) .nil) (.node (o_28_199 P) .nil .nil)) (.node (o_9_103 P) (.node (b3o 167 P) .nil .nil) (.node (o_28_231 P) .nil .nil))) (.node (o_2_55 P) (.node (o_9_87 P) (.node (b3o 151 P) .nil .nil) (.node (o_28_215 P) .nil .nil)) (.node (o_12_119 P) (.node (o_28_183 P) .nil .nil) (.node (o_28_247 P) .nil .nil))))) (.node (o_a_11 P) (.node (o_2_19 P) (.node (o_2_35 P) (.node (o_9_67 P) (.node (o_13_131 P) (.node (o_30_259 P) .nil .nil) .nil) (.node (o_28_195 P) .nil .nil)) (.node (o_9_99 P) (.node (b3o 163 P) .nil .nil) (.node (o_28_227 P) .nil .nil))) (.node (o_2_51 P) (.node (o_9_83 P) (.node (b3o 147 P) .nil .nil) (.node (o_28_211 P) .nil .nil)) (.node (o_12_115 P) (.node (o_28_179 P) .nil .nil) (.node (o_28_243 P) .nil .nil)))) (.node (o_2_27 P) (.node (o_2_43 P) (.node (o_9_75 P) (.node (b3o 139 P) .nil .nil) (.node (o_28_203 P) .nil .nil)) (.node (o_9_107 P) (.node (b3o 171 P) .nil .nil) (.node (o_28_235 P) .nil .nil))) (.node (o_9_59 P) (.node (o_9_91 P) (.node (b3o 155 P) .nil .nil) (.node (o_28_219 P) .nil .nil)) (.node (o_12_123 P) (.node (o_28_187 P) .nil .nil) (.node (o_28_251 P) .nil .nil)))))) (.node (boot_o_5 P) (.node (boot_o_9 P) (.node (o_2_17 P) (.node (o_2_33 P) (.node (o_9_65 P) (.node (o_13_129 P) (.node (o_30_257 P) .nil .nil) .nil) (.node (o_28_193 P) .nil .nil)) (.node (o_9_97 P) (.node (b3o 161 P) .nil .nil) (.node (o_28_225 P) .nil .nil))) (.node (o_2_49 P) (.node (o_9_81 P) (.node (b3o 145 P) .nil .nil) (.node (o_28_209 P) .nil .nil)) (.node (o_11_113 P) (.node (o_28_177 P) .nil .nil) (.node (o_28_241 P) .nil .nil)))) (.node (o_2_25 P) (.node (o_2_41 P) (.node (o_9_73 P) (.node (b3o 137 P) (.node (o_30_265 P) .nil .nil) .nil) (.node (o_28_201 P) .nil .nil)) (.node (o_9_105 P) (.node (b3o 169 P) .nil .nil) (.node (o_28_233 P) .nil .nil))) (.node (o_9_57 P) (.node (o_9_89 P) (.node (b3o 153 P) .nil .nil) (.node (o_28_217 P) .nil .nil)) (.node (o_12_121 P) (.node (o_28_185 P) .nil .nil) (.node (o_28_249 P) .nil .nil))))) (.node (o_a_13 P) (.node (o_2_21 P) (.node (o_2_37 P) (.node (o_9_69 P) (.node (b3o 133 P) (.node (o_30_261 P) .nil .nil) .nil) (.node (o_28_197 P) .nil .nil)) (.node (o_9_101 P) (.node (b3o 165 P) .nil .nil) (.node (o_28_229 P) .nil .nil))) (.node (o_2_53 P) (.node (o_9_85 P) (.node (b3o 149 P) .nil .nil) (.node (o_28_213 P) .nil .nil)) (.node (o_12_117 P) (.node (o_28_181 P) .nil .nil) (.node (o_28_245 P) .nil .nil)))) (.node (o_2_29 P) (.node (o_2_45 P) (.node (o_9_77 P) (.node (b3o 141 P) .nil .nil) (.node (o_28_205 P) .nil .nil)) (.node (o_11_109 P) (.node (o_28_173 P) .nil .nil) (.node (o_28_237 P) .nil .nil))) (.node (o_9_61 P) (.node (o_9_93 P) (.node (b3o 157 P) .nil .nil) (.node (o_28_221 P) .nil .nil)) (.node (o_12_125 P) (.node (o_28_189 P) .nil .nil) (.node (o_28_253 P) .nil .nil))))))) (.node (boot_o_2 P) (.node (boot_o_4 P) (.node (boot_o_8 P) (.node (o_2_16 P) (.node (o_2_32 P) (.node (o_9_64 P) (.node (o_13_128 P) (.node (o_28_256 P) .nil .nil) .nil) (.node (o_28_192 P) .nil .nil)) (.node (o_9_96 P) (.node (b3o 160 P) .nil .nil) (.node (o_28_224 P) .nil .nil))) (.node (o_2_48 P) (.node (o_9_80 P) (.node (b3o 144 P) .nil .nil) (.node (o_28_208 P) .nil .nil)) (.node (o_11_112 P) (.node (o_28_176 P) .nil .nil) (.node (o_28_240 P) .nil .nil)))) (.node (o_2_24 P) (.node (o_2_40 P) (.node (o_9_72 P) (.node (b3o 136 P) (.node (o_30_264 P) .nil .nil) .nil) (.node (o_28_200 P) .nil .nil)) (.node (o_9_104 P) (.node (b3o 168 P) .nil .nil) (.node (o_28_232 P) .nil .nil))) (.node (o_2_56 P) (.node (o_9_88 P) (.node (b3o 152 P) .nil .nil) (.node (o_28_216 P) .nil .nil)) (.node (o_12_120 P) (.node (o_28_184 P) .nil .nil) (.node (o_28_248 P) .nil .nil))))) (.node (o_30_12 P) (.node (o_2_20 P) (.node (o_2_36 P) (.node (o_9_68 P) (.node (o_13_132 P) (.node (o_30_260 P) .nil .nil) .nil) (.node (o_28_196 P) .nil .nil)) (.node (o_9_100 P) (.node (b3o 164 P) .nil .nil) (.node (o_28_228 P) .nil .nil))) (.node (o_2_52 P) (.node (o_9_84 P) (.node (b3o 148 P) .nil .nil) (.node (o_28_212 P) .nil .nil)) (.node (o_12_116 P) (.node (o_28_180 P) .nil .nil) (.node (o_28_244 P) .nil .nil)))) (.node (o_2_28 P) (.node (o_2_44 P) (.node (o_9_76 P) (.node (b3o 140 P) .nil .nil) (.node (o_28_204 P) .nil .nil)) (.node (o_11_108 P) (.node (o_28_172 P) .nil .nil) (.node (o_28_236 P) .nil .nil))) (.node (o_9_60 P) (.node (o_9_92 P) (.node (b3o 156 P) .nil .nil) (.node (o_28_220 P) .nil .nil)) (.node (o_12_124 P) (.node (o_28_188 P) .nil .nil) (.node (o_28_252 P) .nil .nil)))))) (.node (boot_o_6 P) (.node (boot_o_10 P) (.node (o_2_18 P) (.node (o_2_34 P) (.node (o_9_66 P) (.node (o_13_130 P) (.node (o_30_258 P) .nil .nil) .nil) (.node (o_28_194 P) .nil .nil)) (.node (o_9_98 P) (.node (b3o 162 P) .nil .nil) (.node (o_28_226 P) .nil .nil))) (.node (o_2_50 P) (.node (o_9_82 P) (.node (b3o 146 P) .nil .nil) (.node (o_28_210 P) .nil .nil)) (.node (o_11_114 P) (.node (o_28_178 P) .nil .nil) (.node (o_28_242 P) .nil .nil)))) (.node (o_2_26 P) (.node (o_2_42 P) (.node (o_9_74 P) (.node (b3o 138 P) (.node (o_30_266 P) .nil .nil) .nil) (.node (o_28_202 P) .nil .nil)) (.node (o_9_106 P) (.node (b3o 170 P) .nil .nil) (.node (o_28_234 P) .nil .nil))) (.node (o_9_58 P) (.node (o_9_90 P) (.node (b3o 154 P) .nil .nil) (.node (o_28_218 P) .nil .nil)) (.node (o_12_122 P) (.node (o_28_186 P) .nil .nil) (.node (o_28_250 P) .nil .nil))))) (.node (o_a_14 P) (.node (o_2_22 P) (.node (o_2_38 P) (.node (o_9_70 P) (.node (b3o 134 P) (.node (o_30_262 P) .nil .nil) .nil) (.node (o_28_198 P) .nil .nil)) (.node (o_9_102 P) (.node (b3o 166 P) .nil .nil) (.node (o_28_230 P) .nil .nil))) (.node (o_2_54 P) (.node (o_9_86 P) (.node (b3o 150 P) .nil .nil) (.node (o_28_214 P) .nil .nil)) (.node (o_12_118 P) (.node (o_28_182 P) .nil .nil) (.node (o_28_246 P) .nil .nil)))) (.node (o_2_30 P) (.node (o_2_46 P) (.node (o_9_78 P) (.node (b3o 142 P) .nil .nil) (.node (o_28_206 P) .nil .nil)) (.node (o_11_110 P) (.node (o_28_174 P) .nil .nil) (.node (o_28_238 P) .nil .nil))) (.node (o_9_62 P) (.node (o_9_94 P) (.node (b3o 158 P) .nil .nil) (.node (o_28_222 P) .nil .nil)) (.node (o_13_126 P) (.node (o_28_190 P) .nil .nil) (.node (o_28_254 P) .nil .nil))))))))
noncomputable def S_30 (w : World) (os : OsState) : SharedT := ⟨T_30 w.params, 267, (Life.mk [] [] [] 0 [] [] Bool.false #[] [] 0 Bool.false Bool.false Bool.false 0 [2000, 10, 10] Bool.false 0 Bool.true [] [] 0 Bool.false), #[], (Drawn.mk 0 0 0 0), 2482, os⟩ -- pos ⟨234, 0, 255, 40⟩ steps 26
noncomputable def T_f (P : Params) : BT := (.node (boot_o_0 P) (.node (boot_o_1 P) (.node (o_30_3 P) (.node (boot_o_7 P) (.node (o_2_15 P) (.node (o_2_31 P) (.node (o_9_63 P) (.node (o_13_127 P) (.node (o_28_255 P) .nil .nil) .nil) (.node (o_28_191 P) .nil .nil)) (.node (o_9_95 P) (.node (b3o 159 P) .nil .nil) (.node (o_28_223 P) .nil .nil))) (.node (o_2_47 P) (.node (o_9_79 P) (.node (b3o 143 P) .nil .nil) (.node (o_28_207 P) .nil .nil)) (.node (o_11_111 P) (.node (o_28_175 P) .nil .nil) (.node (o_28_239 P) .nil .nil)))) (.node (o_2_23 P) (.node (o_2_39 P) (.node (o_9_71 P) (.node (b3o 135 P) (.node (o_30_263 P) .nil .nil) .nil) (.node (o_28_199 P) .nil .nil)) (.node (o_9_103 P) (.node (b3o 167 P) .nil .nil) (.node (o_28_231 P) .nil .nil))) (.node (o_2_55 P) (.node (o_9_87 P) (.node (b3o 151 P) .nil .nil) (.node (o_28_215 P) .nil .nil)) (.node (o_12_119 P) (.node (o_28_183 P) .nil .nil) (.node (o_28_247 P) .nil .nil))))) (.node (o_a_11 P) (.node (o_2_19 P) (.node (o_2_35 P) (.node (o_9_67 P) (.node (o_13_131 P) (.node (o_30_259 P) .nil .nil) .nil) (.node (o_28_195 P) .nil .nil)) (.node (o_9_99 P) (.node (b3o 163 P) .nil .nil) (.node (o_28_227 P) .nil .nil))) (.node (o_2_51 P) (.node (o_9_83 P) (.node (b3o 147 P) .nil .nil) (.node (o_28_211 P) .nil .nil)) (.node (o_12_115 P) (.node (o_28_179 P) .nil .nil) (.node (o_28_243 P) .nil .nil)))) (.node (o_2_27 P) (.node (o_2_43 P) (.node (o_9_75 P) (.node (b3o 139 P) .nil .nil) (.node (o_28_203 P) .nil .nil)) (.node (o_9_107 P) (.node (b3o 171 P) .nil .nil) (.node (o_28_235 P) .nil .nil))) (.node (o_9_59 P) (.node (o_9_91 P) (.node (b3o 155 P) .nil .nil) (.node (o_28_219 P) .nil .nil)) (.node (o_12_123 P) (.node (o_28_187 P) .nil .nil) (.node (o_28_251 P) .nil .nil)))))) (.node (boot_o_5 P) (.node (boot_o_9 P) (.node (o_2_17 P) (.node (o_2_33 P) (.node (o_9_65 P) (.node (o_13_129 P) (.node (o_30_257 P) .nil .nil) .nil) (.node (o_28_193 P) .nil .nil)) (.node (o_9_97 P) (.node (b3o 161 P) .nil .nil) (.node (o_28_225 P) .nil .nil))) (.node (o_2_49 P) (.node (o_9_81 P) (.node (b3o 145 P) .nil .nil) (.node (o_28_209 P) .nil .nil)) (.node (o_11_113 P) (.node (o_28_177 P) .nil .nil) (.node (o_28_241 P) .nil .nil)))) (.node (o_2_25 P) (.node (o_2_41 P) (.node (o_9_73 P) (.node (b3o 137 P) (.node (o_30_265 P) .nil .nil) .nil) (.node (o_28_201 P) .nil .nil)) (.node (o_9_105 P) (.node (b3o 169 P) .nil .nil) (.node (o_28_233 P) .nil .nil))) (.node (o_9_57 P) (.node (o_9_89 P) (.node (b3o 153 P) .nil .nil) (.node (o_28_217 P) .nil .nil)) (.node (o_12_121 P) (.node (o_28_185 P) .nil .nil) (.node (o_28_249 P) .nil .nil))))) (.node (o_a_13 P) (.node (o_2_21 P) (.node (o_2_37 P) (.node (o_9_69 P) (.node (b3o 133 P) (.node (o_30_261 P) .nil .nil) .nil) (.node (o_28_197 P) .nil .nil)) (.node (o_9_101 P) (.node (b3o 165 P) .nil .nil) (.node (o_28_229 P) .nil .nil))) (.node (o_2_53 P) (.node (o_9_85 P) (.node (b3o 149 P) .nil .nil) (.node (o_28_213 P) .nil .nil)) (.node (o_12_117 P) (.node (o_28_181 P) .nil .nil) (.node (o_28_245 P) .nil .nil)))) (.node (o_2_29 P) (.node (o_2_45 P) (.node (o_9_77 P) (.node (b3o 141 P) .nil .nil) (.node (o_28_205 P) .nil .nil)) (.node (o_11_109 P) (.node (o_28_173 P) .nil .nil) (.node (o_28_237 P) .nil .nil))) (.node (o_9_61 P) (.node (o_9_93 P) (.node (b3o 157 P) .nil .nil) (.node (o_28_221 P) .nil .nil)) (.node (o_12_125 P) (.node (o_28_189 P) .nil .nil) (.node (o_28_253 P) .nil .nil))))))) (.node (boot_o_2 P) (.node (boot_o_4 P) (.node (boot_o_8 P) (.node (o_2_16 P) (.node (o_2_32 P) (.node (o_9_64 P) (.node (o_13_128 P) (.node (o_28_256 P) .nil .nil) .nil) (.node (o_28_192 P) .nil .nil)) (.node (o_9_96 P) (.node (b3o 160 P) .nil .nil) (.node (o_28_224 P) .nil .nil))) (.node (o_2_48 P) (.node (o_9_80 P) (.node (b3o 144 P) .nil .nil) (.node (o_28_208 P) .nil .nil)) (.node (o_11_112 P) (.node (o_28_176 P) .nil .nil) (.node (o_28_240 P) .nil .nil)))) (.node (o_2_24 P) (.node (o_2_40 P) (.node (o_9_72 P) (.node (b3o 136 P) (.node (o_30_264 P) .nil .nil) .nil) (.node (o_28_200 P) .nil .nil)) (.node (o_9_104 P) (.node (b3o 168 P) .nil .nil) (.node (o_28_232 P) .nil .nil))) (.node (o_2_56 P) (.node (o_9_88 P) (.node (b3o 152 P) .nil .nil) (.node (o_28_216 P) .nil .nil)) (.node (o_12_120 P) (.node (o_28_184 P) .nil .nil) (.node (o_28_248 P) .nil .nil))))) (.node (o_30_12 P) (.node (o_2_20 P) (.node (o_2_36 P) (.node (o_9_68 P) (.node (o_13_132 P) (.node (o_30_260 P) .nil .nil) .nil) (.node (o_28_196 P) .nil .nil)) (.node (o_9_100 P) (.node (b3o 164 P) .nil .nil) (.node (o_28_228 P) .nil .nil))) (.node (o_2_52 P) (.node (o_9_84 P) (.node (b3o 148 P) .nil .nil) (.node (o_28_212 P) .nil .nil)) (.node (o_12_116 P) (.node (o_28_180 P) .nil .nil) (.node (o_28_244 P) .nil .nil)))) (.node (o_2_28 P) (.node (o_2_44 P) (.node (o_9_76 P) (.node (b3o 140 P) .nil .nil) (.node (o_28_204 P) .nil .nil)) (.node (o_11_108 P) (.node (o_28_172 P) .nil .nil) (.node (o_28_236 P) .nil .nil))) (.node (o_9_60 P) (.node (o_9_92 P) (.node (b3o 156 P) .nil .nil) (.node (o_28_220 P) .nil .nil)) (.node (o_12_124 P) (.node (o_28_188 P) .nil .nil) (.node (o_28_252 P) .nil .nil)))))) (.node (boot_o_6 P) (.node (boot_o_10 P) (.node (o_2_18 P) (.node (o_2_34 P) (.node (o_9_66 P) (.node (o_13_130 P) (.node (o_30_258 P) .nil .nil) .nil) (.node (o_28_194 P) .nil .nil)) (.node (o_9_98 P) (.node (b3o 162 P) .nil .nil) (.node (o_28_226 P) .nil .nil))) (.node (o_2_50 P) (.node (o_9_82 P) (.node (b3o 146 P) .nil .nil) (.node (o_28_210 P) .nil .nil)) (.node (o_11_114 P) (.node (o_28_178 P) .nil .nil) (.node (o_28_242 P) .nil .nil)))) (.node (o_2_26 P) (.node (o_2_42 P) (.node (o_9_74 P) (.node (b3o 138 P) (.node (o_30_266 P) .nil .nil) .nil) (.node (o_28_202 P) .nil .nil)) (.node (o_9_106 P) (.node (b3o 170 P) .nil .nil) (.node (o_28_234 P) .nil .nil))) (.node (o_9_58 P) (.node (o_9_90 P) (.node (b3o 154 P) .nil .nil) (.node (o_28_218 P) .nil .nil)) (.node (o_12_122 P) (.node (o_28_186 P) .nil .nil) (.node (o_28_250 P) .nil .nil))))) (.node (o_a_14 P) (.node (o_2_22 P) (.node (o_2_38 P) (.node (o_9_70 P) (.node (b3o 134 P) (.node (o_30_262 P) .nil .nil) .nil) (.node (o_28_198 P) .nil .nil)) (.node (o_9_102 P) (.node (b3o 166 P) .nil .nil) (.node (o_28_230 P) .nil .nil))) (.node (o_2_54 P) (.node (o_9_86 P) (.node (b3o 150 P) .nil .nil) (.node (o_28_214 P) .nil .nil)) (.node (o_12_118 P) (.node (o_28_182 P) .nil .nil) (.node (o_28_246 P) .nil .nil)))) (.node (o_2_30 P) (.node (o_2_46 P) (.node (o_9_78 P) (.node (b3o 142 P) .nil .nil) (.node (o_28_206 P) .nil .nil)) (.node (o_11_110 P) (.node (o_28_174 P) .nil .nil) (.node (o_28_238 P) .nil .nil))) (.node (o_9_62 P) (.node (o_9_94 P) (.node (b3o 158 P) .nil .nil) (.node (o_28_222 P) .nil .nil)) (.node (o_13_126 P) (.node (o_28_190 P) .nil .nil) (.node (o_28_254 P) .nil .nil))))))))
noncomputable def S_f (w : World) (os : OsState) : SharedT := ⟨T_f w.params, 267, (Life.mk [] [] [] 0 [] [] Bool.false #[] [] 0 Bool.false Bool.false Bool.false 0 [2000, 10, 10] Bool.false 0 Bool.true [] [] 0 Bool.false), #[], (Drawn.mk 0 0 0 0), 2482, os⟩ -- pos ⟨234, 0, 255, 40⟩ steps 1
end
end
section
set_option maxRecDepth 100000
set_option maxHeartbeats 8000000
section
/-- the places of a hash, by one walk along the entries -/
noncomputable def placesL (h : Int) : List DictEntry → Nat → List Nat
  | [], _ => []
  | e :: r, i => if e.hash == h then i :: placesL h r (i + 1) else placesL h r (i + 1)
theorem placesL_eq (es : List DictEntry) (h : Int) : ∀ (pre l : List DictEntry), es = pre ++ l → Fast.placesFrom (fun i => es.toArray[i]?.map (·.hash)) h l.length pre.length = placesL h l pre.length
  | _, [], _ => rfl
  | pre, e :: r, he => by
    have ih := placesL_eq es h (pre ++ [e]) r (by rw [he]; simp)
    rw [List.length_append, List.length_singleton] at ih
    have h0 : (es.toArray[pre.length]?.map (·.hash)) = some e.hash := by
      rw [he]; simp
    show (if (es.toArray[pre.length]?.map (·.hash)) == some h then pre.length :: _ else _) = placesL h (e :: r) pre.length
    rw [h0]
    unfold placesL
    rw [← ih]
    by_cases q : e.hash = h
    · simp [q]
    · simp [q]
noncomputable def ihe (a b : Int) : Bool := match a with
  | .ofNat m => (match b with | .ofNat n => Nat.beq m n | .negSucc _ => false)
  | .negSucc m => (match b with | .ofNat _ => false | .negSucc n => Nat.beq m n)
theorem ihe_eq (a b : Int) : (a == b) = ihe a b := by
  cases a with
  | ofNat m => cases b with
    | ofNat n =>
      show (Int.ofNat m == Int.ofNat n) = Nat.beq m n
      by_cases h : m = n
      · subst h; simp
      · have h1 : (Int.ofNat m == Int.ofNat n) = false := beq_eq_false_iff_ne.mpr (by intro e; exact h (Int.ofNat.inj e))
        rw [h1]; exact (Bool.eq_false_iff.mpr fun q => h (Nat.eq_of_beq_eq_true q)).symm
    | negSucc n => show (Int.ofNat m == Int.negSucc n) = false; exact beq_eq_false_iff_ne.mpr (by intro e; cases e)
  | negSucc m => cases b with
    | ofNat n => show (Int.negSucc m == Int.ofNat n) = false; exact beq_eq_false_iff_ne.mpr (by intro e; cases e)
    | negSucc n =>
      show (Int.negSucc m == Int.negSucc n) = Nat.beq m n
      by_cases h : m = n
      · subst h; simp
      · have h1 : (Int.negSucc m == Int.negSucc n) = false := beq_eq_false_iff_ne.mpr (by intro e; exact h (Int.negSucc.inj e))
        rw [h1]; exact (Bool.eq_false_iff.mpr fun q => h (Nat.eq_of_beq_eq_true q)).symm
noncomputable def placesM (h : Int) (l : List DictEntry) : Nat → List Nat :=
  @List.rec DictEntry (fun _ => Nat → List Nat) (fun _ => []) (fun e _ ih i => @Bool.rec (fun _ => List Nat) (ih (i + 1)) (i :: ih (i + 1)) (ihe e.hash h)) l
theorem placesM_eq (h : Int) : ∀ (l : List DictEntry) (i : Nat), placesL h l i = placesM h l i
  | [], _ => rfl
  | e :: r, i => by
    show (if (e.hash == h) = true then _ else _) = @Bool.rec (fun _ => List Nat) (placesM h r (i + 1)) (i :: placesM h r (i + 1)) (ihe e.hash h)
    rw [ihe_eq, placesM_eq h r]
    cases ihe e.hash h <;> rfl
theorem places_byList (es : Array DictEntry) (h : Int) : placesWithHash es.size (fun i => es[i]?.map (·.hash)) h = placesM h es.toList 0 := by
  obtain ⟨l⟩ := es
  rw [Fast.places_eq, ← placesM_eq]
  exact placesL_eq l h [] l rfl
noncomputable def dictFindS : { f : Addr → Value → Int → Sem (Option Nat) // dictFind = f } := ⟨_, by
  funext d key h
  unfold dictFind
  simp only [places_byList]
  conv => lhs; rw [PySem.W.Fast.te17359229931016689406, PySem.W.Fast.te12456147031677567982, PySem.W.Fast.te1156441195427279134, PySem.W.Fast.te16073574877836486461, PySem.W.R.allR_eq, PySem.W.Fast.te17029171927554795714, PySem.W.Fast.te7966671052430208091, PySem.W.Fast.te8314933798227046258, PySem.W.Fast.te13926502685295537346, PySem.W.SL.e9573561611428980916x13, PySem.W.Fast.te11445937954039399578]⟩
noncomputable def dictPutS : { f : Addr → Int → Value → Value → Sem Unit // dictPut = f } := ⟨_, by
  funext d h key v
  unfold dictPut
  conv => lhs; rw [dictFindS.2, PySem.W.Fast.te12456147031677567982, PySem.W.Fast.te55756146738185829, PySem.W.Fast.te11826078720135083572, PySem.W.Fast.te2398297429280069960]⟩
theorem special_int (i : Int) (t : Tok) : specialOf (.int i t) "__hash__" = Sem.pure (some (.builtin "int.__hash__")) := by kernel_rfl
theorem csib_int (i : Int) (t : Tok) (r : Sem Value) : callSpecialIfBoundUnlessNone? (.int i t) "__hash__" r = Sem.ask fun _ => (call (.builtin "int.__hash__") [.int i t]) >>= fun v => Sem.pure (some v) := by
  unfold callSpecialIfBoundUnlessNone? bindSpecialIfBound?
  rw [special_int]
  show Sem.ask (fun S => _) = _
  refine congrArg Sem.ask (funext fun S => ?_)
  change Sem.bind (if S.params.followText "special-get-raises" = true then _ else _) _ = _
  cases h : S.params.followText "special-get-raises" with
  | true => kernel_rfl
  | false => kernel_rfl
noncomputable def hashIntS : { f : Int → Tok → Sem Int // ∀ i t, pyHash (.int i t) = f i t } := ⟨_, by
  intro i t
  show pyHashByItsType (.int i t) = _
  conv => lhs; (unfold pyHashByItsType; rw [special_int]; simp only [csib_int])⟩
noncomputable def hashQ : Value → Sem Int := fun v => match v with
  | .int i t => hashIntS.1 i t
  | v => Fast.tw10540108854288196387 v
theorem hashQ_eq : pyHash = hashQ := by
  funext v
  cases v with
  | int i t => exact hashIntS.2 i t
  | _ => exact congrFun PySem.W.Fast.te10540108854288196387 _
noncomputable def setHashedS : { f : Addr → Value → Int → Value → Sem Unit // dictSetHashed = f } := ⟨_, by
  funext d key h v
  unfold dictSetHashed
  conv => lhs; rw [dictFindS.2, PySem.W.Fast.te12456147031677567982, PySem.W.Fast.te17359229931016689406, PySem.W.Fast.te55756146738185829, PySem.W.Fast.te11826078720135083572, PySem.W.Fast.te2398297429280069960]⟩
noncomputable def dictSetS : { f : Addr → Value → Value → Sem Unit // dictSet = f } := ⟨_, by
  funext d key v
  unfold dictSet
  conv => lhs; rw [setHashedS.2, PySem.W.Fast.te12456147031677567982, PySem.W.Fast.te17359229931016689406, hashQ_eq]⟩
noncomputable def subDictS : { f : List (Sem Value × Sem Value) → Sem Addr // subDict = f } := ⟨_, by
  funext l
  unfold subDict
  conv => lhs; rw [dictSetS.2, PySem.W.Fast.te12456147031677567982, PySem.W.Fast.te17359229931016689406, PySem.W.SL.e14018661285674007319x4]⟩
noncomputable def mergeS : { f : Addr → Value → Bool → Sem Unit // mergeMapping = f } := ⟨_, by
  funext d m u
  unfold mergeMapping
  simp only [dictPutS.2]
  conv => lhs; rw [PySem.W.Fast.te12456147031677567982, PySem.W.Fast.te6571733998842723752, PySem.W.SL.e14018661285674007319x4, PySem.W.Fast.te4214721358667687652, PySem.W.Fast.te7966671052430208091, PySem.W.SL.e5095943308957502883x13, PySem.W.Fast.te1156441195427279134, PySem.W.SL.e9825170513990073786x13, PySem.W.Fast.te9876569995065107414, PySem.W.Fast.te8314933798227046258, PySem.W.Fast.te17359229931016689406, PySem.W.Fast.te7228091826238408665]⟩
noncomputable def loopQ {α β : Type} (F : α → β → Sem (ForInStep β)) : List α → β → Sem β
  | [], st => pure st
  | x :: r, st => F x st >>= fun
    | .done s => pure s
    | .yield s => loopQ F r s
theorem loopQ_eq {α β : Type} (F : α → β → Sem (ForInStep β)) : ∀ (l : List α) (st : β), forIn l st F = loopQ F l st
  | [], st => rfl
  | x :: r, st => by
    rw [List.forIn_cons]
    unfold loopQ
    refine congrArg _ (funext fun s => ?_)
    cases s with
    | done => rfl
    | yield s => exact loopQ_eq F r s
noncomputable abbrev Item := Option (Sem Value) × Sem Value
noncomputable abbrev Stage := Option Addr × List (Sem Value × Sem Value)
theorem loopQ_congr {α β γ : Type} {F F' : α → β → Sem (ForInStep β)} {g g' : β → Sem γ} {l : List α} {st : β} (hF : F = F') (hg : g = g') : loopQ F l st >>= g = loopQ F' l st >>= g' := by rw [hF, hg]
noncomputable def dispS : Σ' (F : Item → Stage → Sem (ForInStep Stage)) (g : Stage → Sem Value), ∀ items : List Item, dictDisplay items = loopQ F items (none, []) >>= g := ⟨_, _, fun items => by
  unfold dictDisplay
  rw [mergeS.2]
  simp only [loopQ_eq]
  refine' loopQ_congr (F' := ?F) (g' := ?g) ?a ?b
  case a => (conv => lhs; ((try rw [PySem.W.Fast.te12456147031677567982]); (try rw [PySem.W.Fast.te15056007747304108558]); (try rw [subDictS.2]); (try rw [PySem.W.Fast.te17359229931016689406]); (try rw [PySem.W.R.onRaiseR_eq]); (try rw [PySem.W.Fast.te12194477576918160588]); (try rw [PySem.W.SL.e5953569945196450387x12]); (try rw [PySem.W.R.catchR_eq]); (try rw [PySem.W.Fast.te6571733998842723752]); (try rw [PySem.W.SL.e9001593270443806431x14]); (try rw [PySem.W.Fast.te8349319619548498818]); (try rw [PySem.W.Fast.te4082907035670056827]); (try rw [PySem.W.SL.e2804747833354056582x9]); (try rw [PySem.W.Fast.te9309626314029892736]); (try rw [PySem.W.Fast.te16348484164971924005]); (try rw [PySem.W.SL.e14018661285674007319x4]); (try rw [PySem.W.Fast.te17215822245053049158])); rfl)
  case b => (conv => lhs; ((try rw [PySem.W.Fast.te12456147031677567982]); (try rw [PySem.W.Fast.te15056007747304108558]); (try rw [subDictS.2]); (try rw [PySem.W.Fast.te17359229931016689406]); (try rw [PySem.W.R.onRaiseR_eq]); (try rw [PySem.W.Fast.te12194477576918160588]); (try rw [PySem.W.SL.e5953569945196450387x12]); (try rw [PySem.W.R.catchR_eq]); (try rw [PySem.W.Fast.te6571733998842723752]); (try rw [PySem.W.SL.e9001593270443806431x14]); (try rw [PySem.W.Fast.te8349319619548498818]); (try rw [PySem.W.Fast.te4082907035670056827]); (try rw [PySem.W.SL.e2804747833354056582x9]); (try rw [PySem.W.Fast.te9309626314029892736]); (try rw [PySem.W.Fast.te16348484164971924005]); (try rw [PySem.W.SL.e14018661285674007319x4]); (try rw [PySem.W.Fast.te17215822245053049158])); rfl)⟩
end
end
section
set_option maxRecDepth 100000
set_option maxHeartbeats 8000000
section
noncomputable def b3d : List PySem.Expr × List (Option PySem.Expr) × List PySem.Expr × Pos := match stm 14 with
  | .Assign ts (.Dict ks vs p) _ => (ts, ks, vs, p)
  | _ => ([], [], [], q0)
noncomputable abbrev dp : Pos := ⟨112, 16, 112, 8704⟩
noncomputable def items (j : Nat) : List Item := (evalEachOpt (b3d.2.1.drop (17 * j)) env).zip ((evalEach (b3d.2.2.1.drop (17 * j)) env).map fun v => do let x ← v; standAt dp; pure x)
noncomputable def K2 (v : Value) : Sem Flow := do assignStores env v (← swappedStores b3d.1 (.Dict b3d.2.1 b3d.2.2.1 dp) env) ((assignEach b3d.1 env).map (·.2))
noncomputable def mainOf : Nat → Option Addr
  | 0 => none
  | _ + 1 => some 133
noncomputable def cur (j : Nat) : Sem Fin := ((loopQ dispS.1 (items j) (mainOf j, []) >>= dispS.2.1) >>= K2).wrap doneF deadEnd id id
noncomputable def mainAt (j : Nat) : Obj := ⟨.type "dict", none, .dict (b3ents.take (17 * j)).toArray (17 * j), #[]⟩
noncomputable def TDi (P : Params) (j : Nat) : Nat → BT
  | 0 => T_13 P
  | i + 1 => (TDi P j i).ins (133 + i) (match i with | 0 => mainAt j | _ + 1 => b3o (133 + i) P)
noncomputable def SD (j : Nat) (w : World) (os : OsState) : SharedT := ⟨TDi w.params j j, 133 + j, (Life.mk [] [] [] 0 [] [] Bool.false #[] [] 0 Bool.false Bool.false Bool.false 0 [2000, 10, 10] Bool.false 0 Bool.true [] [] 0 Bool.false), #[], (Drawn.mk 0 0 0 0), 399 + 51 * j, os⟩
noncomputable def th (j : Nat) : Thread := ⟨cur j, cod, dp, [topFrame q0]⟩

theorem dd_0 : ∀ w : World, (fun os => segGoT treeTable prg w 11 ann 1 2 (S_13 w os) (pieceOf (stm 14) env cod ⟨110, 0, 111, 30⟩ [topFrame q0])) = fun os => some (S_13 w os, ⟨(dictDisplay (items 0) >>= K2).wrap doneF deadEnd id id, cod, dp, [topFrame q0]⟩) := by
  intro w
  kernel_rfl
end
end
section
set_option maxRecDepth 100000
set_option maxHeartbeats 8000000
theorem st_0 : ∀ w : World, (fun os => segGoT treeTable prg w 11 ann 1 223 (SD 0 w os) (th 0)) = fun os => some (SD 1 w os, th 1) := by
  rw [PySem.W.Fast.te10295753902157049106, PySem.W.Fast.te14364793385576792824]
  intro w
  kernel_rfl
theorem st_1 : ∀ w : World, (fun os => segGoT treeTable prg w 11 ann 1 330 (SD 1 w os) (th 1)) = fun os => some (SD 2 w os, th 2) := by
  rw [PySem.W.Fast.te10295753902157049106, PySem.W.Fast.te14364793385576792824]
  intro w
  kernel_rfl
theorem st_2 : ∀ w : World, (fun os => segGoT treeTable prg w 11 ann 1 330 (SD 2 w os) (th 2)) = fun os => some (SD 3 w os, th 3) := by
  rw [PySem.W.Fast.te10295753902157049106, PySem.W.Fast.te14364793385576792824]
  intro w
  kernel_rfl
theorem st_3 : ∀ w : World, (fun os => segGoT treeTable prg w 11 ann 1 330 (SD 3 w os) (th 3)) = fun os => some (SD 4 w os, th 4) := by
  rw [PySem.W.Fast.te10295753902157049106, PySem.W.Fast.te14364793385576792824]
  intro w
  kernel_rfl
theorem st_4 : ∀ w : World, (fun os => segGoT treeTable prg w 11 ann 1 330 (SD 4 w os) (th 4)) = fun os => some (SD 5 w os, th 5) := by
  rw [PySem.W.Fast.te10295753902157049106, PySem.W.Fast.te14364793385576792824]
  intro w
  kernel_rfl
theorem st_5 : ∀ w : World, (fun os => segGoT treeTable prg w 11 ann 1 330 (SD 5 w os) (th 5)) = fun os => some (SD 6 w os, th 6) := by
  rw [PySem.W.Fast.te10295753902157049106, PySem.W.Fast.te14364793385576792824]
  intro w
  kernel_rfl
theorem st_6 : ∀ w : World, (fun os => segGoT treeTable prg w 11 ann 1 330 (SD 6 w os) (th 6)) = fun os => some (SD 7 w os, th 7) := by
  rw [PySem.W.Fast.te10295753902157049106, PySem.W.Fast.te14364793385576792824]
  intro w
  kernel_rfl
theorem st_7 : ∀ w : World, (fun os => segGoT treeTable prg w 11 ann 1 330 (SD 7 w os) (th 7)) = fun os => some (SD 8 w os, th 8) := by
  rw [PySem.W.Fast.te10295753902157049106, PySem.W.Fast.te14364793385576792824]
  intro w
  kernel_rfl
theorem st_8 : ∀ w : World, (fun os => segGoT treeTable prg w 11 ann 1 330 (SD 8 w os) (th 8)) = fun os => some (SD 9 w os, th 9) := by
  rw [PySem.W.Fast.te10295753902157049106, PySem.W.Fast.te14364793385576792824]
  intro w
  kernel_rfl
theorem st_9 : ∀ w : World, (fun os => segGoT treeTable prg w 11 ann 1 330 (SD 9 w os) (th 9)) = fun os => some (SD 10 w os, th 10) := by
  rw [PySem.W.Fast.te10295753902157049106, PySem.W.Fast.te14364793385576792824]
  intro w
  kernel_rfl
end
section
set_option maxRecDepth 100000
set_option maxHeartbeats 8000000
theorem st_10 : ∀ w : World, (fun os => segGoT treeTable prg w 11 ann 1 330 (SD 10 w os) (th 10)) = fun os => some (SD 11 w os, th 11) := by
  rw [PySem.W.Fast.te10295753902157049106, PySem.W.Fast.te14364793385576792824]
  intro w
  kernel_rfl
theorem st_11 : ∀ w : World, (fun os => segGoT treeTable prg w 11 ann 1 330 (SD 11 w os) (th 11)) = fun os => some (SD 12 w os, th 12) := by
  rw [PySem.W.Fast.te10295753902157049106, PySem.W.Fast.te14364793385576792824]
  intro w
  kernel_rfl
theorem st_12 : ∀ w : World, (fun os => segGoT treeTable prg w 11 ann 1 330 (SD 12 w os) (th 12)) = fun os => some (SD 13 w os, th 13) := by
  rw [PySem.W.Fast.te10295753902157049106, PySem.W.Fast.te14364793385576792824]
  intro w
  kernel_rfl
theorem st_13 : ∀ w : World, (fun os => segGoT treeTable prg w 11 ann 1 330 (SD 13 w os) (th 13)) = fun os => some (SD 14 w os, th 14) := by
  rw [PySem.W.Fast.te10295753902157049106, PySem.W.Fast.te14364793385576792824]
  intro w
  kernel_rfl
theorem st_14 : ∀ w : World, (fun os => segGoT treeTable prg w 11 ann 1 330 (SD 14 w os) (th 14)) = fun os => some (SD 15 w os, th 15) := by
  rw [PySem.W.Fast.te10295753902157049106, PySem.W.Fast.te14364793385576792824]
  intro w
  kernel_rfl
theorem st_15 : ∀ w : World, (fun os => segGoT treeTable prg w 11 ann 1 330 (SD 15 w os) (th 15)) = fun os => some (SD 16 w os, th 16) := by
  rw [PySem.W.Fast.te10295753902157049106, PySem.W.Fast.te14364793385576792824]
  intro w
  kernel_rfl
theorem st_16 : ∀ w : World, (fun os => segGoT treeTable prg w 11 ann 1 330 (SD 16 w os) (th 16)) = fun os => some (SD 17 w os, th 17) := by
  rw [PySem.W.Fast.te10295753902157049106, PySem.W.Fast.te14364793385576792824]
  intro w
  kernel_rfl
theorem st_17 : ∀ w : World, (fun os => segGoT treeTable prg w 11 ann 1 330 (SD 17 w os) (th 17)) = fun os => some (SD 18 w os, th 18) := by
  rw [PySem.W.Fast.te10295753902157049106, PySem.W.Fast.te14364793385576792824]
  intro w
  kernel_rfl
theorem st_18 : ∀ w : World, (fun os => segGoT treeTable prg w 11 ann 1 330 (SD 18 w os) (th 18)) = fun os => some (SD 19 w os, th 19) := by
  rw [PySem.W.Fast.te10295753902157049106, PySem.W.Fast.te14364793385576792824]
  intro w
  kernel_rfl
theorem st_19 : ∀ w : World, (fun os => segGoT treeTable prg w 11 ann 1 330 (SD 19 w os) (th 19)) = fun os => some (SD 20 w os, th 20) := by
  rw [PySem.W.Fast.te10295753902157049106, PySem.W.Fast.te14364793385576792824]
  intro w
  kernel_rfl
end
section
set_option maxRecDepth 100000
set_option maxHeartbeats 8000000
theorem st_20 : ∀ w : World, (fun os => segGoT treeTable prg w 11 ann 1 330 (SD 20 w os) (th 20)) = fun os => some (SD 21 w os, th 21) := by
  rw [PySem.W.Fast.te10295753902157049106, PySem.W.Fast.te14364793385576792824]
  intro w
  kernel_rfl
theorem st_21 : ∀ w : World, (fun os => segGoT treeTable prg w 11 ann 1 330 (SD 21 w os) (th 21)) = fun os => some (SD 22 w os, th 22) := by
  rw [PySem.W.Fast.te10295753902157049106, PySem.W.Fast.te14364793385576792824]
  intro w
  kernel_rfl
theorem st_22 : ∀ w : World, (fun os => segGoT treeTable prg w 11 ann 1 330 (SD 22 w os) (th 22)) = fun os => some (SD 23 w os, th 23) := by
  rw [PySem.W.Fast.te10295753902157049106, PySem.W.Fast.te14364793385576792824]
  intro w
  kernel_rfl
theorem st_23 : ∀ w : World, (fun os => segGoT treeTable prg w 11 ann 1 330 (SD 23 w os) (th 23)) = fun os => some (SD 24 w os, th 24) := by
  rw [PySem.W.Fast.te10295753902157049106, PySem.W.Fast.te14364793385576792824]
  intro w
  kernel_rfl
theorem st_24 : ∀ w : World, (fun os => segGoT treeTable prg w 11 ann 1 330 (SD 24 w os) (th 24)) = fun os => some (SD 25 w os, th 25) := by
  rw [PySem.W.Fast.te10295753902157049106, PySem.W.Fast.te14364793385576792824]
  intro w
  kernel_rfl
theorem st_25 : ∀ w : World, (fun os => segGoT treeTable prg w 11 ann 1 330 (SD 25 w os) (th 25)) = fun os => some (SD 26 w os, th 26) := by
  rw [PySem.W.Fast.te10295753902157049106, PySem.W.Fast.te14364793385576792824]
  intro w
  kernel_rfl
theorem st_26 : ∀ w : World, (fun os => segGoT treeTable prg w 11 ann 1 330 (SD 26 w os) (th 26)) = fun os => some (SD 27 w os, th 27) := by
  rw [PySem.W.Fast.te10295753902157049106, PySem.W.Fast.te14364793385576792824]
  intro w
  kernel_rfl
theorem st_27 : ∀ w : World, (fun os => segGoT treeTable prg w 11 ann 1 330 (SD 27 w os) (th 27)) = fun os => some (SD 28 w os, th 28) := by
  rw [PySem.W.Fast.te10295753902157049106, PySem.W.Fast.te14364793385576792824]
  intro w
  kernel_rfl
theorem st_28 : ∀ w : World, (fun os => segGoT treeTable prg w 11 ann 1 330 (SD 28 w os) (th 28)) = fun os => some (SD 29 w os, th 29) := by
  rw [PySem.W.Fast.te10295753902157049106, PySem.W.Fast.te14364793385576792824]
  intro w
  kernel_rfl
theorem st_29 : ∀ w : World, (fun os => segGoT treeTable prg w 11 ann 1 330 (SD 29 w os) (th 29)) = fun os => some (SD 30 w os, th 30) := by
  rw [PySem.W.Fast.te10295753902157049106, PySem.W.Fast.te14364793385576792824]
  intro w
  kernel_rfl
end
section
set_option maxRecDepth 100000
set_option maxHeartbeats 8000000
theorem st_30 : ∀ w : World, (fun os => segGoT treeTable prg w 11 ann 1 330 (SD 30 w os) (th 30)) = fun os => some (SD 31 w os, th 31) := by
  rw [PySem.W.Fast.te10295753902157049106, PySem.W.Fast.te14364793385576792824]
  intro w
  kernel_rfl
theorem st_31 : ∀ w : World, (fun os => segGoT treeTable prg w 11 ann 1 330 (SD 31 w os) (th 31)) = fun os => some (SD 32 w os, th 32) := by
  rw [PySem.W.Fast.te10295753902157049106, PySem.W.Fast.te14364793385576792824]
  intro w
  kernel_rfl
theorem st_32 : ∀ w : World, (fun os => segGoT treeTable prg w 11 ann 1 330 (SD 32 w os) (th 32)) = fun os => some (SD 33 w os, th 33) := by
  rw [PySem.W.Fast.te10295753902157049106, PySem.W.Fast.te14364793385576792824]
  intro w
  kernel_rfl
theorem st_33 : ∀ w : World, (fun os => segGoT treeTable prg w 11 ann 1 330 (SD 33 w os) (th 33)) = fun os => some (SD 34 w os, th 34) := by
  rw [PySem.W.Fast.te10295753902157049106, PySem.W.Fast.te14364793385576792824]
  intro w
  kernel_rfl
theorem st_34 : ∀ w : World, (fun os => segGoT treeTable prg w 11 ann 1 330 (SD 34 w os) (th 34)) = fun os => some (SD 35 w os, th 35) := by
  rw [PySem.W.Fast.te10295753902157049106, PySem.W.Fast.te14364793385576792824]
  intro w
  kernel_rfl
theorem st_35 : ∀ w : World, (fun os => segGoT treeTable prg w 11 ann 1 330 (SD 35 w os) (th 35)) = fun os => some (SD 36 w os, th 36) := by
  rw [PySem.W.Fast.te10295753902157049106, PySem.W.Fast.te14364793385576792824]
  intro w
  kernel_rfl
theorem st_36 : ∀ w : World, (fun os => segGoT treeTable prg w 11 ann 1 330 (SD 36 w os) (th 36)) = fun os => some (SD 37 w os, th 37) := by
  rw [PySem.W.Fast.te10295753902157049106, PySem.W.Fast.te14364793385576792824]
  intro w
  kernel_rfl
theorem st_37 : ∀ w : World, (fun os => segGoT treeTable prg w 11 ann 1 330 (SD 37 w os) (th 37)) = fun os => some (SD 38 w os, th 38) := by
  rw [PySem.W.Fast.te10295753902157049106, PySem.W.Fast.te14364793385576792824]
  intro w
  kernel_rfl
end
section
set_option maxRecDepth 100000
set_option maxHeartbeats 8000000
theorem st_end : ∀ w : World, (fun os => segRunT treeTable prg w 11 ann 1 90 (SD 38 w os) (th 38)) = fun os => some (.next, S_14 w os, cod, ⟨112, 0, 112, 13⟩) := by
  rw [PySem.W.Fast.te10110043849684766642, PySem.W.Fast.te14364793385576792824]
  intro w
  kernel_rfl
end
section
set_option maxRecDepth 100000
set_option maxHeartbeats 8000000
theorem ch_38 (w : World) (os : OsState) : segRun treeTable prg w 11 ann 1 90 (SD 38 w os).abs (th 38) = some (.next, (S_14 w os).abs, cod, ⟨112, 0, 112, 13⟩) := segRun_of (congrFun (st_end w) os)
theorem ch_37 (w : World) (os : OsState) : segRun treeTable prg w 11 ann 1 420 (SD 37 w os).abs (th 37) = some (.next, (S_14 w os).abs, cod, ⟨112, 0, 112, 13⟩) := seg_go (n := 330) (N := 90) (segGo_of (congrFun (st_37 w) os)) (ch_38 w os)
theorem ch_36 (w : World) (os : OsState) : segRun treeTable prg w 11 ann 1 750 (SD 36 w os).abs (th 36) = some (.next, (S_14 w os).abs, cod, ⟨112, 0, 112, 13⟩) := seg_go (n := 330) (N := 420) (segGo_of (congrFun (st_36 w) os)) (ch_37 w os)
theorem ch_35 (w : World) (os : OsState) : segRun treeTable prg w 11 ann 1 1080 (SD 35 w os).abs (th 35) = some (.next, (S_14 w os).abs, cod, ⟨112, 0, 112, 13⟩) := seg_go (n := 330) (N := 750) (segGo_of (congrFun (st_35 w) os)) (ch_36 w os)
theorem ch_34 (w : World) (os : OsState) : segRun treeTable prg w 11 ann 1 1410 (SD 34 w os).abs (th 34) = some (.next, (S_14 w os).abs, cod, ⟨112, 0, 112, 13⟩) := seg_go (n := 330) (N := 1080) (segGo_of (congrFun (st_34 w) os)) (ch_35 w os)
theorem ch_33 (w : World) (os : OsState) : segRun treeTable prg w 11 ann 1 1740 (SD 33 w os).abs (th 33) = some (.next, (S_14 w os).abs, cod, ⟨112, 0, 112, 13⟩) := seg_go (n := 330) (N := 1410) (segGo_of (congrFun (st_33 w) os)) (ch_34 w os)
theorem ch_32 (w : World) (os : OsState) : segRun treeTable prg w 11 ann 1 2070 (SD 32 w os).abs (th 32) = some (.next, (S_14 w os).abs, cod, ⟨112, 0, 112, 13⟩) := seg_go (n := 330) (N := 1740) (segGo_of (congrFun (st_32 w) os)) (ch_33 w os)
theorem ch_31 (w : World) (os : OsState) : segRun treeTable prg w 11 ann 1 2400 (SD 31 w os).abs (th 31) = some (.next, (S_14 w os).abs, cod, ⟨112, 0, 112, 13⟩) := seg_go (n := 330) (N := 2070) (segGo_of (congrFun (st_31 w) os)) (ch_32 w os)
theorem ch_30 (w : World) (os : OsState) : segRun treeTable prg w 11 ann 1 2730 (SD 30 w os).abs (th 30) = some (.next, (S_14 w os).abs, cod, ⟨112, 0, 112, 13⟩) := seg_go (n := 330) (N := 2400) (segGo_of (congrFun (st_30 w) os)) (ch_31 w os)
theorem ch_29 (w : World) (os : OsState) : segRun treeTable prg w 11 ann 1 3060 (SD 29 w os).abs (th 29) = some (.next, (S_14 w os).abs, cod, ⟨112, 0, 112, 13⟩) := seg_go (n := 330) (N := 2730) (segGo_of (congrFun (st_29 w) os)) (ch_30 w os)
theorem ch_28 (w : World) (os : OsState) : segRun treeTable prg w 11 ann 1 3390 (SD 28 w os).abs (th 28) = some (.next, (S_14 w os).abs, cod, ⟨112, 0, 112, 13⟩) := seg_go (n := 330) (N := 3060) (segGo_of (congrFun (st_28 w) os)) (ch_29 w os)
theorem ch_27 (w : World) (os : OsState) : segRun treeTable prg w 11 ann 1 3720 (SD 27 w os).abs (th 27) = some (.next, (S_14 w os).abs, cod, ⟨112, 0, 112, 13⟩) := seg_go (n := 330) (N := 3390) (segGo_of (congrFun (st_27 w) os)) (ch_28 w os)
theorem ch_26 (w : World) (os : OsState) : segRun treeTable prg w 11 ann 1 4050 (SD 26 w os).abs (th 26) = some (.next, (S_14 w os).abs, cod, ⟨112, 0, 112, 13⟩) := seg_go (n := 330) (N := 3720) (segGo_of (congrFun (st_26 w) os)) (ch_27 w os)
theorem ch_25 (w : World) (os : OsState) : segRun treeTable prg w 11 ann 1 4380 (SD 25 w os).abs (th 25) = some (.next, (S_14 w os).abs, cod, ⟨112, 0, 112, 13⟩) := seg_go (n := 330) (N := 4050) (segGo_of (congrFun (st_25 w) os)) (ch_26 w os)
theorem ch_24 (w : World) (os : OsState) : segRun treeTable prg w 11 ann 1 4710 (SD 24 w os).abs (th 24) = some (.next, (S_14 w os).abs, cod, ⟨112, 0, 112, 13⟩) := seg_go (n := 330) (N := 4380) (segGo_of (congrFun (st_24 w) os)) (ch_25 w os)
theorem ch_23 (w : World) (os : OsState) : segRun treeTable prg w 11 ann 1 5040 (SD 23 w os).abs (th 23) = some (.next, (S_14 w os).abs, cod, ⟨112, 0, 112, 13⟩) := seg_go (n := 330) (N := 4710) (segGo_of (congrFun (st_23 w) os)) (ch_24 w os)
theorem ch_22 (w : World) (os : OsState) : segRun treeTable prg w 11 ann 1 5370 (SD 22 w os).abs (th 22) = some (.next, (S_14 w os).abs, cod, ⟨112, 0, 112, 13⟩) := seg_go (n := 330) (N := 5040) (segGo_of (congrFun (st_22 w) os)) (ch_23 w os)
theorem ch_21 (w : World) (os : OsState) : segRun treeTable prg w 11 ann 1 5700 (SD 21 w os).abs (th 21) = some (.next, (S_14 w os).abs, cod, ⟨112, 0, 112, 13⟩) := seg_go (n := 330) (N := 5370) (segGo_of (congrFun (st_21 w) os)) (ch_22 w os)
theorem ch_20 (w : World) (os : OsState) : segRun treeTable prg w 11 ann 1 6030 (SD 20 w os).abs (th 20) = some (.next, (S_14 w os).abs, cod, ⟨112, 0, 112, 13⟩) := seg_go (n := 330) (N := 5700) (segGo_of (congrFun (st_20 w) os)) (ch_21 w os)
theorem ch_19 (w : World) (os : OsState) : segRun treeTable prg w 11 ann 1 6360 (SD 19 w os).abs (th 19) = some (.next, (S_14 w os).abs, cod, ⟨112, 0, 112, 13⟩) := seg_go (n := 330) (N := 6030) (segGo_of (congrFun (st_19 w) os)) (ch_20 w os)
theorem ch_18 (w : World) (os : OsState) : segRun treeTable prg w 11 ann 1 6690 (SD 18 w os).abs (th 18) = some (.next, (S_14 w os).abs, cod, ⟨112, 0, 112, 13⟩) := seg_go (n := 330) (N := 6360) (segGo_of (congrFun (st_18 w) os)) (ch_19 w os)
theorem ch_17 (w : World) (os : OsState) : segRun treeTable prg w 11 ann 1 7020 (SD 17 w os).abs (th 17) = some (.next, (S_14 w os).abs, cod, ⟨112, 0, 112, 13⟩) := seg_go (n := 330) (N := 6690) (segGo_of (congrFun (st_17 w) os)) (ch_18 w os)
theorem ch_16 (w : World) (os : OsState) : segRun treeTable prg w 11 ann 1 7350 (SD 16 w os).abs (th 16) = some (.next, (S_14 w os).abs, cod, ⟨112, 0, 112, 13⟩) := seg_go (n := 330) (N := 7020) (segGo_of (congrFun (st_16 w) os)) (ch_17 w os)
theorem ch_15 (w : World) (os : OsState) : segRun treeTable prg w 11 ann 1 7680 (SD 15 w os).abs (th 15) = some (.next, (S_14 w os).abs, cod, ⟨112, 0, 112, 13⟩) := seg_go (n := 330) (N := 7350) (segGo_of (congrFun (st_15 w) os)) (ch_16 w os)
theorem ch_14 (w : World) (os : OsState) : segRun treeTable prg w 11 ann 1 8010 (SD 14 w os).abs (th 14) = some (.next, (S_14 w os).abs, cod, ⟨112, 0, 112, 13⟩) := seg_go (n := 330) (N := 7680) (segGo_of (congrFun (st_14 w) os)) (ch_15 w os)
theorem ch_13 (w : World) (os : OsState) : segRun treeTable prg w 11 ann 1 8340 (SD 13 w os).abs (th 13) = some (.next, (S_14 w os).abs, cod, ⟨112, 0, 112, 13⟩) := seg_go (n := 330) (N := 8010) (segGo_of (congrFun (st_13 w) os)) (ch_14 w os)
theorem ch_12 (w : World) (os : OsState) : segRun treeTable prg w 11 ann 1 8670 (SD 12 w os).abs (th 12) = some (.next, (S_14 w os).abs, cod, ⟨112, 0, 112, 13⟩) := seg_go (n := 330) (N := 8340) (segGo_of (congrFun (st_12 w) os)) (ch_13 w os)
theorem ch_11 (w : World) (os : OsState) : segRun treeTable prg w 11 ann 1 9000 (SD 11 w os).abs (th 11) = some (.next, (S_14 w os).abs, cod, ⟨112, 0, 112, 13⟩) := seg_go (n := 330) (N := 8670) (segGo_of (congrFun (st_11 w) os)) (ch_12 w os)
theorem ch_10 (w : World) (os : OsState) : segRun treeTable prg w 11 ann 1 9330 (SD 10 w os).abs (th 10) = some (.next, (S_14 w os).abs, cod, ⟨112, 0, 112, 13⟩) := seg_go (n := 330) (N := 9000) (segGo_of (congrFun (st_10 w) os)) (ch_11 w os)
theorem ch_9 (w : World) (os : OsState) : segRun treeTable prg w 11 ann 1 9660 (SD 9 w os).abs (th 9) = some (.next, (S_14 w os).abs, cod, ⟨112, 0, 112, 13⟩) := seg_go (n := 330) (N := 9330) (segGo_of (congrFun (st_9 w) os)) (ch_10 w os)
theorem ch_8 (w : World) (os : OsState) : segRun treeTable prg w 11 ann 1 9990 (SD 8 w os).abs (th 8) = some (.next, (S_14 w os).abs, cod, ⟨112, 0, 112, 13⟩) := seg_go (n := 330) (N := 9660) (segGo_of (congrFun (st_8 w) os)) (ch_9 w os)
theorem ch_7 (w : World) (os : OsState) : segRun treeTable prg w 11 ann 1 10320 (SD 7 w os).abs (th 7) = some (.next, (S_14 w os).abs, cod, ⟨112, 0, 112, 13⟩) := seg_go (n := 330) (N := 9990) (segGo_of (congrFun (st_7 w) os)) (ch_8 w os)
theorem ch_6 (w : World) (os : OsState) : segRun treeTable prg w 11 ann 1 10650 (SD 6 w os).abs (th 6) = some (.next, (S_14 w os).abs, cod, ⟨112, 0, 112, 13⟩) := seg_go (n := 330) (N := 10320) (segGo_of (congrFun (st_6 w) os)) (ch_7 w os)
theorem ch_5 (w : World) (os : OsState) : segRun treeTable prg w 11 ann 1 10980 (SD 5 w os).abs (th 5) = some (.next, (S_14 w os).abs, cod, ⟨112, 0, 112, 13⟩) := seg_go (n := 330) (N := 10650) (segGo_of (congrFun (st_5 w) os)) (ch_6 w os)
theorem ch_4 (w : World) (os : OsState) : segRun treeTable prg w 11 ann 1 11310 (SD 4 w os).abs (th 4) = some (.next, (S_14 w os).abs, cod, ⟨112, 0, 112, 13⟩) := seg_go (n := 330) (N := 10980) (segGo_of (congrFun (st_4 w) os)) (ch_5 w os)
theorem ch_3 (w : World) (os : OsState) : segRun treeTable prg w 11 ann 1 11640 (SD 3 w os).abs (th 3) = some (.next, (S_14 w os).abs, cod, ⟨112, 0, 112, 13⟩) := seg_go (n := 330) (N := 11310) (segGo_of (congrFun (st_3 w) os)) (ch_4 w os)
theorem ch_2 (w : World) (os : OsState) : segRun treeTable prg w 11 ann 1 11970 (SD 2 w os).abs (th 2) = some (.next, (S_14 w os).abs, cod, ⟨112, 0, 112, 13⟩) := seg_go (n := 330) (N := 11640) (segGo_of (congrFun (st_2 w) os)) (ch_3 w os)
theorem ch_1 (w : World) (os : OsState) : segRun treeTable prg w 11 ann 1 12300 (SD 1 w os).abs (th 1) = some (.next, (S_14 w os).abs, cod, ⟨112, 0, 112, 13⟩) := seg_go (n := 330) (N := 11970) (segGo_of (congrFun (st_1 w) os)) (ch_2 w os)
theorem ch_0 (w : World) (os : OsState) : segRun treeTable prg w 11 ann 1 12523 (SD 0 w os).abs (th 0) = some (.next, (S_14 w os).abs, cod, ⟨112, 0, 112, 13⟩) := seg_go (n := 223) (N := 12300) (segGo_of (congrFun (st_0 w) os)) (ch_1 w os)
theorem dd_00 (w : World) (os : OsState) : segGoT treeTable prg w 11 ann 1 2 (S_13 w os) (pieceOf (stm 14) env cod ⟨110, 0, 111, 30⟩ [topFrame q0]) = some (SD 0 w os, th 0) := by
  refine (congrFun (dd_0 w) os).trans ?_
  rw [dispS.2.2]
  rfl
theorem pc_14 (w : World) (os : OsState) : segRun treeTable prg w 11 ann 1 12525 (S_13 w os).abs (pieceOf (stm 14) env cod ⟨110, 0, 111, 30⟩ [topFrame q0]) = some (.next, (S_14 w os).abs, cod, ⟨112, 0, 112, 13⟩) :=
  seg_go (n := 2) (N := 12523) (segGo_of (dd_00 w os)) (ch_0 w os)
end
section
set_option maxRecDepth 100000
set_option maxHeartbeats 8000000
theorem pc_2 : ∀ w : World, (fun os => segRunT treeTable prg w 11 ann 1 342 (S_b w os) (piecesOf (sts 0 3) env cod ⟨0, 0, 0, 0⟩ [topFrame q0])) = fun os => some (.next, S_2 w os, cod, ⟨45, 0, 45, 8⟩) := by
  rw [PySem.W.Fast.te10110043849684766642, PySem.W.Fast.te14364793385576792824]
  intro w
  kernel_rfl
theorem pc_9 : ∀ w : World, (fun os => segRunT treeTable prg w 11 ann 1 414 (S_2 w os) (piecesOf (sts 3 7) env cod ⟨45, 0, 45, 8⟩ [topFrame q0])) = fun os => some (.next, S_9 w os, cod, ⟨79, 0, 96, 26⟩) := by
  rw [PySem.W.Fast.te10110043849684766642, PySem.W.Fast.te14364793385576792824]
  intro w
  kernel_rfl
theorem pc_11 : ∀ w : World, (fun os => segRunT treeTable prg w 11 ann 1 42 (S_9 w os) (piecesOf (sts 10 2) env cod ⟨79, 0, 96, 26⟩ [topFrame q0])) = fun os => some (.next, S_11 w os, cod, ⟨108, 0, 108, 8⟩) := by
  rw [PySem.W.Fast.te10110043849684766642, PySem.W.Fast.te14364793385576792824]
  intro w
  kernel_rfl
theorem pc_12 : ∀ w : World, (fun os => segRunT treeTable prg w 11 ann 1 999 (S_11 w os) (piecesOf (sts 12 1) env cod ⟨108, 0, 108, 8⟩ [topFrame q0])) = fun os => some (.next, S_12 w os, cod, ⟨109, 0, 109, 6⟩) := by
  rw [PySem.W.Fast.te10110043849684766642, PySem.W.Fast.te14364793385576792824]
  refine byRow2 "special-get-raises" ?_ ?_
  · intro w
    kernel_rfl
  · intro w
    kernel_rfl
theorem pc_13 : ∀ w : World, (fun os => segRunT treeTable prg w 11 ann 1 30 (S_12 w os) (piecesOf (sts 13 1) env cod ⟨109, 0, 109, 6⟩ [topFrame q0])) = fun os => some (.next, S_13 w os, cod, ⟨110, 0, 111, 30⟩) := by
  rw [PySem.W.Fast.te10110043849684766642, PySem.W.Fast.te14364793385576792824]
  intro w
  kernel_rfl
theorem pc_28 : ∀ w : World, (fun os => segRunT treeTable prg w 11 ann 1 408 (S_14 w os) (piecesOf (sts 15 14) env cod ⟨112, 0, 112, 13⟩ [topFrame q0])) = fun os => some (.next, S_28 w os, cod, ⟨209, 0, 217, 16⟩) := by
  rw [PySem.W.Fast.te10110043849684766642, PySem.W.Fast.te14364793385576792824]
  intro w
  kernel_rfl
theorem pc_30 : ∀ w : World, (fun os => segRunT treeTable prg w 11 ann 1 53 (S_28 w os) (piecesOf (sts 29 2) env cod ⟨209, 0, 217, 16⟩ [topFrame q0])) = fun os => some (.next, S_30 w os, cod, ⟨234, 0, 255, 40⟩) := by
  rw [PySem.W.Fast.te10110043849684766642, PySem.W.Fast.te14364793385576792824]
  intro w
  kernel_rfl
theorem pc_pre : ∀ w : World, (fun os => topGo treeTable prg w 11 ann 12 ⟨boot_heap w.params, #[], boot_drawn, boot_toks, os⟩ (topStub prg)) = fun os => some ((S_a w os).abs, ⟨denote treeTable cod, cod, ⟨0, 0, 0, 0⟩, [topFrame q0]⟩) := by
  intro w
  kernel_rfl
theorem pc_blk : ∀ w : World, (fun os => segRun treeTable prg w 11 ann 1 1 (S_a w os).abs (blockOf bdy env cod ⟨0, 0, 0, 0⟩ [topFrame q0])) = fun os => some (.next, (S_b w os).abs, cod, ⟨0, 0, 0, 0⟩) := by
  intro w
  kernel_rfl
theorem pc_fin : ∀ w : World, (fun os => topRun treeTable prg w 11 ann 2 (S_30 w os).abs ⟨doneF .next, cod, ⟨234, 0, 255, 40⟩, [topFrame q0]⟩) = fun os => some (S_f w os).abs := by
  intro w
  kernel_rfl
end
section
set_option maxRecDepth 100000
set_option maxHeartbeats 8000000
theorem bdy_all : bdy = sts 0 3 ++ (sts 3 7 ++ (sts 10 2 ++ (sts 12 1 ++ (sts 13 1 ++ (stm 14 :: (sts 15 14 ++ (sts 29 2 ++ []))))))) := by kernel_rfl
theorem run_rest (w : World) (os : OsState) : topRun treeTable prg w 11 ann (342 + (414 + (42 + (999 + (30 + (12525 + (408 + (53 + 2)))))))) (S_b w os).abs (restOf (sts 0 3 ++ (sts 3 7 ++ (sts 10 2 ++ (sts 12 1 ++ (sts 13 1 ++ (stm 14 :: (sts 15 14 ++ (sts 29 2 ++ [])))))))) env cod ⟨0, 0, 0, 0⟩ [topFrame q0]) = some (S_f w os).abs :=
  piece_app (segRun_of (congrFun (pc_2 w) os)) (piece_app (segRun_of (congrFun (pc_9 w) os)) (piece_app (segRun_of (congrFun (pc_11 w) os)) (piece_app (segRun_of (congrFun (pc_12 w) os)) (piece_app (segRun_of (congrFun (pc_13 w) os)) (piece_cons (pc_14 w os) (piece_app (segRun_of (congrFun (pc_28 w) os)) (piece_app (segRun_of (congrFun (pc_30 w) os)) (piece_nil (congrFun (pc_fin w) os)))))))))
theorem run_b (w : World) (os : OsState) : topRun treeTable prg w 11 ann (342 + (414 + (42 + (999 + (30 + (12525 + (408 + (53 + 2)))))))) (S_b w os).abs (restOf bdy env cod ⟨0, 0, 0, 0⟩ [topFrame q0]) = some (S_f w os).abs := by
  have e : restOf bdy env cod ⟨0, 0, 0, 0⟩ [topFrame q0] = restOf (sts 0 3 ++ (sts 3 7 ++ (sts 10 2 ++ (sts 12 1 ++ (sts 13 1 ++ (stm 14 :: (sts 15 14 ++ (sts 29 2 ++ [])))))))) env cod ⟨0, 0, 0, 0⟩ [topFrame q0] := congrArg (fun b => restOf b env cod ⟨0, 0, 0, 0⟩ [topFrame q0]) bdy_all
  rw [e]
  exact run_rest w os
theorem run (w : World) (os : OsState) : topRun treeTable prg w 11 ann (12 + (1 + (342 + (414 + (42 + (999 + (30 + (12525 + (408 + (53 + 2)))))))))) ⟨boot_heap w.params, #[], boot_drawn, boot_toks, os⟩ (topStub prg) = some (S_f w os).abs :=
  go_top (congrFun (pc_pre w) os) (piece_block (congrFun (pc_blk w) os) (run_b w os))
noncomputable def Hf (P : Params) : Heap := absHeap (T_f P) 267 (Life.mk [] [] [] 0 [] [] Bool.false #[] [] 0 Bool.false Bool.false Bool.false 0 [2000, 10, 10] Bool.false 0 Bool.true [] [] 0 Bool.false)
theorem opened (w : World) : (fencedOpening treeTable prg w 29736).map (fun s => (s.heap, s.gens, s.drawn, s.toks)) = some (boot_heap w.params, Array.mk [], boot_drawn, boot_toks) :=
  boot_open (by kernel_rfl) (by decide) (fun s => by kernel_rfl) w
theorem sized (w : World) : ((boot_heap w.params).isNs mainGlobals && (#[] : Array GenState).size == 0, (boot_heap w.params).objs.size, (boot_heap w.params).nsMap mainGlobals "__annotations__") = (true, 11, ann) := by kernel_rfl
theorem left_of {q : Program} {loose : List Str} {Xt : Shared → Bool} {α : Type} {Yf : Shared → α} {Ya : World → α} {g0 : Bool}
    (looks : ∀ w : World, (fun os => ((staticsOk (importedModules prg.main.body) (boot_heap w.params) (Hf w.params) && namesBound prg (Hf w.params) && gensDone ⟨Hf w.params, #[], (Drawn.mk 0 0 0 0), 2482, os⟩ && laidKept (boot_heap w.params) (Hf w.params)),
        openSeen q loose (importedModules prg.main.body) Xt g0 ⟨Hf w.params, #[], (Drawn.mk 0 0 0 0), 2482, os⟩, Yf ⟨Hf w.params, #[], (Drawn.mk 0 0 0 0), 2482, os⟩)) = fun _ => (true, openGood q loose, Ya w)) : LeftO prg q loose Xt Yf Ya 29736 g0 :=
  LeftO.of_pieces opened sized (fun w os => run w os) (by decide) looks
end
section
set_option maxRecDepth 100000
set_option maxHeartbeats 8000000
noncomputable abbrev sf (w : World) (os : OsState) : Shared := ⟨Hf w.params, #[], (Drawn.mk 0 0 0 0), 2482, os⟩
noncomputable def ilt (a b : Int) : Bool := match a, b with
  | .ofNat m, .ofNat n => Nat.blt m n
  | _, _ => false
theorem ilt_lt {a b : Int} (h : ilt a b = true) : a < b := by
  cases a with
  | ofNat m => cases b with
    | ofNat n =>
      have := Nat.le_of_ble_eq_true h
      exact Int.ofNat_lt.mpr this
    | negSucc n => cases h
  | negSucc m => cases b <;> cases h
noncomputable def risingInt : List (PyData × PyData) → Bool
  | [] => true
  | (.int a, _) :: r => (match r with
    | [] => true
    | (.int b, _) :: _ => ilt a b
    | _ => false) && risingInt r
  | _ => false
theorem rising_above : ∀ {D : List (PyData × PyData)} {a : Int} {d : PyData}, risingInt ((.int a, d) :: D) = true → ∀ k, k ≤ a → hasIntKey k D = false
  | [], _, _, _, _, _ => rfl
  | (.int b, d') :: r, a, d, h, k, hk => by
    unfold risingInt at h
    obtain ⟨h1, h2⟩ := Bool.and_eq_true_iff.mp h
    have hab : a < b := ilt_lt h1
    unfold hasIntKey
    rw [Bool.or_eq_false_iff]
    exact ⟨beq_eq_false_iff_ne.mpr (by omega), rising_above h2 k (by omega)⟩
  | (.none, _) :: _, _, _, h, _, _ => by simp [risingInt] at h
  | (.bool _, _) :: _, _, _, h, _, _ => by simp [risingInt] at h
  | (.str _, _) :: _, _, _, h, _, _ => by simp [risingInt] at h
  | (.list _, _) :: _, _, _, h, _, _ => by simp [risingInt] at h
  | (.tuple _, _) :: _, _, _, h, _, _ => by simp [risingInt] at h
  | (.dict _, _) :: _, _, _, h, _, _ => by simp [risingInt] at h
theorem rising_apart : ∀ {D : List (PyData × PyData)}, risingInt D = true → keysApartInt D = true
  | [], _ => rfl
  | (.int a, d) :: r, h => by
    have h' := h
    unfold risingInt at h
    obtain ⟨_, h2⟩ := Bool.and_eq_true_iff.mp h
    unfold keysApartInt
    rw [rising_above h' a (Int.le_refl _), rising_apart h2]
    rfl
  | (.none, _) :: _, h => by simp [risingInt] at h
  | (.bool _, _) :: _, h => by simp [risingInt] at h
  | (.str _, _) :: _, h => by simp [risingInt] at h
  | (.list _, _) :: _, h => by simp [risingInt] at h
  | (.tuple _, _) :: _, h => by simp [risingInt] at h
  | (.dict _, _) :: _, h => by simp [risingInt] at h
noncomputable def apartQ (D : List (PyData × PyData)) : Bool := match risingInt D with
  | true => true
  | false => keysApartInt D
theorem apartQ_eq : keysApartInt = apartQ := by
  funext D
  unfold apartQ
  cases h : risingInt D with
  | true => exact rising_apart h
  | false => rfl
theorem a1 (w : World) (os : OsState) : (staticsOk (importedModules prg.main.body) (boot_heap w.params) (Hf w.params) && namesBound prg (Hf w.params) && gensDone (sf w os) && laidKept (boot_heap w.params) (Hf w.params)) = true := by kernel_rfl
theorem seen_parts {q : Program} {loose mods : List Str} {Xt : Shared → Bool} {s : Shared}
    (c0 : seen ((recsOf q).map (·.name)) (ownsOf q) [] { s with gens := #[] } = expectedOf q) (c1 : s.heap.bltView = bltViewBooted)
    (d1 : (s.heap.keysOk (looseW q loose) ((recsOf q).map (·.name)) ((litsOf q).map (·.1)) ((clssOf q (looseW q loose)).map (·.name)) && s.heap.accountedOkI mods && s.heap.isNs mainGlobals && s.heap.isNs builtinsNs) = true)
    (d2 : tablesOk q s.heap = true) (d3 : Xt s = true) (d4 : (s.gens.size == 0) = true) (c3 : tabsOk q s = true)
    (c4 : pinSeenD q (drecsOf q) s = pinGoodD (drecsOf q)) (c5 : plainSeenE q (looseW q loose) s = plainGoodE q (looseW q loose)) (c6 : plainSeenD q loose s = plainGoodD q loose) (c7 : wideSeen q s = wideGood q) (c8 : clsSeenW q loose s = clsGoodW q loose) :
    openSeen q loose mods Xt true s = openGood q loose := by
  unfold openSeen openGood
  rw [c0, c1, d1, d2, d3, c3, c4, c5, c6, c7, c8]
  simp only [if_true, d4, Bool.and_true]
theorem looks_of {q : Program} {loose : List Str} {Xt : Shared → Bool} {α : Type} {Yf : Shared → α} {Ya : World → α}
    (h : ∀ w os, openSeen q loose (importedModules prg.main.body) Xt true (sf w os) = openGood q loose) (hy : ∀ w os, Yf (sf w os) = Ya w) : LeftO prg q loose Xt Yf Ya 29736 true :=
  left_of fun w => funext fun os => by rw [a1 w os, h w os, hy w os]
end
section
set_option maxRecDepth 100000
set_option maxHeartbeats 8000000
theorem ws : OpenLaw.wellSaid PySem.Challenge.rw_kl0050_01 = true := by
  unfold OpenLaw.wellSaid OpenRow.wellSaid OpenRow.partSaid looksOpen
  repeat' (with_reducible refine look_both ?_ ?_)
  all_goals decide +kernel
theorem both {A B C D : Prop} (_ : A) (_ : B) (_ : C) (d : D) : D := d
/-- for its by-products alone, the view and the written part of the top: whoever has everything has this -/
theorem hd1 (bad : ∀ P : Prop, P) : PySem.Challenge.rw_kl0050_01.Holds := by
  refine holds_law ws (fun said => ?_)
  refine' both ?hl ?hw ?hc ?main
  case' main => k_head
  all_goals exact bad _
end
section
set_option maxRecDepth 100000
set_option maxHeartbeats 8000000
noncomputable abbrev as9 : List Addr := [2, 3, 22, 24, 25, 27, 28, 29, 31, 32, 34, 35, 36, 38, 39, 41, 42, 43, 45, 46, 48, 49, 50, 51, 52, 53, 54, 64, 66, 67, 69, 70, 71, 72, 73, 74, 75, 78, 79, 80, 82, 83, 85, 86, 87, 89, 90, 92, 93, 94, 96, 97, 99, 100, 101, 103, 104, 106, 107, 108, 110, 111, 113, 114, 126, 128, 129, 131, 132, 133, 172, 174, 175, 177, 178, 179, 181, 182, 184, 185, 186, 188, 189, 191, 192, 193, 195, 196, 198, 199, 200, 203, 204, 205, 207, 208, 210, 211, 212, 215, 216, 217, 219, 220, 222, 223, 224, 226, 227, 229, 230, 231, 234, 235, 236, 238, 239, 241, 242, 243, 245, 246, 248, 249, 250, 252, 253, 255, 256, 257, 260, 261, 262, 265, 266]
noncomputable abbrev K9 := hd1.heap_1
noncomputable abbrev q9 := hd1.view_1
noncomputable abbrev lo9 : List Str := [Str.ofString "UNKNOWN", Str.ofString "b1_set", Str.ofString "b3_exceptions"]
theorem as9_eq : ∀ P, as9 = (K9 P).map (·.1) := fun _ => by kernel_rfl
noncomputable abbrev km9 : Hook := kmHook K9 as9 as9_eq [258, 206]
/-- what the walk knows of the heap behind the top: the written part, the two empty tables, the set of the table b1 -/
noncomputable def hook9 : Hook where
  α := km9.α × Option Obj
  obs := fun s => (km9.obs s, s.heap.get? 122)
  val := fun w => (km9.val w, some (o_12_122 w.params))
  says := fun w h => km9.says w h ∧ h.get? 122 = some (o_12_122 w.params)
  of := fun w s x => ⟨km9.of w s (Prod.mk.inj x).1, (Prod.mk.inj x).2⟩
  keeps := fun w h h' x k => ⟨km9.keeps w h h' x.1 k, k _ _ x.2⟩
noncomputable abbrev row9 : OpenRow := PySem.Challenge.rw_kl0050_01.row
noncomputable abbrev xt9 : Shared → Bool := fun s => xlAt q9 [] s && recOk (RowW.records row9.toRowW) s
theorem seen9 (w : World) (os : OsState) : openSeen q9 lo9 (importedModules prg.main.body) xt9 true (sf w os) = openGood q9 lo9 := by
  refine seen_parts ?_ ?_ ?_ ?_ ?_ ?_ ?_ ?_ ?_ ?_ ?_ ?_
  · kernel_rfl
  · kernel_rfl
  · kernel_rfl
  · unfold tablesOk Heap.tabIntOk
    rw [apartQ_eq]
    kernel_rfl
  all_goals kernel_rfl
theorem left9 : LeftO row9.prog q9 lo9 xt9 hook9.obs hook9.val 29736 :=
  looks_of seen9 fun w os => by kernel_rfl
theorem hd9 {d : DefRec} {kwd : List (Str × PySem.Expr)} (hdef : defOf q9 row9.name = some (d, kwd)) (hp : row9.prog.theDef row9.name = some (d.params, d.body, d.scope))
    (hk : kwWritten? d.params.kwonlyargs d.params.kw_defaults = some kwd)
    (call : WalkO q9 lo9 (XL q9 []) hook9.says row9.toRowW d kwd fun f vs => PySem.call f vs) : PySem.Challenge.rw_kl0050_01.Holds := by
  refine holds_law ws (fun said => ?_)
  refine holds_open (q := q9) (loose := lo9) (Xt := xt9) (XP := XL q9 []) (Yf := hook9.obs) (Ya := hook9.val) (YP := hook9.says) (N := 29736) left9 hook9.of hook9.keeps
    (fun s e => xl_of s (Bool.and_eq_true_iff.mp e).1) XL.keeps hdef hp hk (fun s e => recFacts_of (Bool.and_eq_true_iff.mp e).2) (by rfl) (by assumption) (by decide +kernel) ⟨rfl, rfl, rfl, rfl, rfl, by decide +kernel⟩ ?hw call
  case hw => w_witness2
end
section
set_option maxRecDepth 100000
noncomputable def alph : List Nat := [102, 115, 70, 83, 8497, 383, 64256, 223, 173, 847, 8203, 65279]
noncomputable def prep1 (c : Nat) : List Nat := if c = 102 ∨ c = 70 ∨ c = 8497 then [102] else if c = 115 ∨ c = 83 ∨ c = 383 then [115] else if c = 64256 then [102, 102] else if c = 223 then [115, 115] else []
noncomputable def prepL : List Nat → List Nat
  | [] => []
  | c :: r => prep1 c ++ prepL r
theorem prepL_app (a b : List Nat) : prepL (a ++ b) = prepL a ++ prepL b := by
  induction a with
  | nil => rfl
  | cons c r ih => simp [prepL, ih]
noncomputable def OkT (y : Str) (r : List Nat) : Prop := (∀ c ∈ y.cps.toList, c ∈ alph) ∧ prepL y.cps.toList = r
theorem ok_app {y z : Str} {r q : List Nat} (h : OkT y r) (h2 : OkT z q) : OkT (y ++ z) (r ++ q) := by
  have e : (y ++ z).cps.toList = y.cps.toList ++ z.cps.toList := by
    show (y.cps ++ z.cps).toList = _
    simp
  refine ⟨fun c hc => ?_, ?_⟩
  · rw [e] at hc
    rcases List.mem_append.mp hc with hc | hc
    · exact h.1 c hc
    · exact h2.1 c hc
  · rw [e, prepL_app, h.2, h2.2]
theorem box {G : Prop} (k : (G → False) → False) : G := Classical.byContradiction k
theorem pr2 {α β : Type} {P : α × β → Prop} (h : ∀ a b, P (a, b)) : ∀ c, P c := fun c => h c.1 c.2
theorem pr4 {α β γ δ : Type} {P : α × β × γ × δ → Prop} (h : ∀ a b c d, P (a, b, c, d)) : ∀ c, P c := fun c => h c.1 c.2.1 c.2.2.1 c.2.2.2
theorem pr22 {α β γ δ : Type} {P : (α × β) × γ × δ → Prop} (h : ∀ a b c d, P ((a, b), c, d)) : ∀ c, P c := fun c => h c.1.1 c.1.2 c.2.1 c.2.2
theorem lt5 : ∀ i : Nat, i < 5 → i = 0 ∨ i = 1 ∨ i = 2 ∨ i = 3 ∨ i = 4 := by decide
theorem lt6 : ∀ i : Nat, i < 6 → i = 0 ∨ i = 1 ∨ i = 2 ∨ i = 3 ∨ i = 4 ∨ i = 5 := by decide
theorem lt3 : ∀ i : Nat, i < 3 → i = 0 ∨ i = 1 ∨ i = 2 := by decide
theorem lt4 : ∀ i : Nat, i < 4 → i = 0 ∨ i = 1 ∨ i = 2 ∨ i = 3 := by decide
theorem ilt3 {i : Int} (h0 : 0 ≤ i) (h : i < 3) : i = 0 ∨ i = 1 ∨ i = 2 := by
  obtain ⟨n, rfl⟩ := Int.eq_ofNat_of_zero_le h0
  rcases lt3 n (Int.ofNat_lt.mp h) with rfl | rfl | rfl
  · exact .inl rfl
  · exact .inr (.inl rfl)
  · exact .inr (.inr rfl)
theorem ilt4 {i : Int} (h0 : 0 ≤ i) (h : i < 4) : i = 0 ∨ i = 1 ∨ i = 2 ∨ i = 3 := by
  obtain ⟨n, rfl⟩ := Int.eq_ofNat_of_zero_le h0
  rcases lt4 n (Int.ofNat_lt.mp h) with rfl | rfl | rfl | rfl
  · exact .inl rfl
  · exact .inr (.inl rfl)
  · exact .inr (.inr (.inl rfl))
  · exact .inr (.inr (.inr rfl))
theorem ilt6 {i : Int} (h0 : 0 ≤ i) (h : i < 6) : i = 0 ∨ i = 1 ∨ i = 2 ∨ i = 3 ∨ i = 4 ∨ i = 5 := by
  obtain ⟨n, rfl⟩ := Int.eq_ofNat_of_zero_le h0
  rcases lt6 n (Int.ofNat_lt.mp h) with rfl | rfl | rfl | rfl | rfl | rfl
  · exact .inl rfl
  · exact .inr (.inl rfl)
  · exact .inr (.inr (.inl rfl))
  · exact .inr (.inr (.inr (.inl rfl)))
  · exact .inr (.inr (.inr (.inr (.inl rfl))))
  · exact .inr (.inr (.inr (.inr (.inr rfl))))
theorem fmod6 (i : Int) : i.fmod 6 = 0 ∨ i.fmod 6 = 1 ∨ i.fmod 6 = 2 ∨ i.fmod 6 = 3 ∨ i.fmod 6 = 4 ∨ i.fmod 6 = 5 :=
  ilt6 (Int.fmod_nonneg_of_pos i (by decide)) (Int.fmod_lt_of_pos i (by decide))
theorem ok_f {i : Int} (h0 : 0 ≤ i) (h : i < 3) : OkT (Txt.item (Str.ofString "fFℱ") i) [102] := by
  have := ilt3 h0 h
  rcases this with rfl | rfl | rfl <;> (unfold OkT; decide +kernel)
theorem ok_s {i : Int} (h0 : 0 ≤ i) (h : i < 3) : OkT (Txt.item (Str.ofString "sSſ") i) [115] := by
  have := ilt3 h0 h
  rcases this with rfl | rfl | rfl <;> (unfold OkT; decide +kernel)
theorem ok_0 {i : Int} (h0 : 0 ≤ i) (h : i < 4) : OkT (Txt.item (Str.ofString "­͏​﻿") i) [] := by
  have := ilt4 h0 h
  rcases this with rfl | rfl | rfl | rfl <;> (unfold OkT; decide +kernel)
theorem ok_ff : OkT (Str.ofString "ﬀ") [102, 102] := by unfold OkT; decide +kernel
theorem ok_ss : OkT (Str.ofString "ß") [115, 115] := by unfold OkT; decide +kernel
theorem item_take {x : Str} {p : Nat} {a : Nat} (h : p < x.length) (e : Txt.item x p = ⟨#[a]⟩) : x.cps.toList.take (p + 1) = x.cps.toList.take p ++ [a] := by
  have h1 := PyProof.Rows.item_at (x := x) (i := p) (n := p) (by omega) (by omega) (by omega)
  rw [e] at h1
  have h2 : a = x.cps.getD p 0 := by simpa using h1
  have h3 : p < x.cps.size := h
  rw [List.take_add_one]
  congr 1
  rw [h2]
  simp [h3]
theorem slice_clip {x : Str} {i j : Int} (h : (x.length : Int) ≤ j) : Txt.slice x (some i) (some j) = Txt.slice x (some i) (some x.length) := by
  have : Builtin.Str.strSliceIndices (some i) (some j) 1 x.length = Builtin.Str.strSliceIndices (some i) (some (x.length : Int)) 1 x.length := by
    unfold Builtin.Str.strSliceIndices
    simp only [show (1 : Int) > 0 by decide, if_true]
    have e1 : max 0 (min (if j < 0 then j + (x.length : Int) else j) (x.length : Int)) = x.length := by split <;> omega
    have e2 : max 0 (min (if (x.length : Int) < 0 then (x.length : Int) + (x.length : Int) else (x.length : Int)) (x.length : Int)) = x.length := by split <;> omega
    rw [e1, e2]
  unfold Txt.slice
  rw [this]
theorem slice_take {x : Str} {p : Nat} {a b : Nat} (h : p < x.length) (e : Txt.slice x (some (p : Int)) (some ((p : Int) + 2)) = ⟨#[a, b]⟩) : p + 2 ≤ x.length ∧ x.cps.toList.take (p + 2) = x.cps.toList.take p ++ [a, b] := by
  have hs : x.cps.toList.length = x.length := by simp [Str.length]
  by_cases h2 : p + 2 ≤ x.length
  · refine ⟨h2, ?_⟩
    have h3 := slice_closes (x := x) (i := p) (j := (p : Int) + 2) ⟨by omega, by omega, by omega⟩
    rw [e] at h3
    have h4 : [a, b] = (x.cps.toList.drop p).take 2 := by
      have h5 := eq_of_beq h3
      have e1 : ((p : Int) + 2 - p).toNat = 2 := by omega
      have e2 : ((p : Int)).toNat = p := by omega
      rw [e1, e2] at h5
      have h6 := congrArg (fun s : Str => s.cps.toList) h5
      simpa using h6
    rw [h4, List.take_add]
  · rw [slice_clip (by omega)] at e
    have h3 := slice_closes (x := x) (i := p) (j := x.length) ⟨by omega, by omega, by omega⟩
    rw [e] at h3
    have h5 := eq_of_beq h3
    have h6 := congrArg (fun s : Str => s.cps.toList.length) h5
    simp at h6
    omega
theorem take_ff {x : Str} {p : Nat} (h : p < x.length) (e : Txt.slice x (some (p : Int)) (some ((p : Int) + 2)) = Str.ofString "ff") : p + 2 ≤ x.length ∧ x.cps.toList.take (p + 2) = x.cps.toList.take p ++ [102, 102] :=
  slice_take h (e.trans (by decide +kernel))
theorem take_ss {x : Str} {p : Nat} (h : p < x.length) (e : Txt.slice x (some (p : Int)) (some ((p : Int) + 2)) = Str.ofString "ss") : p + 2 ≤ x.length ∧ x.cps.toList.take (p + 2) = x.cps.toList.take p ++ [115, 115] :=
  slice_take h (e.trans (by decide +kernel))
theorem take_st {x : Str} {p : Nat} (hx : ∀ c ∈ x.cps.toList, c = 102 ∨ c = 115) (h : p < x.length) (e : Txt.slice x (some (p : Int)) (some ((p : Int) + 2)) = Str.ofString "st") : False := by
  have h1 := (slice_take h (e.trans (show _ = (⟨#[115, 116]⟩ : Str) by decide +kernel))).2
  have h2 : (116 : Nat) ∈ x.cps.toList.take (p + 2) := by rw [h1]; simp
  rcases hx _ (List.mem_of_mem_take h2) with h | h <;> exact absurd h (by decide)
theorem take_f {x : Str} {p : Nat} (h : p < x.length) (e : Txt.item x p = Str.ofString "f") : x.cps.toList.take (p + 1) = x.cps.toList.take p ++ [102] := item_take h (e.trans (by decide +kernel))
theorem take_s {x : Str} {p : Nat} (h : p < x.length) (e : Txt.item x p = Str.ofString "s") : x.cps.toList.take (p + 1) = x.cps.toList.take p ++ [115] := item_take h (e.trans (by decide +kernel))
theorem take_fs {x : Str} {p : Nat} (hx : ∀ c ∈ x.cps.toList, c = 102 ∨ c = 115) (h : p < x.length) : Txt.item x p = Str.ofString "f" ∨ Txt.item x p = Str.ofString "s" := by
  have h1 := PyProof.Rows.item_at (x := x) (i := p) (n := p) (by omega) (by omega) (by omega)
  have h3 : p < x.cps.size := h
  have h2 : x.cps.getD p 0 ∈ x.cps.toList := by simp [h3]
  rcases hx _ h2 with e | e
  · left; rw [h1, e]; decide +kernel
  · right; rw [h1, e]; decide +kernel
theorem ne_tf : ¬ Str.ofString "f" = Str.ofString "t" := by decide +kernel
theorem ne_ts : ¬ Str.ofString "s" = Str.ofString "t" := by decide +kernel
theorem ok_nil : OkT (Str.ofString "") [] := by unfold OkT; decide +kernel
theorem len_app (a b : Str) : (a ++ b).length = a.length + b.length := by
  show (a.cps ++ b.cps).size = _
  simp [Str.length]
theorem len_ff : (Str.ofString "ﬀ").length = 1 := by decide +kernel
theorem len_ss : (Str.ofString "ß").length = 1 := by decide +kernel
noncomputable abbrev SpJ (x : Str) (c : Str × Tok × Nat × Tok × Int × Tok) : Prop := c.2.2.1 ≤ x.length ∧ 0 ≤ c.2.2.2.2.1 ∧ c.2.2.2.2.1 < 1000000 ∧ c.1.length ≤ 2 * c.2.2.1 ∧ OkT c.1 (x.cps.toList.take c.2.2.1)
theorem sp_div {nu : Int} (h : 0 ≤ nu) (h2 : nu < 1000000) : 0 ≤ nu.fdiv 5 ∧ nu.fdiv 5 < 1000000 := by
  rw [Int.fdiv_eq_ediv_of_nonneg _ (by decide)]; omega
theorem sp_mod {nu : Int} : 0 ≤ (nu.fmod 5).fmod 3 ∧ (nu.fmod 5).fmod 3 < 3 := by
  rw [Int.fmod_eq_emod_of_nonneg _ (by decide)]; omega
theorem sp_mod4 {nu : Int} : 0 ≤ nu.fmod 4 ∧ nu.fmod 4 < 4 := by
  rw [Int.fmod_eq_emod_of_nonneg _ (by decide)]; omega
theorem sp_two {x y z : Str} {pl : Nat} {nu : Int} {t1 t2 t3 : Tok} {r : List Nat} (J : OkT y (x.cps.toList.take pl)) (hl : y.length ≤ 2 * pl) (h2 : 0 ≤ nu) (h3 : nu < 1000000) (ht : pl + 2 ≤ x.length ∧ x.cps.toList.take (pl + 2) = x.cps.toList.take pl ++ r) (oz : OkT z r) (hz : z.length = 1) :
    SpJ x (y ++ z, t1, pl + 2, t2, nu.fdiv 5, t3) := by
  refine ⟨ht.1, (sp_div h2 h3).1, (sp_div h2 h3).2, ?_, ?_⟩
  · show (y ++ z).length ≤ 2 * (pl + 2)
    rw [len_app]; omega
  · show OkT (y ++ z) _
    rw [ht.2]; exact ok_app J oz
theorem sp_one {x y z : Str} {pl : Nat} {nu : Int} {t1 t2 t3 : Tok} {r : List Nat} (J : OkT y (x.cps.toList.take pl)) (hl : y.length ≤ 2 * pl) (h2 : 0 ≤ nu) (h3 : nu < 1000000) (hp : pl < x.length) (ht : x.cps.toList.take (pl + 1) = x.cps.toList.take pl ++ r) (oz : OkT z r) (hz : z.length = 1) :
    SpJ x (y ++ z, t1, pl + 1, t2, nu.fdiv 5, t3) := by
  refine ⟨hp, (sp_div h2 h3).1, (sp_div h2 h3).2, ?_, ?_⟩
  · show (y ++ z).length ≤ 2 * (pl + 1)
    rw [len_app]; omega
  · show OkT (y ++ z) _
    rw [ht]; exact ok_app J oz
theorem sp_one2 {x y z z' : Str} {pl : Nat} {nu : Int} {t1 t2 t3 : Tok} {r : List Nat} (J : OkT y (x.cps.toList.take pl)) (hl : y.length ≤ 2 * pl) (h2 : 0 ≤ nu) (h3 : nu < 1000000) (hp : pl < x.length) (ht : x.cps.toList.take (pl + 1) = x.cps.toList.take pl ++ r) (oz' : OkT z' []) (hz' : z'.length = 1) (oz : OkT z r) (hz : z.length = 1) :
    SpJ x (y ++ z' ++ z, t1, pl + 1, t2, nu.fdiv 5, t3) := by
  refine ⟨hp, (sp_div h2 h3).1, (sp_div h2 h3).2, ?_, ?_⟩
  · show (y ++ z' ++ z).length ≤ 2 * (pl + 1)
    rw [len_app, len_app]; omega
  · show OkT (y ++ z' ++ z) _
    rw [ht]
    have h9 := ok_app J oz'
    rw [List.append_nil] at h9
    exact ok_app h9 oz
noncomputable def catL (ts : List Str) : List Nat := (ts.map fun t => t.cps.toList).flatten
theorem catL_snoc (ts : List Str) (t : Str) : catL (ts ++ [t]) = catL ts ++ t.cps.toList := by simp [catL]
theorem join_cat : ∀ ts : List Str, Str.join (Str.ofString "") ts = ⟨(catL ts).toArray⟩
  | [] => rfl
  | [x] => by show x = _; simp [catL]
  | x :: y :: r => by
    show x ++ Str.ofString "" ++ Str.join (Str.ofString "") (y :: r) = _
    rw [join_cat (y :: r)]
    have e : (Str.ofString "" : Str) = ⟨#[]⟩ := by decide +kernel
    rw [e]
    show (⟨x.cps ++ #[] ++ (catL (y :: r)).toArray⟩ : Str) = _
    simp [catL]
theorem join_cat' (ts : List Str) : Txt.join (Str.ofString "") ts = ⟨(catL ts).toArray⟩ := by
  unfold Txt.join
  rw [StrLaws.glued_eq_join, join_cat]
theorem catL_len (ts : List Str) : (catL ts).length = (ts.map (·.length)).sum := by
  induction ts with
  | nil => rfl
  | cons x r ih => simp [catL] at ih ⊢; rw [ih]; simp [Str.length]
theorem prep1_len (c : Nat) : (prep1 c).length ≤ 2 := by
  unfold prep1; repeat' split
  all_goals simp
theorem prepL_len (l : List Nat) : (prepL l).length ≤ 2 * l.length := by
  induction l with
  | nil => simp [prepL]
  | cons c r ih => have := prep1_len c; simp [prepL]; omega
theorem prepL_step {l : List Nat} {i c : Nat} (h : l[i]? = some c) : prepL (l.take (i + 1)) = prepL (l.take i) ++ prep1 c := by
  rw [List.take_add_one, h, prepL_app]; simp [prepL]
theorem strsAre_snoc : ∀ {ys : List Value} {ts : List Str} {t : Str} {u : Tok}, StrsAre ys ts → StrsAre (ys ++ [.str t u]) (ts ++ [t])
  | _, _, _, _, .nil => .cons _ _ .nil
  | _, _, _, _, .cons _ _ h => .cons _ _ (strsAre_snoc h)
theorem intsAre_snoc : ∀ {ys : List Value} {ts : List Int} {t : Int} {u : Tok}, IntsAre ys ts → IntsAre (ys ++ [.int t u]) (ts ++ [t])
  | _, _, _, _, .nil => .cons _ _ .nil
  | _, _, _, _, .cons _ _ h => .cons _ _ (intsAre_snoc h)
theorem off1_ne {D : Addr} : ∀ {l : List (Addr × Obj)}, LCg.Off1 D l → ∀ p ∈ l, p.1 ≠ D
  | [], _, _, h => nomatch h
  | _ :: _, x, p, h => by
    rcases List.mem_cons.mp h with rfl | h
    · exact x.1
    · exact off1_ne x.2 p h
theorem ints6 {ys : List Value} {ns : List Int} (h : IntsAre ys ns) (hl : ns.length = 6) : ∃ (x0 x1 x2 x3 x4 x5 : Int) (t0 t1 t2 t3 t4 t5 : Tok), ys = [.int x0 t0, .int x1 t1, .int x2 t2, .int x3 t3, .int x4 t4, .int x5 t5] ∧ ns = [x0, x1, x2, x3, x4, x5] := by
  match ns, hl with
  | [x0, x1, x2, x3, x4, x5], _ =>
    obtain ⟨t0, v0, e0, h0⟩ := h.cons_inv
    obtain ⟨t1, v1, e1, h1⟩ := h0.cons_inv
    obtain ⟨t2, v2, e2, h2⟩ := h1.cons_inv
    obtain ⟨t3, v3, e3, h3⟩ := h2.cons_inv
    obtain ⟨t4, v4, e4, h4⟩ := h3.cons_inv
    obtain ⟨t5, v5, e5, h5⟩ := h4.cons_inv
    have e6 := h5.nil_inv
    subst e6 e5 e4 e3 e2 e1 e0
    exact ⟨_, _, _, _, _, _, _, _, _, _, _, _, rfl, rfl⟩
noncomputable def startStep (u : List Int) (x : Int) : List Int := u ++ [x.fmod (u.getLast?.getD 0 + 2)]
noncomputable abbrev startsG (xs : List Int) : List Int := xs.foldl startStep [0]
theorem startsG_snoc {xs : List Int} {i : Nat} {x : Int} (h : xs[i]? = some x) : startsG (xs.take (i + 1)) = startStep (startsG (xs.take i)) x := by
  rw [List.take_add_one, h, startsG, List.foldl_append]; rfl
theorem startsG_len (xs : List Int) : (startsG xs).length = xs.length + 1 := by
  have : ∀ (xs : List Int) u, (xs.foldl startStep u).length = xs.length + u.length := by
    intro xs
    induction xs with
    | nil => intro u; simp
    | cons a r ih => intro u; rw [List.foldl_cons, ih]; simp [startStep]; omega
  simpa using this xs [0]
theorem ints1 {ys : List Value} {ns : List Int} (h : IntsAre ys ns) (hl : ns.length = 1) : ∃ (x0 : Int) (t0 : Tok), ys = [.int x0 t0] ∧ ns = [x0] := by
  match ns, hl with
  | [x0], _ =>
    obtain ⟨t0, v0, e0, h0⟩ := h.cons_inv
    have e1 := h0.nil_inv
    subst e1 e0
    exact ⟨_, _, rfl, rfl⟩
theorem ints2 {ys : List Value} {ns : List Int} (h : IntsAre ys ns) (hl : ns.length = 2) : ∃ (x0 x1 : Int) (t0 t1 : Tok), ys = [.int x0 t0, .int x1 t1] ∧ ns = [x0, x1] := by
  match ns, hl with
  | [x0, x1], _ =>
    obtain ⟨t0, v0, e0, h0⟩ := h.cons_inv
    obtain ⟨t1, v1, e1, h1⟩ := h0.cons_inv
    have e2 := h1.nil_inv
    subst e2 e1 e0
    exact ⟨_, _, _, _, rfl, rfl⟩
theorem ints3 {ys : List Value} {ns : List Int} (h : IntsAre ys ns) (hl : ns.length = 3) : ∃ (x0 x1 x2 : Int) (t0 t1 t2 : Tok), ys = [.int x0 t0, .int x1 t1, .int x2 t2] ∧ ns = [x0, x1, x2] := by
  match ns, hl with
  | [x0, x1, x2], _ =>
    obtain ⟨t0, v0, e0, h0⟩ := h.cons_inv
    obtain ⟨t1, v1, e1, h1⟩ := h0.cons_inv
    obtain ⟨t2, v2, e2, h2⟩ := h1.cons_inv
    have e3 := h2.nil_inv
    subst e3 e2 e1 e0
    exact ⟨_, _, _, _, _, _, rfl, rfl⟩
theorem ints4 {ys : List Value} {ns : List Int} (h : IntsAre ys ns) (hl : ns.length = 4) : ∃ (x0 x1 x2 x3 : Int) (t0 t1 t2 t3 : Tok), ys = [.int x0 t0, .int x1 t1, .int x2 t2, .int x3 t3] ∧ ns = [x0, x1, x2, x3] := by
  match ns, hl with
  | [x0, x1, x2, x3], _ =>
    obtain ⟨t0, v0, e0, h0⟩ := h.cons_inv
    obtain ⟨t1, v1, e1, h1⟩ := h0.cons_inv
    obtain ⟨t2, v2, e2, h2⟩ := h1.cons_inv
    obtain ⟨t3, v3, e3, h3⟩ := h2.cons_inv
    have e4 := h3.nil_inv
    subst e4 e3 e2 e1 e0
    exact ⟨_, _, _, _, _, _, _, _, rfl, rfl⟩
theorem ints5 {ys : List Value} {ns : List Int} (h : IntsAre ys ns) (hl : ns.length = 5) : ∃ (x0 x1 x2 x3 x4 : Int) (t0 t1 t2 t3 t4 : Tok), ys = [.int x0 t0, .int x1 t1, .int x2 t2, .int x3 t3, .int x4 t4] ∧ ns = [x0, x1, x2, x3, x4] := by
  match ns, hl with
  | [x0, x1, x2, x3, x4], _ =>
    obtain ⟨t0, v0, e0, h0⟩ := h.cons_inv
    obtain ⟨t1, v1, e1, h1⟩ := h0.cons_inv
    obtain ⟨t2, v2, e2, h2⟩ := h1.cons_inv
    obtain ⟨t3, v3, e3, h3⟩ := h2.cons_inv
    obtain ⟨t4, v4, e4, h4⟩ := h3.cons_inv
    have e5 := h4.nil_inv
    subst e5 e4 e3 e2 e1 e0
    exact ⟨_, _, _, _, _, _, _, _, _, _, rfl, rfl⟩
theorem startsG_bd (xs : List Int) : ∀ n ∈ startsG xs, 0 ≤ n ∧ n ≤ xs.length := by
  have key : ∀ (xs : List Int) (u : List Int) (b : Nat), u ≠ [] → (∀ n ∈ u, 0 ≤ n ∧ n ≤ (b : Int)) → ∀ n ∈ xs.foldl startStep u, 0 ≤ n ∧ n ≤ ((b + xs.length : Nat) : Int) := by
    intro xs
    induction xs with
    | nil => intro u b _ h; simpa using h
    | cons a r ih =>
      intro u b hne h
      rw [List.foldl_cons]
      have hl : 0 ≤ u.getLast?.getD 0 ∧ u.getLast?.getD 0 ≤ (b : Int) := by
        rw [List.getLast?_eq_getLast hne]
        exact h _ (List.getLast_mem hne)
      have := ih (startStep u a) (b + 1) (by simp [startStep]) (fun n hn => by
        rcases List.mem_append.mp hn with hn | hn
        · have := h n hn; omega
        · obtain rfl := List.mem_singleton.mp hn
          rw [Int.fmod_eq_emod_of_nonneg _ (by omega)]
          have h1 := Int.emod_nonneg a (show u.getLast?.getD 0 + 2 ≠ 0 by omega)
          have h2 := Int.emod_lt_of_pos a (show 0 < u.getLast?.getD 0 + 2 by omega)
          omega)
      intro n hn
      have := this n hn
      simp only [List.length_cons]
      omega
  have := key xs [0] 0 (by simp) (by simp)
  simpa using this
theorem ne_eta (X : Str) : ((⟨X.cps⟩ : Str) != X) = false := by cases X; simp
theorem range_size {M : Int} (h : 0 ≤ M) : Builtin.Range.rangeSize 0 (M + 1) 1 = (((M + 1).toNat : Nat) : Int) := by
  unfold Builtin.Range.rangeSize
  split <;> simp_all
  all_goals omega
theorem range_small {M : Int} (h : 0 ≤ M) (h2 : M ≤ 1000) : Builtin.Range.small 0 (M + 1) 1 = true := by
  unfold Builtin.Range.small
  rw [range_size h]
  simp [Builtin.Range.rangeFitsLong]
  omega
noncomputable def octs (c : Nat) : List Int := if c < 4096 then [c / 64 + 64, c % 64] else [c / 4096 + 64, c / 64 % 64 + 64, c % 64]
noncomputable abbrev octetsF (l : List Nat) : List Int := l.foldl (fun u c => u ++ octs c) []
noncomputable def octOff (l : List Nat) : Nat := (l.map fun c => (octs c).length).sum
theorem octetsF_go (l : List Nat) : ∀ u, l.foldl (fun u c => u ++ octs c) u = u ++ l.flatMap octs := by
  induction l with
  | nil => intro u; simp
  | cons c r ih => intro u; rw [List.foldl_cons, ih, List.flatMap_cons, List.append_assoc]
theorem octetsF_flat (l : List Nat) : octetsF l = l.flatMap octs := by rw [octetsF, octetsF_go, List.nil_append]
theorem octOff_len (l : List Nat) : octOff l = (l.flatMap octs).length := by
  induction l with
  | nil => rfl
  | cons c r ih => rw [List.flatMap_cons, List.length_append, ← ih]; rfl
theorem octOff_snoc (l : List Nat) (c : Nat) : octOff (l ++ [c]) = octOff l + (octs c).length := by simp [octOff]
theorem octets_at {l : List Nat} {j : Nat} {c : Nat} (h : l[j]? = some c) : ∀ k, k < (octs c).length → (octetsF l)[octOff (l.take j) + k]? = (octs c)[k]? := by
  intro k hk
  have hj := (List.getElem?_eq_some_iff.mp h).1
  have e : l = l.take j ++ c :: l.drop (j + 1) := by
    have := (List.getElem?_eq_some_iff.mp h).2
    rw [← this, List.getElem_cons_drop, List.take_append_drop]
  have e2 : l.flatMap octs = (l.take j).flatMap octs ++ (octs c ++ (l.drop (j + 1)).flatMap octs) := by
    rw [← List.flatMap_cons, ← List.flatMap_append, ← e]
  rw [octetsF_flat, octOff_len, e2]
  rw [List.getElem?_append_right (Nat.le_add_right _ _), Nat.add_sub_cancel_left, List.getElem?_append_left hk]
theorem octets_end (l : List Nat) : (octetsF l)[octOff l]? = none := by
  rw [octetsF_flat, octOff_len]; simp
end
theorem top_off : True := by
  w_top off
  exact True.intro
set_option maxRecDepth 100000
theorem all_lt {l : Addr} {big small : List (Addr × Obj)} (h : ∀ p ∈ big, p.1 < l) (hs : ∀ p ∈ small, p ∈ big) : ∀ p ∈ small, p.1 ≠ l := fun p hp => Nat.ne_of_lt (h p (hs p hp))
theorem allLt_ne {d : Addr} : ∀ {l : List (Addr × Obj)}, AllLt d l → ∀ p ∈ l, p.1 ≠ d
  | [], _, _, h => nomatch h
  | q :: r, x, p, h => by
    rcases List.mem_cons.mp h with rfl | h
    · exact Nat.ne_of_lt x.1
    · exact Mine.allLt_ne x.2 p h
theorem ne_cls {h₀ h : Heap} {L : Addr} {news : List (Addr × Obj)} (N : News h₀ L h news) {a b : Addr} {o o' : Obj} (hp : (a, o) ∈ news) (hq : (b, o') ∈ news) (hc : o.cls ≠ o'.cls) : a ≠ b := by
  intro e
  subst e
  have h1 := (N _ hp).1
  have h2 := (N _ hq).1
  rw [h1] at h2
  exact hc (congrArg Obj.cls (Option.some.inj h2))
theorem all_succ {l : Addr} {r : List (Addr × Obj)} (h : ∀ p ∈ r, p.1 < l) : ∀ p ∈ r, p.1 ≠ l + 1 := fun p hp => Nat.ne_of_lt (Nat.lt_succ_of_lt (h p hp))
theorem allLt_succ {d : Addr} : ∀ {l : List (Addr × Obj)}, AllLt d l → ∀ p ∈ l, p.1 ≠ d + 1
  | [], _, _, h => nomatch h
  | q :: r, x, p, h => by
    rcases List.mem_cons.mp h with rfl | h
    · exact Nat.ne_of_lt (Nat.lt_succ_of_lt x.1)
    · exact Mine.allLt_succ x.2 p h
theorem all_app {l : Addr} {a b : List (Addr × Obj)} (h : ∀ p ∈ a, p.1 ≠ l) (h2 : ∀ p ∈ b, p.1 ≠ l) : ∀ p ∈ a ++ b, p.1 ≠ l := fun p hp => (List.mem_append.mp hp).elim (h p) (h2 p)
theorem all_rest {l : Addr} {o : Obj} {rest led : List (Addr × Obj)} (h : ∀ p ∈ rest, ∀ q ∈ led, p.1 ≠ q.1) (hq : (l, o) ∈ led) : ∀ p ∈ rest, p.1 ≠ l := fun p hp => h p hp _ hq
theorem sub_nil {news : List (Addr × Obj)} : ∀ q ∈ ([] : List (Addr × Obj)), q ∈ news := fun _ h => nomatch h
theorem sub_cons {p : Addr × Obj} {r news : List (Addr × Obj)} (h : p ∈ news) (t : ∀ q ∈ r, q ∈ news) : ∀ q ∈ p :: r, q ∈ news := fun q hq => (List.mem_cons.mp hq).elim (fun e => e ▸ h) (t q)
inductive Mine.Stop : Prop → Prop
  | it {M A x Q E s} : Mine.Stop (wpAny M A (pyIter x) Q E s)
  | wh {M A a b c d env Q E s} : Mine.Stop (wpAny M A (exec (Stmt.While a b c d) env) Q E s)
  | fo {M A a b c d e env Q E s} : Mine.Stop (wpAny M A (exec (Stmt.For a b c d e) env) Q E s)
  | sr {a1 a2 a3 a4 a5 a6 a7 a8 a9 a10 a11 a12 a13 a14} : Mine.Stop (LCg.CompSrc a1 a2 a3 a4 a5 a6 a7 a8 a9 a10 a11 a12 a13 a14)
  | lc {M A a b c d env Q E s} : Mine.Stop (wpAny M A (eval (PySem.Expr.ListComp a b c d) env) Q E s)
theorem stop_of {P : Prop} (_ : Mine.Stop P) (k : P) : P := k
local macro_rules | `(tactic| k_all) => `(tactic| first | assumption | exact Mine.allLt_ne (by (first | assumption | exact And.right ‹_ ∧ AllLt _ _› | exact And.right (And.right ‹_ ∧ _ ∧ AllLt _ _›) | exact And.right (And.right (And.right ‹_ ∧ _ ∧ _ ∧ AllLt _ _›)) | exact And.right (And.right (And.right (And.right ‹_ ∧ _ ∧ _ ∧ _ ∧ AllLt _ _›))) | exact And.right (And.right (And.right (And.right (And.right ‹_ ∧ _ ∧ _ ∧ _ ∧ _ ∧ AllLt _ _›)))))) | exact Mine.all_succ (by assumption) | exact Mine.allLt_succ (by (first | assumption | exact And.right ‹_ ∧ AllLt _ _› | exact And.right (And.right ‹_ ∧ _ ∧ AllLt _ _›) | exact And.right (And.right (And.right ‹_ ∧ _ ∧ _ ∧ AllLt _ _›)) | exact And.right (And.right (And.right (And.right ‹_ ∧ _ ∧ _ ∧ _ ∧ AllLt _ _›))) | exact And.right (And.right (And.right (And.right (And.right ‹_ ∧ _ ∧ _ ∧ _ ∧ _ ∧ AllLt _ _›)))))) | (refine' Mine.all_rest ?hr ?hq; (case hr => assumption); (case hq => k_mem)) | (refine' Mine.all_app ?a ?b; (case a => k_all); (case b => k_all)) | (refine Mine.all_lt (by assumption) ?_; intro p hp; repeat (first | exact hp | apply List.mem_cons_of_mem)))
local macro_rules | `(tactic| k_ne) => `(tactic| first | ((refine neN ?_); (try dsimp only); omega) | ((rename News _ _ _ _ => hNne); (refine' Mine.ne_cls hNne ?hp ?hq ?hc; (case hp => k_mem); (case hq => k_mem); (case hc => (intro h; injection h with h; exact absurd h (by decide))))))
noncomputable abbrev Led := List (Addr × Obj)
noncomputable abbrev Map := Str → Option Value
noncomputable abbrev lo := looseW hd1.view_1 [Str.ofString "UNKNOWN", Str.ofString "b1_set", Str.ofString "b3_exceptions"]
noncomputable abbrev prgB := PySem.Challenge.rw_kl0050_01.row.prog

noncomputable def bindP (m : Map) : List (Str × Option Value) → Map
  | [], y => m y
  | p :: r, y => if y = p.1 then p.2 else bindP m r y
noncomputable def PsAll (m' : Map) : List (Str × Option Value) → Prop
  | [] => True
  | (k, v) :: r => m' k = v ∧ PsAll m' r
noncomputable def ksHas (ks : List Str) (y : Str) : Bool := match ks with
  | [] => false
  | k :: r => if y = k then true else ksHas r y
noncomputable def ksAll (L : List Str) : List Str → Bool
  | [] => true
  | k :: r => ksHas L k && ksAll L r
theorem off_ne {L : List Str} {y k : Str} (hy : ksHas L y = false) (hk : ksHas L k = true) : ¬ y = k := fun e => by
  rw [e, hk] at hy; cases hy
theorem off_has {L : List Str} {y : Str} (hy : ksHas L y = false) : ∀ {xs : List Str}, ksAll L xs = true → ksHas xs y = false
  | [], _ => rfl
  | k :: r, h => by
    unfold ksAll at h
    rw [Bool.and_eq_true] at h
    unfold ksHas
    rw [if_neg (off_ne hy h.1)]
    exact off_has hy h.2
theorem off_step {c : Prop} [Decidable c] {a b d : Option Value} (hc : ¬ c) (h : b = d) : (if c then a else b) = d := by rw [if_neg hc]; exact h
theorem off_step2 {L xs : List Str} {y : Str} {a b d : Option Value} (hy : ksHas L y = false) (hx : ksAll L xs = true) (h : b = d) : (if ksHas xs y = true then a else b) = d := by
  rw [if_neg (by rw [off_has hy hx]; exact Bool.noConfusion)]; exact h
theorem off_bind {L : List Str} {y : Str} {mm : Map} {d : Option Value} (hy : ksHas L y = false) : ∀ {ps : List (Str × Option Value)}, ksAll L (ps.map (·.1)) = true → mm y = d → bindP mm ps y = d
  | [], _, h => h
  | p :: r, hk, h => by
    rw [List.map_cons] at hk
    unfold ksAll at hk
    rw [Bool.and_eq_true] at hk
    unfold bindP
    rw [if_neg (off_ne hy hk.1)]
    exact off_bind hy hk.2 h
theorem ksHas_app {y : Str} : ∀ {a b : List Str}, ksHas a y = false → ksHas b y = false → ksHas (a ++ b) y = false
  | [], _, _, h => h
  | k :: r, b, h, h2 => by
    rw [List.cons_append]
    unfold ksHas at h ⊢
    by_cases e : y = k
    · rw [if_pos e] at h; cases h
    · rw [if_neg e] at h ⊢; exact ksHas_app h h2
theorem mpL {xs : List Str} {m' mm : Map} {ps : List (Str × Option Value)} (h1 : PsAll m' ps) (h2 : ∀ y, ksHas (xs ++ ps.map (·.1)) y = false → m' y = mm y) : ∀ y, ksHas xs y = false → m' y = bindP mm ps y := by
  intro y hy
  have : ∀ (ps : List (Str × Option Value)), PsAll m' ps → (ksHas (ps.map (·.1)) y = false → m' y = mm y) → m' y = bindP mm ps y := by
    intro ps
    induction ps with
    | nil => intro _ h; exact h rfl
    | cons p r ih =>
      intro h1 h2
      unfold bindP
      by_cases e : y = p.1
      · rw [if_pos e, e]; exact h1.1
      · rw [if_neg e]
        refine ih h1.2 fun h => h2 ?_
        rw [List.map_cons]
        unfold ksHas
        rw [if_neg e]; exact h
  exact this ps h1 fun h => h2 y (ksHas_app hy h)
theorem nmTl {h₀ h : Heap} {L : Addr} {p q : Addr × Obj} {r : Led} (_ : News h₀ L h (p :: q :: r)) : ∃ l, l = r := ⟨_, rfl⟩
theorem nmAll {h₀ h : Heap} {L : Addr} {r : Led} (_ : News h₀ L h r) : ∃ l, l = r := ⟨_, rfl⟩
theorem nm1 {h₀ h : Heap} {L : Addr} {a : Addr} {o : Obj} {r : Led} (_ : News h₀ L h ((a, o) :: r)) : ∃ b, b = a := ⟨_, rfl⟩
theorem nm2 {h₀ h : Heap} {L : Addr} {p : Addr × Obj} {a : Addr} {o : Obj} {r : Led} (_ : News h₀ L h (p :: (a, o) :: r)) : ∃ b, b = a := ⟨_, rfl⟩
theorem nm3 {h₀ h : Heap} {L : Addr} {p q : Addr × Obj} {a : Addr} {o : Obj} {r : Led} (_ : News h₀ L h (p :: q :: (a, o) :: r)) : ∃ b, b = a := ⟨_, rfl⟩
theorem news_swap {h₀ h : Heap} {L : Addr} {a b : List (Addr × Obj)} (N : News h₀ L h (a ++ b)) : News h₀ L h (b ++ a) :=
  fun p hp => N p ((List.mem_append.mp hp).elim (fun h => List.mem_append.mpr (.inr h)) fun h => List.mem_append.mpr (.inl h))
theorem news_sub {h₀ h : Heap} {L : Addr} {a b : List (Addr × Obj)} (N : News h₀ L h a) (hs : ∀ p ∈ b, p ∈ a) : News h₀ L h b := fun p hp => N p (hs p hp)

theorem all_ne {l : Addr} {news rest : Led} (h : ∀ p ∈ news, p.1 < l) (hr : ∀ p ∈ rest, p.1 ≠ l) : ∀ p ∈ news ++ rest, p.1 ≠ l := fun p hp =>
  (List.mem_append.mp hp).elim (fun q => Nat.ne_of_lt (h p q)) (hr p)
/-- the end of a loop's turn: what the loop's state becomes -/
noncomputable def TurnEnd {σ : Type} (h₀ : Heap) (L : Addr) (xs : List Str) (mp : σ → Map) (led : σ → Led) (rest : Led) (adr : List Addr) (J : σ → Prop) (s : Shared) (Q : Flow → Shared → Prop) (f : Flow) (s₂ : Shared) : Prop :=
  match f with
  | .ret v => Q (.ret v) s₂
  | .brk => Q .next s₂
  | _ => ∃ (c' : σ) (h' : Heap) (tk : Nat) (m' : Map), s₂ = { s with heap := h', toks := tk } ∧ J c' ∧ Fr h₀ L h' m' ∧ (∀ y, ksHas xs y = false → m' y = mp c' y) ∧ News h₀ L h' (led c' ++ rest) ∧ (led c').map (·.1) = adr
theorem turn_end {σ : Type} {h₀ : Heap} {L : Addr} {xs : List Str} {mp : σ → Map} {led : σ → Led} {rest : Led} {adr : List Addr} {J : σ → Prop} {s : Shared} {Q : Flow → Shared → Prop} (c' : σ) {h' : Heap} {tk : Nat} {m' : Map} (F : Fr h₀ L h' m') {N' : Led} (N : News h₀ L h' N') (hj : J c')
    (hm : ∀ y, ksHas xs y = false → m' y = mp c' y) (hN : ∀ p ∈ led c' ++ rest, p ∈ N') (ha : (led c').map (·.1) = adr) : TurnEnd h₀ L xs mp led rest adr J s Q .next { s with heap := h', toks := tk } :=
  ⟨c', h', tk, m', rfl, hj, F, hm, news_sub N hN, ha⟩

section
variable {prog : Program} {w : World} {A : Around} {E : Value → Shared → Prop} {s : Shared} {env : Env} {h₀ : Heap} {x : Str} {body : List Stmt} {Q : Flow → Shared → Prop}

theorem fr_off {h : Heap} {L : Addr} {m : Map} {v : Value} {mp : Map} (hm : ∀ y, ksHas [x] y = false → m y = mp y) (F : Fr h₀ L h (fun y => if y = x then some v else m y)) : Fr h₀ L h (fun y => if y = x then some v else mp y) := by
  have : (fun y => if y = x then some v else m y) = fun y => if y = x then some v else mp y := by
    funext y
    by_cases hy : y = x
    · simp [hy]
    · simp only [if_neg hy]; exact hm y (by simp [ksHas, hy])
  rw [← this]; exact F

theorem fr_any {h : Heap} {L : Addr} {m mp : Map} (hm : ∀ y, ksHas [x] y = false → m y = mp y) (F : Fr h₀ L h m) : Fr h₀ L h (fun y => if y = x then m x else mp y) := by
  have : (fun y => if y = x then m x else mp y) = m := by
    funext y
    by_cases hy : y = x
    · simp [hy]
    · simp only [if_neg hy]; exact (hm y (by simp [ksHas, hy])).symm
  rw [this]; exact F
theorem for_go {m : Map} {px pos : Pos} {iter : Expr} (_F : Fr h₀ env.locals s.heap m) (hx : env.kindOf x = some .local)
    (hp : (env.scope.kind == .class || (env.scope.kind == .module && env.locals != env.globals)) = false)
    (h : wpAny (model prog w) A (eval iter env) (fun xv s₁ => wpAny (model prog w) A (pyIter xv) (fun it s₂ => LoopAtV prog w A h₀ env x body Q E it s₂) E s₁) E s)
    (hs : ∀ x, foldedSetIterable iter env x = pure x) (hE : PassesOwn (model prog w) A env E := by passes_own) :
    wpAny (model prog w) A (exec (.For (.Name x px) iter body [] pos) env) Q E s := For_invV h₀ hx hp h hs hE
theorem loopV {σ : Type} {I : Addr} {fp wr : List Addr} {n : Nat} {P : Nat → Value → Prop} {St : Nat → Heap → Prop} {m₀ : Map} {news : Led} (ps : σ → List (Str × Option Value)) (led : σ → Led) (J : Nat → σ → Prop) (c₀ : σ)
    (W : Walks prog w A I fp wr n P St) (hLf : env.locals ∉ fp) (hwr : ∀ b ∈ wr, h₀.get? b = none) (hnw : ∀ p ∈ news, p.1 ∉ wr) (hfp : ∀ q ∈ news, q.1 ∉ fp) (hst : St 0 s.heap) (F : Fr h₀ env.locals s.heap m₀) (N : News h₀ env.locals s.heap news)
    (hl : led c₀ = news) (hm : ∀ y, ksHas [x] y = false → m₀ y = bindP m₀ (ps c₀) y) (hj : J 0 c₀)
    (turn : ∀ i v c h tk rest, i < n → P i v → J i c → (led c).map (·.1) = news.map (·.1) → (∀ p ∈ rest, ∀ q ∈ led c, p.1 ≠ q.1) → Fr h₀ env.locals h (fun y => if y = x then some v else bindP m₀ (ps c) y) → News h₀ env.locals h (led c ++ rest) →
      wpAny (model prog w) A (execs body env) (TurnEnd h₀ env.locals [x] (fun c => bindP m₀ (ps c)) led rest (news.map (·.1)) (J (i + 1)) s Q) E { s with heap := h, toks := tk })
    (done : ∀ c u h tk, J n c → (led c).map (·.1) = news.map (·.1) → Fr h₀ env.locals h (fun y => if y = x then u else bindP m₀ (ps c) y) → News h₀ env.locals h (led c) → Q .next { s with heap := h, toks := tk }) :
    LoopAtV prog w A h₀ env x body Q E (.ref I) s := by
  refine loop_invN (fun i m₁ nx => ∃ c, J i c ∧ (led c).map (·.1) = news.map (·.1) ∧ nx = led c ∧ ∀ y, ksHas [x] y = false → m₁ y = bindP m₀ (ps c) y) W hLf hwr hnw hfp hst F N ⟨c₀, hj, by rw [hl], hl.symm, hm⟩ ?_ ?_
  · intro i v m₁ news₁ h tk own hi hP hadr hoff zH1
    refine box fun zG => ?_
    obtain ⟨c, hJ, _, rfl, hmc⟩ := zH1
    refine zG ?_
    clear zG
    intro Fs Ns
    refine wpAny_mono (turn i v c h tk own hi hP hJ hadr (fun p hp q hq => hoff p hp q.1 (hadr ▸ List.mem_map_of_mem hq)) (fr_off hmc Fs) Ns) (fun f s₂ q => ?_) fun _ _ e => e
    have fin : (∃ (c' : σ) (h' : Heap) (tk : Nat) (m' : Map), s₂ = { s with heap := h', toks := tk } ∧ J (i + 1) c' ∧ Fr h₀ env.locals h' m' ∧ (∀ y, ksHas [x] y = false → m' y = bindP m₀ (ps c') y) ∧ News h₀ env.locals h' (led c' ++ own) ∧ (led c').map (·.1) = news.map (·.1)) →
        InvEndN h₀ env.locals (fun m₁ nx => ∃ c, J (i + 1) c ∧ (led c).map (·.1) = news.map (·.1) ∧ nx = led c ∧ ∀ y, ksHas [x] y = false → m₁ y = bindP m₀ (ps c) y) own (news.map (·.1)) { s with heap := h, toks := tk } s₂ := by
      intro zH1
      refine box fun zG => ?_
      obtain ⟨c', h', tk', m', e, hj', F', hm', N', ha'⟩ := zH1
      refine zG ?_
      clear zG
      exact ⟨h', tk', m', led c' ++ own, led c', e, F', N', fun p hp => List.mem_append_left _ hp, fun p hp => List.mem_append_right _ hp, ha', c', hj', ha', rfl, hm'⟩
    cases f with
    | ret v => exact q
    | brk => exact q
    | next => exact fin q
    | cont => exact fin q
  · intro m₁ news₁ h tk zH1
    refine box fun zG => ?_
    obtain ⟨c, hJ, ha, rfl, hmc⟩ := zH1
    refine zG ?_
    clear zG
    intro Fs Ns
    exact done c (m₁ x) h tk hJ ha (fr_any hmc Fs) Ns

/-- for x in a text -/
theorem strV {σ : Type} {xt : Str} {tx : Tok} {m₀ : Map} {news : Led} (ps : σ → List (Str × Option Value)) (led : σ → Led) (J : Nat → σ → Prop) (c₀ : σ)
    (hh : A.handled = none) (F : Fr h₀ env.locals s.heap m₀) (N : News h₀ env.locals s.heap news)
    (hl : led c₀ = news) (hm : ∀ y, ksHas [x] y = false → m₀ y = bindP m₀ (ps c₀) y) (hj : J 0 c₀)
    (turn : ∀ i ch t c h tk rest, xt.cps[i]? = some ch → J i c → (led c).map (·.1) = news.map (·.1) → (∀ p ∈ rest, ∀ q ∈ led c, p.1 ≠ q.1) → Fr h₀ env.locals h (fun y => if y = x then some (.str ⟨#[ch]⟩ t) else bindP m₀ (ps c) y) → News h₀ env.locals h (led c ++ rest) →
      wpAny (model prog w) A (execs body env) (TurnEnd h₀ env.locals [x] (fun c => bindP m₀ (ps c)) led rest (news.map (·.1)) (J (i + 1)) s Q) E { s with heap := h, toks := tk })
    (done : ∀ c u h tk, J xt.cps.size c → (led c).map (·.1) = news.map (·.1) → Fr h₀ env.locals h (fun y => if y = x then u else bindP m₀ (ps c) y) → News h₀ env.locals h (led c) → Q .next { s with heap := h, toks := tk }) :
    wpAny (model prog w) A (pyIter (.str xt tx)) (fun it s₂ => LoopAtV prog w A h₀ env x body Q E it s₂) E s := by
  refine wpAny_pyIter_str fun o St hW hst => ?_
  refine loopV (s := { s with heap := s.heap.push o }) ps led J c₀ (hW A hh) ?_ ?_ ?_ ?_ hst (F.push _) (fun p hp => ⟨Heap.get?_push_of_some _ (N p hp).1, (N p hp).2⟩) hl hm hj ?_ ?_
  · intro hm
    exact absurd F.ns.lt ((List.mem_singleton.mp hm) ▸ Nat.lt_irrefl _)
  · intro b' hb
    rw [List.mem_singleton.mp hb]
    exact next_is_new F
  · intro p hp hI
    exact absurd (Heap.lt_size (N p hp).1) ((List.mem_singleton.mp hI) ▸ Nat.lt_irrefl _)
  · intro p hp hI
    exact absurd (Heap.lt_size (N p hp).1) ((List.mem_singleton.mp hI) ▸ Nat.lt_irrefl _)
  · intro i v c h tk rest _ zH1
    refine box fun zG => ?_
    obtain ⟨ch, t, hc, rfl⟩ := zH1
    refine zG ?_
    clear zG
    intro hJ ha hr Fs Ns
    exact turn i ch t c h tk rest hc hJ ha hr Fs Ns
  · intro c m₁ h tk hJ ha Fs Ns
    exact done c m₁ h tk hJ ha Fs Ns
/-- the fold over the signs of a text -/
theorem strF {σ τ : Type} {xt : Str} {tx : Tok} {m₀ : Map} {news : Led} (ps : σ → List (Str × Option Value)) (led : σ → Led) (f : τ → Nat → τ) (t0 : τ) (R : σ → τ → Prop) (c₀ : σ)
    (hh : A.handled = none) (F : Fr h₀ env.locals s.heap m₀) (N : News h₀ env.locals s.heap news)
    (hl : led c₀ = news) (hm : ∀ y, ksHas [x] y = false → m₀ y = bindP m₀ (ps c₀) y) (hj : R c₀ t0)
    (turn : ∀ pre ch post t c h tk rest, xt.cps.toList = pre ++ ch :: post → R c (pre.foldl f t0) → (led c).map (·.1) = news.map (·.1) → (∀ p ∈ rest, ∀ q ∈ led c, p.1 ≠ q.1) → Fr h₀ env.locals h (fun y => if y = x then some (.str ⟨#[ch]⟩ t) else bindP m₀ (ps c) y) → News h₀ env.locals h (led c ++ rest) →
      wpAny (model prog w) A (execs body env) (TurnEnd h₀ env.locals [x] (fun c => bindP m₀ (ps c)) led rest (news.map (·.1)) (fun c' => R c' (f (pre.foldl f t0) ch)) s Q) E { s with heap := h, toks := tk })
    (done : ∀ c u h tk, R c (xt.cps.toList.foldl f t0) → (led c).map (·.1) = news.map (·.1) → Fr h₀ env.locals h (fun y => if y = x then u else bindP m₀ (ps c) y) → News h₀ env.locals h (led c) → Q .next { s with heap := h, toks := tk }) :
    wpAny (model prog w) A (pyIter (.str xt tx)) (fun it s₂ => LoopAtV prog w A h₀ env x body Q E it s₂) E s := by
  refine strV (J := fun i c => R c ((xt.cps.toList.take i).foldl f t0)) ps led c₀ hh F N hl hm (by simpa using hj) ?_ ?_
  · intro i ch t c h tk rest hc hR ha hr F N
    have hc' : xt.cps.toList[i]? = some ch := by simpa using hc
    have hlt : i < xt.cps.toList.length := (List.getElem?_eq_some_iff.mp hc').1
    have he : xt.cps.toList[i] = ch := (List.getElem?_eq_some_iff.mp hc').2
    have e1 : xt.cps.toList = xt.cps.toList.take i ++ ch :: xt.cps.toList.drop (i + 1) := by
      rw [← he, List.getElem_cons_drop, List.take_append_drop]
    have e2 : (xt.cps.toList.take (i + 1)).foldl f t0 = f ((xt.cps.toList.take i).foldl f t0) ch := by
      rw [List.take_add_one, hc', List.foldl_append]; rfl
    rw [e2]
    exact turn _ ch _ t c h tk rest e1 hR ha hr F N
  · intro c u h tk hR ha F N
    refine done c u h tk ?_ ha F N
    rwa [List.take_of_length_le (by simp)] at hR

/-- for x in a list of the ledger that stays as it is -/
theorem listL {σ : Type} {l : Addr} {vs : List Value} {nn : Nat} {m₀ : Map} {news : Led} (ps : σ → List (Str × Option Value)) (led : σ → Led) (J : Nat → σ → Prop) (c₀ : σ)
    (hh : A.handled = none) (hmem : ∀ c, (l, listOf vs.toArray nn) ∈ led c) (F : Fr h₀ env.locals s.heap m₀) (N : News h₀ env.locals s.heap news)
    (hl : led c₀ = news) (hm : ∀ y, ksHas [x] y = false → m₀ y = bindP m₀ (ps c₀) y) (hj : J 0 c₀)
    (turn : ∀ i v c h tk rest, vs[i]? = some v → J i c → (led c).map (·.1) = news.map (·.1) → (∀ p ∈ rest, ∀ q ∈ led c, p.1 ≠ q.1) → Fr h₀ env.locals h (fun y => if y = x then some v else bindP m₀ (ps c) y) → News h₀ env.locals h (led c ++ rest) →
      wpAny (model prog w) A (execs body env) (TurnEnd h₀ env.locals [x] (fun c => bindP m₀ (ps c)) led rest (news.map (·.1)) (J (i + 1)) s Q) E { s with heap := h, toks := tk })
    (done : ∀ c u h tk, J vs.length c → (led c).map (·.1) = news.map (·.1) → Fr h₀ env.locals h (fun y => if y = x then u else bindP m₀ (ps c) y) → News h₀ env.locals h (led c) → Q .next { s with heap := h, toks := tk }) :
    wpAny (model prog w) A (pyIter (.ref l)) (fun it s₂ => LoopAtV prog w A h₀ env x body Q E it s₂) E s := by
  have hm0 : (l, listOf vs.toArray nn) ∈ news := hl ▸ hmem c₀
  have hol : s.heap.get? l = some (listOf vs.toArray nn) := (N _ hm0).1
  have hls : s.heap.IsList l vs.toArray := ⟨_, hol, rfl, nn, rfl⟩
  have hne : l ≠ s.heap.objs.size := Nat.ne_of_lt (Heap.lt_size hol)
  have hIn : ∀ q ∈ news, q.1 ≠ s.heap.objs.size := fun q hq => Nat.ne_of_lt (Heap.lt_size (N q hq).1)
  refine wpAny_pyIter_list hls ?_
  have W := Walks.list (prog := prog) (w := w) hh s.heap.objs.size l hne vs.toArray
  rw [List.size_toArray] at W
  refine ⟨_, _, _, vs.length, _, _, m₀, news, (fun i m nx => ∃ c, J i c ∧ (led c).map (·.1) = news.map (·.1) ∧ nx = led c ∧ ∀ y, ksHas [x] y = false → m y = bindP m₀ (ps c) y), rfl, W, ?_, ?_, ?_,
    ⟨⟨_, Heap.get?_push_size _ rfl, rfl, rfl⟩, hls.at fun o e => Heap.get?_push_of_some _ e⟩, F.push _, (fun p hp => ⟨Heap.get?_push_of_some _ (N p hp).1, (N p hp).2⟩), ⟨c₀, hj, by rw [hl], hl.symm, hm⟩, ?_, ?_⟩
  · intro hm
    rcases List.mem_cons.mp hm with e | hm
    · exact absurd F.ns.lt (e ▸ Nat.lt_irrefl _)
    · exact (N _ hm0).2.1 (List.mem_singleton.mp hm).symm
  · intro b hb
    rw [List.mem_singleton.mp hb]
    exact next_is_new F
  · intro p hp hI
    exact hIn p hp (List.mem_singleton.mp hI)
  · intro i v m₁ news₁ s₁ own zH1 hin hP zH2
    refine box fun zG => ?_
    obtain ⟨hh', tk', rfl⟩ := zH1
    obtain ⟨c, hJ, hadr, rfl, hmc⟩ := zH2
    refine zG ?_
    clear zG
    intro hoff hown hget hfp _ F₁ N₁
    have hnm : ∀ q ∈ led c, q.1 ≠ s.heap.objs.size := fun q hq e => hoff q hq (List.mem_singleton.mpr e)
    have N₂ : News h₀ env.locals hh' (led c ++ own.filter fun p => decide (p.1 = s.heap.objs.size)) := fun p hp => N₁ p ((List.mem_append.mp hp).elim (fun h => List.mem_append.mpr (.inr h)) fun h => List.mem_append.mpr (.inl ((List.mem_filter.mp h).1)))
    have hsep : ∀ p ∈ own.filter (fun p => decide (p.1 = s.heap.objs.size)), ∀ q ∈ led c, p.1 ≠ q.1 := fun p hp q hq e => hnm q hq (by rw [← e]; simpa using (List.mem_filter.mp hp).2)
    have hlo : hh'.get? l = some (listOf vs.toArray nn) := (N₁ _ (List.mem_append.mpr (.inr (hmem c)))).1
    refine wpAny_mono (turn i v c hh' tk' _ (by simpa using hP) hJ hadr hsep (fr_off hmc F₁) N₂) (fun f s₂ q => ?_) fun _ _ e => e
    have fin : (∃ (c' : σ) (h' : Heap) (tk : Nat) (m' : Map), s₂ = { s with heap := h', toks := tk } ∧ J (i + 1) c' ∧ Fr h₀ env.locals h' m' ∧ (∀ y, ksHas [x] y = false → m' y = bindP m₀ (ps c') y) ∧ News h₀ env.locals h' (led c' ++ own.filter fun p => decide (p.1 = s.heap.objs.size)) ∧ (led c').map (·.1) = news.map (·.1)) →
        LoopStepU h₀ env.locals [s.heap.objs.size] own (fun m nx => ∃ c, J (i + 1) c ∧ (led c).map (·.1) = news.map (·.1) ∧ nx = led c ∧ ∀ y, ksHas [x] y = false → m y = bindP m₀ (ps c) y) { s with heap := hh', toks := tk' } .next s₂ := by
      intro zH1
      refine box fun zG => ?_
      obtain ⟨c', h', tk, m', e, hj', F', hm', N', ha'⟩ := zH1
      refine zG ?_
      clear zG
      refine ⟨rfl, h', tk, m', led c', e, F', fun p hp => ?_, fun p hp hI => ?_, c', hj', ha', rfl, hm'⟩
      · rcases List.mem_append.mp hp with h | h
        · by_cases hI : p.1 = s.heap.objs.size
          · exact N' p (List.mem_append.mpr (.inr (List.mem_filter.mpr ⟨h, by simpa using hI⟩)))
          · have h1 : p.1 = l := by
              rcases List.mem_cons.mp (hown p h) with h2 | h2
              · exact absurd h2 hI
              · exact List.mem_singleton.mp h2
            have h2 : hh'.get? p.1 = some p.2 := hget p h
            rw [h1, hlo] at h2
            have h3 : p = (l, listOf vs.toArray nn) := Prod.ext h1 (Option.some.inj h2).symm
            rw [h3]
            exact N' _ (List.mem_append.mpr (.inl (hmem c')))
        · exact N' p (List.mem_append.mpr (.inl h))
      · have h1 : p.1 ∈ (led c').map (·.1) := List.mem_map.mpr ⟨p, hp, rfl⟩
        rw [ha'] at h1
        obtain ⟨q, hq, e⟩ := List.mem_map.mp h1
        exact hIn q hq (e.trans (List.mem_singleton.mp hI))
    cases f with
    | ret v => exact q
    | brk => exact q
    | next => exact fin q
    | cont => exact fin q
  · intro h' tk m' news' F' N' _ zH1
    refine box fun zG => ?_
    obtain ⟨c, hJ, ha, rfl, hmc⟩ := zH1
    refine zG ?_
    clear zG
    exact done c (m' x) h' tk hJ ha (fr_any hmc F') N'

theorem ne_ints_same {a b : Addr} {vs us : List Value} {ns ms : List Int} {Q : Value → Shared → Prop} (hl : s.heap.IsList a vs.toArray) (hi : IntsAre vs ns) (hl' : s.heap.IsList b us.toArray) (hi' : IntsAre us ms) (hu : A.units + 64 < cLine) (e : ns = ms)
    (h : Q (.bool false) s) : wpAny (model prog w) A (compareOp .NotEq (.ref a) (.ref b)) Q E s :=
  ne_intsK hl hi hl' hi' hu (by rw [decide_eq_true e]; exact h)
theorem list_str_led {L : Addr} {m : Map} {news : Led} {xt : Str} {t : Tok} {Q : Value → Shared → Prop} (hh : A.handled = none) (F : Fr h₀ L s.heap m) (N : News h₀ L s.heap news) (hsz : xt.length ≤ 100000)
    (h : ∀ D h' tk ys n, Fr h₀ L h' m → News h₀ L h' ((D, listOf ys.toArray n) :: news) → (∀ p ∈ news, p.1 < D) → StrsAre ys (PyProof.Rows.signs xt) → Q (.ref D) { s with heap := h', toks := tk }) :
    wpAny (model prog w) A (call (.type "list") [.str xt t]) Q E s := by
  refine list_strD (hsz := Nat.le_trans hsz (by decide)) hh F N fun h' tk ys F' N' hk hn hl hp hc => ?_
  obtain ⟨n, e⟩ := hp.1
  refine h _ h' tk ys n F' (fun p hp' => ?_) (fun p hp' => Heap.lt_size (N p hp').1) (StrsAre.of_carried hc)
  rcases List.mem_cons.mp hp' with rfl | hp'
  · exact ⟨e, NewPlain.ne_locals hp F', hn⟩
  · exact N' p hp'
/-- a loop of any kind -/
noncomputable def ForAt (prog : Program) (w : World) (A : Around) (env : Env) (target : Expr) (body : List Stmt) (Q : Flow → Shared → Prop) (E : Value → Shared → Prop) (it : Value) (s : Shared) : Prop :=
  ∃ (I : Nat → Shared → Prop) (n : Nat), I n s ∧ ∀ n s, I n s → wpAny (model prog w) A (pyNext it) (fun r s₁ => match r with
    | none => Q .next s₁
    | some v => wpAny (model prog w) A (assign target env v) (fun _ s₂ => wpAny (model prog w) A (execs body env) (fun f s₃ => match f with
      | .next | .cont => ∃ m, m < n ∧ I m s₃
      | .brk => Q .next s₃
      | .ret v => Q (.ret v) s₃) E s₂) E s₁) E s
theorem forI {target iter : Expr} {pos : Pos}
    (h : wpAny (model prog w) A (eval iter env) (fun xv s₁ => wpAny (model prog w) A (pyIter xv) (fun it s₂ => ForAt prog w A env target body Q E it s₂) E s₁) E s)
    (ht : ∀ it v, letOwnedTupleGo target it v = pure ()) (hs : ∀ x, foldedSetIterable iter env x = pure x) (hE : PassesOwn (model prog w) A env E := by passes_own) :
    wpAny (model prog w) A (exec (.For target iter body [] pos) env) Q E s := by
  refine wpAny_For (wpAny_mono h (fun xv s₁ h₁ => wpAny_mono h₁ (fun it s₂ h₂ => ?_) fun _ _ e => e) fun _ _ e => e) hs
  refine box fun zG => ?_
  obtain ⟨I, n, hI, turn⟩ := h₂
  refine zG ?_
  clear zG
  refine codeAny_forLoop (R := fun r s' => match r with | .ok f => Q f s' | .error e => cameBackBy (model prog w) A env E e s') I (fun n s hI => ?_) n hI (ht it)
  refine wpAny_passesOwn hE (wpAny_mono (turn n s hI) (fun r s₁ h₁ => ?_) fun _ _ e => e)
  cases r with
  | none => exact wpAny_execs_nil h₁
  | some v =>
    refine wpAny_passesOwn hE (wpAny_mono h₁ (fun _ s₂ h₂ => ?_) fun _ _ e => e)
    exact wpAny_passesOwn hE (wpAny_mono h₂ (fun f s₃ h₃ => by cases f <;> exact h₃) fun _ _ e => e)

noncomputable def WhileEnd {σ : Type} (h₀ : Heap) (L : Addr) (xs : List Str) (mp : σ → Map) (led : σ → Led) (J : σ → Prop) (μ : σ → Nat) (n : Nat) (s : Shared) (Q : Flow → Shared → Prop) (f : Flow) (s₂ : Shared) : Prop :=
  match f with
  | .ret v => Q (.ret v) s₂
  | .brk => Q .next s₂
  | _ => ∃ (c' : σ) (h' : Heap) (tk : Nat) (m' : Map), s₂ = { s with heap := h', toks := tk } ∧ J c' ∧ μ c' < n ∧ Fr h₀ L h' m' ∧ (∀ y, ksHas xs y = false → m' y = mp c' y) ∧ News h₀ L h' (led c')
theorem while_end {σ : Type} {h₀ : Heap} {L : Addr} {xs : List Str} {mp : σ → Map} {led : σ → Led} {J : σ → Prop} {μ : σ → Nat} {n : Nat} {s : Shared} {Q : Flow → Shared → Prop} (c' : σ) {h' : Heap} {tk : Nat} {m' : Map} (F : Fr h₀ L h' m') {N' : Led} (N : News h₀ L h' N') (hj : J c') (hμ : μ c' < n)
    (hm : ∀ y, ksHas xs y = false → m' y = mp c' y) (hN : ∀ p ∈ led c', p ∈ N') : WhileEnd h₀ L xs mp led J μ n s Q .next { s with heap := h', toks := tk } :=
  ⟨c', h', tk, m', rfl, hj, hμ, F, hm, news_sub N hN⟩
theorem fr_anys {h : Heap} {L : Addr} {xs : List Str} {m mp : Map} (hm : ∀ y, ksHas xs y = false → m y = mp y) (F : Fr h₀ L h m) : Fr h₀ L h (fun y => if ksHas xs y = true then m y else mp y) := by
  have : (fun y => if ksHas xs y = true then m y else mp y) = m := by
    funext y
    cases hy : ksHas xs y with
    | true => simp
    | false => simp only [Bool.false_eq_true, if_false]; exact (hm y hy).symm
  rw [this]; exact F
theorem whileV {σ : Type} {L : Addr} {test : Expr} {pos : Pos} {m₀ : Map} {news : Led} (xs : List Str) (ps : σ → List (Str × Option Value)) (led : σ → Led) (J : σ → Prop) (μ : σ → Nat) (c₀ : σ)
    (F : Fr h₀ L s.heap m₀) (N : News h₀ L s.heap news) (hl : ∀ p ∈ led c₀, p ∈ news) (hm : ∀ y, ksHas xs y = false → m₀ y = bindP m₀ (ps c₀) y) (hj : J c₀)
    (turn : ∀ c (u : Map) h tk, J c → Fr h₀ L h (fun y => if ksHas xs y = true then u y else bindP m₀ (ps c) y) → News h₀ L h (led c) →
      wpAny (model prog w) A (isTrue test env (eval test env)) (fun b s₂ => if b = true then wpAny (model prog w) A (execs body env) (WhileEnd h₀ L xs (fun c => bindP m₀ (ps c)) led J μ (μ c) s Q) E s₂ else Q .next s₂) E { s with heap := h, toks := tk })
    (hE : PassesOwn (model prog w) A env E := by passes_own) :
    wpAny (model prog w) A (exec (.While test body [] pos) env) Q E s := by
  refine While_inv2 (fun n m nx => ∃ c : σ, nx = led c ∧ μ c = n ∧ J c ∧ ∀ y, ksHas xs y = false → m y = bindP m₀ (ps c) y) F (news_sub N hl) ⟨c₀, rfl, rfl, hj, hm⟩ ?_ hE
  intro n m₁ nx h tk F₁ N₁ zH1
  refine box fun zG => ?_
  obtain ⟨c, rfl, rfl, hJ, hm₁⟩ := zH1
  refine zG ?_
  clear zG
  refine wpAny_mono (turn c m₁ h tk hJ (fr_anys hm₁ F₁) N₁) (fun b s₂ p => ?_) fun _ _ x => x
  cases b with
  | false => simpa using p
  | true =>
    simp only [if_true] at p ⊢
    refine wpAny_mono p (fun f s₃ q => ?_) fun _ _ x => x
    cases f with
    | ret v => exact q
    | brk => exact q
    | next =>
      refine box fun zG => ?_
      obtain ⟨c', h', tk', m', rfl, hj', hμ, F', hm', N'⟩ := q
      refine zG ?_
      clear zG
      exact ⟨h', tk', m', led c', μ c', rfl, F', N', hμ, c', rfl, rfl, hj', hm'⟩
    | cont =>
      refine box fun zG => ?_
      obtain ⟨c', h', tk', m', rfl, hj', hμ, F', hm', N'⟩ := q
      refine zG ?_
      clear zG
      exact ⟨h', tk', m', led c', μ c', rfl, F', N', hμ, c', rfl, rfl, hj', hm'⟩

theorem isSeq_iadd : isSeqSlot (some (.builtin "list.__iadd__")) = true := by decide +kernel
theorem iadd_N {D b L : Addr} {m : Map} {news news' : Led} {its its2 : Array Value} {n n2 : Nat} {Q : Value → Shared → Prop} (F : Fr h₀ L s.heap m) (N : News h₀ L s.heap news) (hb : (b, listOf its2 n2) ∈ news) (hne : 0 < its2.size)
    (U : Upd D (listOf its n) (listOf (its ++ its2) (n + 1)) news news') (hz : its.size ≤ 100000) (hz2 : its2.size ≤ 100000)
    (h : ∀ h', Fr h₀ L h' m → News h₀ L h' news' → Q (.ref D) { s with heap := h' }) :
    wpAny (model prog w) A (inplaceOp .Add (.ref D) (.ref b)) Q E s := by
  refine box fun zG => ?_
  obtain ⟨pre, post, rfl, rfl, a, c⟩ := U.split
  refine zG ?_
  clear zG
  have z := N (D, listOf its n) (List.mem_append.mpr (.inr (.head _)))
  have hDT : s.TypeIs (.ref D) "list" := ⟨_, z.1, rfl⟩
  have hbT : s.TypeIs (.ref b) "list" := ⟨_, (N _ hb).1, rfl⟩
  have hl := PySem.F.slot_list_iadd.lookup
  unfold inplaceOp
  refine wpAny_holding ?_
  have hfi : fillsInplaceSlot (.type "list") "add" (Operator.Add == .Add) = pure false := by
    unfold fillsInplaceSlot
    show (typeLookup (.type "list") (dunderI "add") >>= fun fi => pure (fi.isSome && !isSeqSlot fi)) = pure false
    rw [hl]; simp only [pure_bind, isSeq_iadd]; rfl
  refine wpAny_bind (wpAny_typeOf hDT (wpAny_bind (wpAny_of_eq hfi ?_)))
  show wpAny _ A (if false = true then _ else _) Q E s
  rw [if_neg Bool.false_ne_true]
  refine wpAny_bind (wpAny_binaryOp1_none (nm := "add") hDT hbT noFill_list_add ?_)
  refine wpAny_bind (wpAny_of_eq (PySem.seqSlot_of hl isSeq_iadd) ?_)
  refine wpAny_bind (wpAny_rule ?_)
  refine call_meets PySem.F.slot_list_iadd hDT PySem.F.entry_list_iadd (PySem.F.args_list_iadd_2 _ _) (PySem.AutoSeq1.list___iadd___list_list_0 D its n b its2 n2 ?_ ?_ ?_) ⟨z.1, (N _ hb).1, h _ (F.change (Heap.SameBut.update ..) z.2.1 z.2.2) (kl_turn _ N a c rfl ?_)⟩
  · simp [Builtin.List.listTooLong, sizeLine]; omega
  · exact Nat.le_trans hz (by decide)
  · exact Nat.le_trans (Nat.add_le_add hz hz2) (by decide)
  · rw [Array.size_append]; omega

end
section
set_option maxRecDepth 100000
set_option maxHeartbeats 8000000
noncomputable def rowsStep (u : List Str × Int) (c : Nat) : List Str × Int := ((Txt.mul (Str.ofString ".") u.2 ++ ⟨#[c]⟩) :: u.1, u.2 + (if ((⟨#[c]⟩ : Str) == Str.ofString "f") = true then 1 else -1))
noncomputable abbrev rowsG (l : List Nat) : List Str × Int := l.foldl rowsStep ([], 0)
theorem rowsG_len (l : List Nat) : ∀ u, (l.foldl rowsStep u).1.length = u.1.length + l.length := by
  induction l with
  | nil => intro u; rfl
  | cons a r ih => intro u; rw [List.foldl_cons, ih]; simp [rowsStep]; omega
noncomputable abbrev RowsPre (x : Str) : Prop := x.cps.toList.length ≤ 100 ∧ ∀ pre post, x.cps.toList = pre ++ post → 0 ≤ (rowsG pre).2 ∧ (rowsG pre).2 ≤ 100
theorem rows (w : World) (mean mg mb) (x : Str) (tx : Tok) (news) (dp un gd cn cs a ccd cl outer A₀ base h₀ L m s) (Q E : Value → Shared → Prop)
   (B : Below A₀ base outer h₀) (F : Fr h₀ L s.heap m) (X : (hd1.heap_1 w.params).In h₀) (N : News h₀ L s.heap news) (T : Top pT lT mean mg mb h₀) (hcs : cs.kind = .function)
   (pre : RowsPre x) (hd : dp + 1 < recursionLimit) (hu : un + 8 < cLine)
   (hret : ∀ (r : Addr) (n : Nat) (ys : List Value) h' tk', StrsAre ys (rowsG x.cps.toList).1 → Fr h₀ L h' m → News h₀ L h' ((r, listOf ys.toArray n) :: news) → (∀ p ∈ news, p.1 ≠ r) → Q (.ref r) { s with heap := h', toks := tk' }) :
   wpAny (model PySem.Challenge.rw_kl0050_01.row.prog w) (ktrTop dp un gd cn cs L a ccd cl outer) (call (.ref 230) [.str x tx]) Q E s := by
  revert X; k_fill; intro X
  refine wpAny_call ?_
  k_dflt cell_enter
  (repeat' (first | (k_unfold; (try dsimp only)) | (((fail_if_success (with_reducible refine Mine.stop_of (by constructor) ?_))); walk1) | (dsimp only; ((fail_if_success (with_reducible refine Mine.stop_of (by constructor) ?_))); walk1)))
  · (((rename Fr _ _ _ _ => Fm9); (with_reducible apply for_go Fm9); (case hx => with_unfolding_all rfl); (case hp => with_unfolding_all rfl); (case hs => (intro _; with_unfolding_all rfl))))
    (repeat' (first | (k_unfold; (try dsimp only)) | (((fail_if_success (with_reducible refine Mine.stop_of (by constructor) ?_))); walk1) | (dsimp only; ((fail_if_success (with_reducible refine Mine.stop_of (by constructor) ?_))); walk1)))
    rename Fr _ _ _ _ => F1
    rename News _ _ _ _ => N1
    refine' strF (σ := List Value × Nat × Int × Tok) (fun c => [(Str.ofString "level", some (.int c.2.2.1 c.2.2.2))]) (fun c => (_, listOf c.1.toArray c.2.1) :: _) rowsStep ([], 0) (fun c u => StrsAre c.1 u.1 ∧ c.2.2.1 = u.2) ⟨[], _, 0, _⟩ rfl F1 N1 rfl (by ((exact Mine.mpL (by repeat' (first | exact True.intro | refine And.intro rfl ?_)) (by (((intro y9 hy9); repeat (first | (with_reducible rfl) | (refine Mine.off_bind hy9 rfl ?_) | (refine Mine.off_step (Mine.off_ne hy9 rfl) ?_) | (refine Mine.off_step2 hy9 rfl ?_)))))))) ?hj ?turn ?done
    case hj => exact ⟨.nil, rfl⟩
    case turn =>
      intro l ch l' t
      refine pr4 ?_
      intro vs n lv tl h tk rest hx hJ ha hr F2 N2
      have hv := hJ.1
      have hlv := hJ.2
      clear hJ
      dsimp only at *
      clear F1 N1
      have hb := pre.2 l (ch :: l') hx
      have hz : vs.length ≤ 100 := by
        have h1 := rowsG_len l ([], 0)
        have h2 := hv.len_eq
        have h3 := pre.1
        rw [hx] at h3
        simp at h3 h1
        omega
      rw [← hlv] at hb
      have hAll := all_ne (‹∀ p ∈ news, p.1 < _›) (fun p hp => hr p hp _ (.head _))
      dsimp only at hAll
      simp only [List.cons_append] at N2
      (repeat' (first | (k_unfold; (try dsimp only)) | (((fail_if_success (with_reducible refine Mine.stop_of (by constructor) ?_))); walk1) | (dsimp only; ((fail_if_success (with_reducible refine Mine.stop_of (by constructor) ?_))); walk1)))
      (refine' kl_insert ?iF ?iN rfl rfl ?iU ?iz ?_; (case iF => k_asm); (case iN => k_asm); (case iU => k_upd); (case iz => (first | exact (by decide) | kl_room | ((try simp only [List.size_toArray, sizeLine]); first | assumption | omega))))
      (repeat' (first | (k_unfold; (try dsimp only)) | (((fail_if_success (with_reducible refine Mine.stop_of (by constructor) ?_))); walk1) | (dsimp only; ((fail_if_success (with_reducible refine Mine.stop_of (by constructor) ?_))); walk1)))
      all_goals dsimp only
      all_goals refine turn_end ⟨_, _, _, _⟩ (by k_asm) (by k_asm) ?_ (by ((exact Mine.mpL (by repeat' (first | exact True.intro | refine And.intro rfl ?_)) (by (((intro y9 hy9); repeat (first | (with_reducible rfl) | (refine Mine.off_bind hy9 rfl ?_) | (refine Mine.off_step (Mine.off_ne hy9 rfl) ?_) | (refine Mine.off_step2 hy9 rfl ?_)))))))) (fun p hp => hp) rfl
      all_goals
        refine ⟨?_, ?_⟩
        · rw [rowsStep, ← hlv]
          exact .cons _ _ hv
        · rw [rowsStep, ← hlv]
          simp only [*, if_true, if_false, Bool.false_eq_true]
    case done =>
      intro c u h tk hJ ha F2 N2
      dsimp only at *
      (repeat' (first | (k_unfold; (try dsimp only)) | (((fail_if_success (with_reducible refine Mine.stop_of (by constructor) ?_))); walk1) | (dsimp only; ((fail_if_success (with_reducible refine Mine.stop_of (by constructor) ?_))); walk1)))
      exact hret _ _ _ _ _ hJ.1 (by k_asm) (by k_asm) (fun p hp => Nat.ne_of_lt (‹∀ p ∈ news, p.1 < _› p hp))
end
section
set_option maxRecDepth 100000
set_option maxHeartbeats 8000000
theorem octets_len (l : List Nat) : (∀ c ∈ l, c ∈ alph) → ∀ u, (l.foldl (fun u c => u ++ octs c) u).length ≤ u.length + 3 * l.length := by
  induction l with
  | nil => intro _ u; simp
  | cons a r ih =>
    intro h u
    rw [List.foldl_cons]
    refine Nat.le_trans (ih (fun c hc => h c (List.mem_cons_of_mem _ hc)) _) ?_
    have : (octs a).length ≤ 3 := by unfold octs; split <;> simp
    simp
    omega
theorem alph_lt : ∀ c ∈ alph, c < 65536 ∧ 64 ≤ c := by decide
noncomputable def octsW (left : Int) (dl : List Int) : List Int := if left = 0 then dl else if left < 64 then (left + 64) :: dl else (left / 64 + 64) :: (left % 64 + 64) :: dl
theorem octW_one (ch : Nat) (h : ch < 65536) (h2 : 64 ≤ ch) : octsW ((ch : Int) / 64) [(ch : Int) % 64] = octs ch := by
  unfold octsW octs
  rw [if_neg (by omega)]
  by_cases h3 : ch < 4096
  · rw [if_pos (by omega), if_pos h3]
  · rw [if_neg (by omega), if_neg h3]
    have e1 : ((ch : Int) / 64) / 64 = ch / 4096 := by omega
    rw [e1]
theorem octW_step (lf : Int) (dl : List Int) (h0 : 0 < lf) (h2 : lf < 4096) : octsW (lf / 64) ((lf % 64 + 64) :: dl) = octsW lf dl := by
  unfold octsW
  rw [if_neg (show ¬ lf = 0 by omega)]
  by_cases h3 : lf < 64
  · rw [if_pos (by omega), if_pos h3]
    have : lf % 64 = lf := by omega
    rw [this]
  · rw [if_neg (by omega), if_neg h3, if_pos (by omega)]
theorem pr5 {α β γ δ ε : Type} {P : α × β × γ × δ × ε → Prop} (h : ∀ a b c d e, P (a, b, c, d, e)) : ∀ c, P c := fun c => h c.1 c.2.1 c.2.2.1 c.2.2.2.1 c.2.2.2.2
theorem octets (w : World) (mean mg mb) (x : Str) (tx : Tok) (news) (dp un gd cn cs a ccd cl outer A₀ base h₀ L m s) (Q E : Value → Shared → Prop)
   (B : Below A₀ base outer h₀) (F : Fr h₀ L s.heap m) (X : (hd1.heap_1 w.params).In h₀) (N : News h₀ L s.heap news) (T : Top pT lT mean mg mb h₀) (hcs : cs.kind = .function)
   (hp : x.cps.toList.length ≤ 100 ∧ ∀ c ∈ x.cps.toList, c ∈ alph) (hd : dp + 1 < recursionLimit) (hu : un + 8 < cLine)
   (hret : ∀ (r : Addr) (n : Nat) (ys : List Value) h' tk', IntsAre ys (octetsF x.cps.toList) → Fr h₀ L h' m → News h₀ L h' ((r, listOf ys.toArray n) :: news) → (∀ p ∈ news, p.1 ≠ r) → Q (.ref r) { s with heap := h', toks := tk' }) :
   wpAny (model PySem.Challenge.rw_kl0050_01.row.prog w) (ktrTop dp un gd cn cs L a ccd cl outer) (call (.ref 192) [.str x tx]) Q E s := by
  revert X; k_fill; intro X
  refine wpAny_call ?_
  k_dflt cell_enter
  (repeat' (first | (k_unfold; (try dsimp only)) | (((fail_if_success (with_reducible refine Mine.stop_of (by constructor) ?_))); walk1) | (dsimp only; ((fail_if_success (with_reducible refine Mine.stop_of (by constructor) ?_))); walk1)))
  (((rename Fr _ _ _ _ => Fm9); (with_reducible apply for_go Fm9); (case hx => with_unfolding_all rfl); (case hp => with_unfolding_all rfl); (case hs => (intro _; with_unfolding_all rfl))))
  (repeat' (first | (k_unfold; (try dsimp only)) | (((fail_if_success (with_reducible refine Mine.stop_of (by constructor) ?_))); walk1) | (dsimp only; ((fail_if_success (with_reducible refine Mine.stop_of (by constructor) ?_))); walk1)))
  rename Fr _ _ _ _ => F1
  rename News _ _ _ _ => N1
  rename_i oc _ _ _
  refine' strF (σ := Array Value × Nat × Option Value × Option Value × Option Value) (fun c => [(Str.ofString "left", c.2.2.1), (Str.ofString "digit", c.2.2.2.1), (Str.ofString "digits", c.2.2.2.2), (Str.ofString "octets", some (.ref oc))]) (fun c => (oc, listOf c.1 c.2.1) :: news) (fun u c => u ++ octs c) [] (fun c u => IntsAre c.1.toList u) ⟨#[], _, none, none, none⟩ rfl F1 N1 rfl (by ((exact Mine.mpL (by repeat' (first | exact True.intro | refine And.intro rfl ?_)) (by (((intro y9 hy9); repeat (first | (with_reducible rfl) | (refine Mine.off_bind hy9 rfl ?_) | (refine Mine.off_step (Mine.off_ne hy9 rfl) ?_) | (refine Mine.off_step2 hy9 rfl ?_)))))))) ?hj ?turn ?done
  case hj => exact .nil
  case turn =>
      intro l ch l' t
      refine pr5 ?_
      intro vs n v1 v2 v3 h tk rest hx hv ha hr F2 N2
      dsimp only at *
      clear F1 N1
      have hc : ch ∈ alph := hp.2 ch (by rw [hx]; simp)
      have hAll := all_ne (‹∀ p ∈ news, p.1 < _›) (fun p hp => hr p hp _ (.head _))
      dsimp only at hAll
      simp only [List.cons_append] at N2
      have hz : vs.size ≤ 10000 := by
        have h2 := hv.length
        have h3 := hp.1
        have h4 := octets_len l (fun c hc => hp.2 c (by rw [hx]; simp [hc])) []
        rw [hx] at h3
        simp at h3 h2 h4
        omega
      have hch := alph_lt ch hc
      (repeat' (first | (k_unfold; (try dsimp only)) | (((fail_if_success (with_reducible refine Mine.stop_of (by constructor) ?_))); walk1) | (dsimp only; ((fail_if_success (with_reducible refine Mine.stop_of (by constructor) ?_))); walk1)))
      rename Fr _ _ _ _ => F3
      rename News _ _ _ _ => N3
      dsimp only at F3 N3
      rename_i dg _ _ _
      refine whileV (σ := Int × Tok × List Value × Nat) [Str.ofString "digit"] (fun c => [(Str.ofString "left", some (.int c.1 c.2.1))]) (fun c => (dg, listOf c.2.2.1.toArray c.2.2.2) :: (oc, listOf vs n) :: (news ++ rest)) (fun c => 0 ≤ c.1 ∧ c.1 < 4096 ∧ (0 < c.2.2.1.length ∧ c.2.2.1.length + c.1.toNat ≤ 65540) ∧ ∃ dl, IntsAre c.2.2.1 dl ∧ octsW c.1 dl = octs ch) (fun c => c.1.toNat) ⟨(ch : Int).fdiv 64, _, [_], _⟩ F3 N3 (Mine.sub_cons (.head _) (Mine.sub_cons (.tail _ (.tail _ (.head _))) fun p hp => .tail _ (.tail _ (.tail _ hp)))) (by ((exact Mine.mpL (by repeat' (first | exact True.intro | refine And.intro rfl ?_)) (by (((intro y9 hy9); repeat (first | (with_reducible rfl) | (refine Mine.off_bind hy9 rfl ?_) | (refine Mine.off_step (Mine.off_ne hy9 rfl) ?_) | (refine Mine.off_step2 hy9 rfl ?_)))))))) ?hj ?turn
      case hj =>
        have e : (ch : Int).fdiv 64 = ch / 64 := Int.fdiv_eq_ediv_of_nonneg _ (by decide)
        have e2 : (ch : Int).fmod 64 = ch % 64 := Int.fmod_eq_emod_of_nonneg _ (by decide)
        refine ⟨?_, ?_, ⟨Nat.succ_pos _, ?_⟩, [(ch : Int).fmod 64], .cons _ _ .nil, ?_⟩
        · simp only [e]; omega
        · simp only [e]; omega
        · simp only [e, List.length_cons, List.length_nil]; omega
        · simp only [e, e2]; exact octW_one ch hch.1 hch.2
      case turn =>
        refine pr4 ?_
        intro lf tl ds dn u h tk hJ F4 N4
        dsimp only at F4 N4
        refine box fun zG => ?_
        obtain ⟨h1, h2, ⟨h30, h3⟩, dl, h4, h5⟩ := hJ
        refine zG ?_
        clear zG
        dsimp only at *
        have hz2 : ds.length ≤ 65540 := by omega
        (repeat' (first | (k_unfold; (try dsimp only)) | (((fail_if_success (with_reducible refine Mine.stop_of (by constructor) ?_))); walk1) | (dsimp only; ((fail_if_success (with_reducible refine Mine.stop_of (by constructor) ?_))); walk1)))
        · (refine' kl_insert ?iF ?iN rfl rfl ?iU ?iz ?_; (case iF => k_asm); (case iN => k_asm); (case iU => k_upd); (case iz => (first | exact (by decide) | kl_room | ((try simp only [List.size_toArray, sizeLine]); first | assumption | omega))))
          (repeat' (first | (k_unfold; (try dsimp only)) | (((fail_if_success (with_reducible refine Mine.stop_of (by constructor) ?_))); walk1) | (dsimp only; ((fail_if_success (with_reducible refine Mine.stop_of (by constructor) ?_))); walk1)))
          refine while_end ⟨lf.fdiv 64, _, _, _⟩ (by k_asm) (by k_asm) ?_ ?_ (by ((exact Mine.mpL (by repeat' (first | exact True.intro | refine And.intro rfl ?_)) (by (((intro y9 hy9); repeat (first | (with_reducible rfl) | (refine Mine.off_bind hy9 rfl ?_) | (refine Mine.off_step (Mine.off_ne hy9 rfl) ?_) | (refine Mine.off_step2 hy9 rfl ?_)))))))) (Mine.sub_cons (.tail _ (.head _)) (Mine.sub_cons (.tail _ (.tail _ (.head _))) fun p hp => .tail _ (.tail _ (.tail _ hp))))
          · have e : lf.fdiv 64 = lf / 64 := Int.fdiv_eq_ediv_of_nonneg _ (by decide)
            have e2 : lf.fmod 64 = lf % 64 := Int.fmod_eq_emod_of_nonneg _ (by decide)
            have h0 : 0 < lf := by assumption
            refine ⟨?_, ?_, ⟨?_, ?_⟩, (lf.fmod 64 + 64) :: dl, .cons _ _ h4, ?_⟩
            · simp only [e]; omega
            · simp only [e]; omega
            · simp only [kl_ins_length]; omega
            · simp only [e, kl_ins_length]; omega
            · simp only [e, e2]; rw [← h5]; exact octW_step lf dl h0 h2
          · have e : lf.fdiv 64 = lf / 64 := Int.fdiv_eq_ediv_of_nonneg _ (by decide)
            simp only [e]; omega
        · (refine' Mine.iadd_N ?F ?N ?b ?ne ?U ?z ?z2 ?_; (case F => k_asm); (case N => k_asm); (case b => k_mem); (case ne => first | exact Nat.succ_pos _ | exact (by decide) | ((try simp only [List.size_toArray]); first | assumption | omega)); (case U => k_upd); (case z => (first | exact (by decide) | kl_room | ((try simp only [List.size_toArray, sizeLine]); first | assumption | omega))); (case z2 => (first | exact (by decide) | kl_room | ((try simp only [List.size_toArray, sizeLine]); first | assumption | omega))))
          intro h' F' N'
          (repeat' (first | (k_unfold; (try dsimp only)) | (((fail_if_success (with_reducible refine Mine.stop_of (by constructor) ?_))); walk1) | (dsimp only; ((fail_if_success (with_reducible refine Mine.stop_of (by constructor) ?_))); walk1)))
          dsimp only
          refine turn_end ⟨_, _, _, _, _⟩ (by k_asm) (by k_asm) ?_ (by ((exact Mine.mpL (by repeat' (first | exact True.intro | refine And.intro rfl ?_)) (by (((intro y9 hy9); repeat (first | (with_reducible rfl) | (refine Mine.off_bind hy9 rfl ?_) | (refine Mine.off_step (Mine.off_ne hy9 rfl) ?_) | (refine Mine.off_step2 hy9 rfl ?_)))))))) (Mine.sub_cons (.tail _ (.head _)) fun p hp => .tail _ (.tail _ hp)) rfl
          have h0 : ¬ 0 < lf := by assumption
          have e : lf = 0 := by omega
          have h5' : dl = octs ch := by rw [← h5, e]; rfl
          show IntsAre (vs ++ ds.toArray).toList _
          rw [Array.toList_append, ← h5']
          exact hv.append h4
  case done =>
      intro c u h tk hJ ha F2 N2
      dsimp only at *
      (repeat' (first | (k_unfold; (try dsimp only)) | (((fail_if_success (with_reducible refine Mine.stop_of (by constructor) ?_))); walk1) | (dsimp only; ((fail_if_success (with_reducible refine Mine.stop_of (by constructor) ?_))); walk1)))
      exact hret _ _ _ _ _ hJ (by k_asm) (by k_asm) (fun p hp => Nat.ne_of_lt (‹∀ p ∈ news, p.1 < _› p hp))
end
section
set_option maxRecDepth 100000
set_option maxHeartbeats 8000000
theorem pr6 {α β γ δ ε ζ : Type} {P : α × β × γ × δ × ε × ζ → Prop} (h : ∀ a b c d e f, P (a, b, c, d, e, f)) : ∀ c, P c := fun c => h c.1 c.2.1 c.2.2.1 c.2.2.2.1 c.2.2.2.2.1 c.2.2.2.2.2
theorem spelled (w : World) (mean mg mb) (x : Str) (tx : Tok) (nb : Int) (tn : Tok) (news) (dp un gd cn cs a ccd cl outer A₀ base h₀ L m s) (Q E : Value → Shared → Prop)
   (B : Below A₀ base outer h₀) (F : Fr h₀ L s.heap m) (X : (hd1.heap_1 w.params).In h₀) (N : News h₀ L s.heap news) (T : Top pT lT mean mg mb h₀) (hcs : cs.kind = .function)
   (hxl : x.length ≤ 100) (hp : ∀ c ∈ x.cps.toList, c = 102 ∨ c = 115) (hn : 0 ≤ nb ∧ nb < 1000000) (hd : dp + 1 < recursionLimit) (hu : un + 8 < cLine)
   (hret : ∀ (y : Str) (t : Tok) h' tk', OkT y x.cps.toList → y.length ≤ 2 * x.length → Fr h₀ L h' m → News h₀ L h' news → Q (.str y t) { s with heap := h', toks := tk' }) :
   wpAny (model PySem.Challenge.rw_kl0050_01.row.prog w) (ktrTop dp un gd cn cs L a ccd cl outer) (call (.ref 185) [.str x tx, .int nb tn]) Q E s := by
  revert X; k_fill; intro X
  refine wpAny_call ?_
  k_dflt cell_enter
  (repeat' (first | (k_unfold; (try dsimp only)) | (((fail_if_success (with_reducible refine Mine.stop_of (by constructor) ?_))); (fail_if_success (with_reducible show False)); walk1) | (dsimp only; ((fail_if_success (with_reducible refine Mine.stop_of (by constructor) ?_))); (fail_if_success (with_reducible show False)); walk1)))
  rename Fr _ _ _ _ => F3
  rename News _ _ _ _ => N3
  obtain ⟨nl, hnl⟩ := nmAll N3
  rw [← hnl] at N3
  refine whileV (σ := Str × Tok × Nat × Tok × Int × Tok) [Str.ofString "choice"] (fun c => [(Str.ofString "text", some (.str c.1 c.2.1)), (Str.ofString "place", some (.int (c.2.2.1 : Nat) c.2.2.2.1)), (Str.ofString "number", some (.int c.2.2.2.2.1 c.2.2.2.2.2))]) (fun _ => nl) (SpJ x) (fun c => x.length - c.2.2.1) ⟨_, _, 0, _, _, _⟩ F3 N3 (fun p hp => hp) (by ((exact Mine.mpL (by repeat' (first | exact True.intro | refine And.intro rfl ?_)) (by (((intro y9 hy9); repeat (first | (with_reducible rfl) | (refine Mine.off_bind hy9 rfl ?_) | (refine Mine.off_step (Mine.off_ne hy9 rfl) ?_) | (refine Mine.off_step2 hy9 rfl ?_)))))))) ?hj ?turn
  case hj => exact ⟨Nat.zero_le _, hn.1, hn.2, Nat.le_refl _, by rw [List.take_zero]; exact ok_nil⟩
  case turn =>
    refine pr6 ?_
    intro y ty pl tp nu tu u h tk hJ F4 N4
    dsimp only at F4 N4
    rw [hnl] at N4
    refine box fun zG => ?_
    obtain ⟨h1, h2, h3, h4, h5⟩ := hJ
    dsimp only at h1 h2 h3 h4 h5
    refine zG ?_
    clear zG
    (repeat' (first | (k_unfold; (try dsimp only)) | (((fail_if_success (with_reducible refine Mine.stop_of (by constructor) ?_))); (fail_if_success (with_reducible show False)); walk1) | (dsimp only; ((fail_if_success (with_reducible refine Mine.stop_of (by constructor) ?_))); (fail_if_success (with_reducible show False)); walk1)))
    all_goals (try dsimp only)
    all_goals first
      | (exfalso; omega)
      | ((with_reducible show False); first
         | omega
         | exact take_st (p := pl) hp (by omega) (by with_reducible assumption)
         | (rcases take_fs hp (show pl < x.length by omega) with e | e <;> first | exact absurd e (by with_reducible assumption) | exact ne_tf (e.symm.trans (by with_reducible assumption)) | exact ne_ts (e.symm.trans (by with_reducible assumption)))
         | (rename_i q1 q2 q3
            rename (Spec.lookup _ _).isSome = true => hk
            revert hk
            simp [strData, Spec.lookup, Spec.same, Ne.symm q1, Ne.symm q2, Ne.symm q3]
            done))
      | (have ht := take_ff (x := x) (p := pl) (by omega) (by with_reducible assumption)
         refine while_end ⟨_, _, pl + 2, _, nu.fdiv 5, _⟩ (by (first | k_asm | assumption)) (by (first | k_asm | assumption)) ?_ (show x.length - (pl + 2) < x.length - pl by omega) (by ((exact Mine.mpL (by repeat' (first | exact True.intro | refine And.intro rfl ?_)) (by (((intro y9 hy9); repeat (first | (with_reducible rfl) | (refine Mine.off_bind hy9 rfl ?_) | (refine Mine.off_step (Mine.off_ne hy9 rfl) ?_) | (refine Mine.off_step2 hy9 rfl ?_)))))))) (fun p hp => .tail _ (hnl ▸ hp))
         exact sp_two h5 h4 h2 h3 ht ok_ff len_ff)
      | (have ht := take_ss (x := x) (p := pl) (by omega) (by with_reducible assumption)
         refine while_end ⟨_, _, pl + 2, _, nu.fdiv 5, _⟩ (by (first | k_asm | assumption)) (by (first | k_asm | assumption)) ?_ (show x.length - (pl + 2) < x.length - pl by omega) (by ((exact Mine.mpL (by repeat' (first | exact True.intro | refine And.intro rfl ?_)) (by (((intro y9 hy9); repeat (first | (with_reducible rfl) | (refine Mine.off_bind hy9 rfl ?_) | (refine Mine.off_step (Mine.off_ne hy9 rfl) ?_) | (refine Mine.off_step2 hy9 rfl ?_)))))))) (fun p hp => .tail _ (hnl ▸ hp))
         exact sp_two h5 h4 h2 h3 ht ok_ss len_ss)
      | (have ht := take_f (x := x) (p := pl) (by omega) (by with_reducible assumption)
         refine while_end ⟨_, _, pl + 1, _, nu.fdiv 5, _⟩ (by (first | k_asm | assumption)) (by (first | k_asm | assumption)) ?_ (show x.length - (pl + 1) < x.length - pl by omega) (by ((exact Mine.mpL (by repeat' (first | exact True.intro | refine And.intro rfl ?_)) (by (((intro y9 hy9); repeat (first | (with_reducible rfl) | (refine Mine.off_bind hy9 rfl ?_) | (refine Mine.off_step (Mine.off_ne hy9 rfl) ?_) | (refine Mine.off_step2 hy9 rfl ?_)))))))) (fun p hp => .tail _ (hnl ▸ hp))
         first
           | exact sp_one h5 h4 h2 h3 (by omega) ht (ok_f sp_mod.1 sp_mod.2) rfl
           | exact sp_one2 h5 h4 h2 h3 (by omega) ht (ok_0 sp_mod4.1 sp_mod4.2) rfl (ok_f sp_mod.1 sp_mod.2) rfl)
      | (have ht := take_s (x := x) (p := pl) (by omega) (by with_reducible assumption)
         refine while_end ⟨_, _, pl + 1, _, nu.fdiv 5, _⟩ (by (first | k_asm | assumption)) (by (first | k_asm | assumption)) ?_ (show x.length - (pl + 1) < x.length - pl by omega) (by ((exact Mine.mpL (by repeat' (first | exact True.intro | refine And.intro rfl ?_)) (by (((intro y9 hy9); repeat (first | (with_reducible rfl) | (refine Mine.off_bind hy9 rfl ?_) | (refine Mine.off_step (Mine.off_ne hy9 rfl) ?_) | (refine Mine.off_step2 hy9 rfl ?_)))))))) (fun p hp => .tail _ (hnl ▸ hp))
         first
           | exact sp_one h5 h4 h2 h3 (by omega) ht (ok_s sp_mod.1 sp_mod.2) rfl
           | exact sp_one2 h5 h4 h2 h3 (by omega) ht (ok_0 sp_mod4.1 sp_mod4.2) rfl (ok_s sp_mod.1 sp_mod.2) rfl)
      | (exfalso; exact take_st (p := pl) hp (by omega) (by with_reducible assumption))
      | (exfalso
         have et : Txt.item x (pl : Int) = Str.ofString "t" := by with_reducible assumption
         rcases take_fs hp (show pl < x.length by omega) with e | e
         · exact ne_tf (e.symm.trans et)
         · exact ne_ts (e.symm.trans et))
      | (have e : pl = x.length := by omega
         refine hret y _ _ _ ?_ (by have := h4; omega) (by (first | k_asm | assumption)) (news_sub (by (first | k_asm | assumption)) (fun p hp => .tail _ (.tail _ hp)))
         rw [e] at h5
         rwa [List.take_of_length_le (by simp [Str.length])] at h5)
end
section
set_option maxRecDepth 100000
set_option maxHeartbeats 8000000
noncomputable def pathStep (u : Str × Int) (n : Int) : Str × Int := (u.1 ++ (Txt.mul (Str.ofString "s") (u.2 - n) ++ Str.ofString "f"), n + 1)
noncomputable abbrev pathG (ns : List Int) : Str × Int := ns.foldl pathStep (Str.ofString "", 0)
noncomputable def pathF (ns : List Int) : Str := (pathG ns).1 ++ Txt.mul (Str.ofString "s") (pathG ns).2
theorem pathG_snoc {ns : List Int} {i : Nat} {n : Int} (h : ns[i]? = some n) : pathG (ns.take (i + 1)) = pathStep (pathG (ns.take i)) n := by
  rw [List.take_add_one, h, pathG, List.foldl_append]; rfl
theorem path (w : World) (mean mg mb) (l : Addr) (vs : List Value) (nn : Nat) (ns : List Int) {news : Led} {dp un gd cn cs a ccd cl outer A₀ base h₀ L m s} {Q E : Value → Shared → Prop}
   (B : Below A₀ base outer h₀) (F : Fr h₀ L s.heap m) (X : (hd1.heap_1 w.params).In h₀) (N : News h₀ L s.heap news) (T : Top pT lT mean mg mb h₀) (hcs : cs.kind = .function)
   (hl : (l, listOf vs.toArray nn) ∈ news) (hi : IntsAre vs ns) (hn : ns.length ≤ 6) (hb : ∀ n ∈ ns, 0 ≤ n ∧ n ≤ 10) (hd : dp + 1 < recursionLimit) (hu : un + 8 < cLine)
   (hret : ∀ (t : Tok) h' tk', Fr h₀ L h' m → News h₀ L h' news → Q (.str (pathF ns) t) { s with heap := h', toks := tk' }) :
   wpAny (model PySem.Challenge.rw_kl0050_01.row.prog w) (ktrTop dp un gd cn cs L a ccd cl outer) (call (.ref 223) [.ref l]) Q E s := by
  revert X; k_fill; intro X
  refine wpAny_call ?_
  k_dflt cell_enter
  (repeat' (first | (k_unfold; (try dsimp only)) | (((fail_if_success (with_reducible refine Mine.stop_of (by constructor) ?_))); walk1) | (dsimp only; ((fail_if_success (with_reducible refine Mine.stop_of (by constructor) ?_))); walk1)))
  (((rename Fr _ _ _ _ => Fm9); (with_reducible apply for_go Fm9); (case hx => with_unfolding_all rfl); (case hp => with_unfolding_all rfl); (case hs => (intro _; with_unfolding_all rfl))))
  (repeat' (first | (k_unfold; (try dsimp only)) | (((fail_if_success (with_reducible refine Mine.stop_of (by constructor) ?_))); walk1) | (dsimp only; ((fail_if_success (with_reducible refine Mine.stop_of (by constructor) ?_))); walk1)))
  rename Fr _ _ _ _ => F1
  rename News _ _ _ _ => N1
  refine listL (σ := Str × Tok × Int × Tok) (vs := vs) (nn := nn) (fun c => [(Str.ofString "level", some (.int c.2.2.1 c.2.2.2)), (Str.ofString "row", some (.str c.1 c.2.1))]) (fun _ => news) (fun i c => c.1 = (pathG (ns.take i)).1 ∧ c.2.2.1 = (pathG (ns.take i)).2 ∧ c.1.length ≤ 20 * i ∧ 0 ≤ c.2.2.1 ∧ c.2.2.1 ≤ 11) ⟨_, _, 0, _⟩ rfl (fun _ => hl) F1 N1 rfl (by ((exact Mine.mpL (by repeat' (first | exact True.intro | refine And.intro rfl ?_)) (by (((intro y9 hy9); repeat (first | (with_reducible rfl) | (refine Mine.off_bind hy9 rfl ?_) | (refine Mine.off_step (Mine.off_ne hy9 rfl) ?_) | (refine Mine.off_step2 hy9 rfl ?_)))))))) ?hj ?turn ?done
  case hj => exact ⟨rfl, rfl, Nat.le_refl _, Int.le_refl _, (by decide : (0 : Int) ≤ 11)⟩
  case turn =>
    intro i v
    refine pr4 ?_
    intro y ty lv tl h tk rest hv hJ ha hr F2 N2
    dsimp only at F2 N2
    refine box fun zG => ?_
    obtain ⟨h1, h2, h3, h4, h5⟩ := hJ
    dsimp only at h1 h2 h3 h4 h5
    obtain ⟨n, tn, rfl, hni⟩ := hi.at i v hv
    refine zG ?_
    clear zG
    have hnb := hb n (List.mem_of_getElem? hni)
    have hi6 : i < 6 := Nat.lt_of_lt_of_le (List.getElem?_eq_some_iff.mp hni).1 hn
    (repeat' (first | (k_unfold; (try dsimp only)) | (((fail_if_success (with_reducible refine Mine.stop_of (by constructor) ?_))); walk1) | (dsimp only; ((fail_if_success (with_reducible refine Mine.stop_of (by constructor) ?_))); walk1)))
    dsimp only
    refine turn_end ⟨_, _, _, _⟩ (by (first | k_asm | assumption)) (by (first | k_asm | assumption)) ?_ (by ((exact Mine.mpL (by repeat' (first | exact True.intro | refine And.intro rfl ?_)) (by (((intro y9 hy9); repeat (first | (with_reducible rfl) | (refine Mine.off_bind hy9 rfl ?_) | (refine Mine.off_step (Mine.off_ne hy9 rfl) ?_) | (refine Mine.off_step2 hy9 rfl ?_)))))))) (fun p hp => hp) rfl
    rw [pathG_snoc hni]
    refine ⟨?_, rfl, ?_, ?_, ?_⟩
    · rw [h1, h2]; rfl
    · show (y ++ _).length ≤ _
      have e1 : (Str.ofString "f").length = 1 := by decide +kernel
      have k1 := ‹lv - n < 0 → (Txt.mul (Str.ofString "s") (lv - n)).length = 0›
      have k2 := ‹0 ≤ lv - n → ((Txt.mul (Str.ofString "s") (lv - n)).length : Int) = _›
      rcases Int.lt_or_le (lv - n) 0 with h | h
      · have := k1 h; omega
      · have := k2 h; omega
    · show 0 ≤ n + 1; omega
    · show n + 1 ≤ 11; omega
  case done =>
    refine pr4 ?_
    intro y ty lv tl u h tk hJ ha F2 N2
    have hlen := hi.length
    dsimp only at F2 N2
    refine box fun zG => ?_
    obtain ⟨h1, h2, h3, h4, h5⟩ := hJ
    dsimp only at h1 h2 h3 h4 h5
    refine zG ?_
    clear zG
    rw [hlen, List.take_length] at h1 h2
    rw [hlen] at h3
    (repeat' (first | (k_unfold; (try dsimp only)) | (((fail_if_success (with_reducible refine Mine.stop_of (by constructor) ?_))); walk1) | (dsimp only; ((fail_if_success (with_reducible refine Mine.stop_of (by constructor) ?_))); walk1)))
    rw [h1, h2]
    exact hret _ _ _ (by (first | k_asm | assumption)) (by (first | k_asm | assumption))
end
section
set_option maxRecDepth 100000
set_option maxHeartbeats 1000000
noncomputable def pairsStep (σ : Int × Int × Unit) (k : Str) : Int × Int × Unit := if (k == Str.ofString "f") = true then (σ.1, σ.2.1 + 1, ()) else (σ.1 + σ.2.1, σ.2.1, ())
noncomputable def pairsF (x : Str) : Int := ((PyProof.Rows.signs x).foldl pairsStep (0, 0, ())).1
theorem pairs (w : World) (mean mg mb) (x : Str) (tx : Tok) {news : Led} {dp un gd cn cs a ccd cl outer A₀ base h₀ L m s} {Q E : Value → Shared → Prop}
   (B : Below A₀ base outer h₀) (F : Fr h₀ L s.heap m) (X : (hd1.heap_1 w.params).In h₀) (N : News h₀ L s.heap news) (T : Top pT lT mean mg mb h₀) (hcs : cs.kind = .function)
   (hx : x.length ≤ 100) (hd : dp + 1 < recursionLimit) (hu : un + 8 < cLine)
   (hret : ∀ (t : Tok) h' tk', Fr h₀ L h' m → News h₀ L h' news → Q (.int (pairsF x) t) { s with heap := h', toks := tk' }) :
   wpAny (model PySem.Challenge.rw_kl0050_01.row.prog w) (ktrTop dp un gd cn cs L a ccd cl outer) (call (.ref 256) [.str x tx]) Q E s := by
  revert X; k_fill; intro X
  refine wpAny_call ?_
  k_dflt cell_enter
  k_steps
  exact hret _ _ _ (by (first | k_asm | assumption)) (by (first | k_asm | assumption))
end
section
open LCg LCt
set_option maxRecDepth 100000
section
variable {prog : Program} {w : World} {A : Around} {E : Value → Shared → Prop} {s : Shared} {h₀ : Heap} {L : Addr} {m : Str → Option Value} {env : Env}
theorem restT_of {ct elt : Expr} {x : Str} {scope : Scope} {cl : List (Str × Addr)} {S : List (Addr × Obj) → Prop} {P : Nat → Value → Prop} {Fin : List Value → List (Addr × Obj) → Prop} {n : Nat} (J : Nat → List Value → Led → Prop)
    (turn : ∀ i ys news v I oI C oC D m₂ h tk (E' : Value → Shared → Prop), i < n → J i ys news → P i v → NsObj oC m₂ → m₂ x = some v → Fr h₀ L h m → News h₀ L h ((I, oI) :: (C, oC) :: (D, lst ys) :: news) → Off3 I C D news → ((@Ne Nat I C) ∧ (@Ne Nat I D) ∧ (@Ne Nat C D)) →
      wpAny (model prog w) A (isTrue ct (compEnvC scope cl C env) (eval ct (compEnvC scope cl C env))) (fun ok s' => if ok = true then
        wpAny (model prog w) A (eval elt (compEnvC scope cl C env)) (CompEnd h₀ L m { s with heap := h, toks := tk } I oI C oC D (lst ys) S (fun y news' => J (i + 1) (ys ++ [y]) news')) E' s'
        else CompEnd h₀ L m { s with heap := h, toks := tk } I oI C oC D (lst ys) S (fun _ news' => J (i + 1) ys news') Value.none s') E' { s with heap := h, toks := tk })
    (fin : ∀ ys news, J n ys news → Fin ys news) : ∀ k i ys news, n - i = k → i ≤ n → J i ys news → CompRestT prog w A h₀ L m env ct elt x scope cl s S P Fin k i ys news := by
  intro k
  induction k with
  | zero =>
    intro i ys news hk hi hJ
    obtain rfl : i = n := by omega
    exact fin ys news hJ
  | succ k ih =>
    intro i ys news hk hi hJ
    refine CompRestT.succ fun v I oI C oC D m₂ h tk E' hP hC hx F N off ne => ?_
    refine wpAny_mono (turn i ys news v I oI C oC D m₂ h tk E' (by omega) hJ hP hC hx F N off ne) (fun ok s' q => ?_) fun _ _ e => e
    cases ok with
    | true =>
      simp only [if_true] at q ⊢
      refine wpAny_mono q (fun y s₂ q => ?_) fun _ _ e => e
      refine box fun zG => ?_
      obtain ⟨h', tk', news', e, F', N', off', hS, hJ'⟩ := q
      refine zG ?_
      clear zG
      exact ⟨h', tk', news', e, F', N', off', hS, ih (i + 1) _ _ (by omega) (by omega) hJ'⟩
    | false =>
      simp only [Bool.false_eq_true, if_false] at q ⊢
      refine box fun zG => ?_
      obtain ⟨h', tk', news', e, F', N', off', hS, hJ'⟩ := q
      refine zG ?_
      clear zG
      exact ⟨h', tk', news', e, F', N', off', hS, ih (i + 1) _ _ (by omega) (by omega) hJ'⟩

theorem restU_of {elt : Expr} {x : Str} {scope : Scope} {cl : List (Str × Addr)} {S : List (Addr × Obj) → Prop} {P : Nat → Value → Prop} {Fin : List Value → List (Addr × Obj) → Prop} {n : Nat} (J : Nat → List Value → Led → Prop)
    (turn : ∀ i ys news v I oI C oC D m₂ h tk (E' : Value → Shared → Prop), i < n → J i ys news → P i v → NsObj oC m₂ → m₂ x = some v → Fr h₀ L h m → News h₀ L h ((I, oI) :: (C, oC) :: (D, lst ys) :: news) → Off3 I C D news → ((@Ne Nat I C) ∧ (@Ne Nat I D) ∧ (@Ne Nat C D)) →
      wpAny (model prog w) A (eval elt (compEnvC scope cl C env)) (CompEnd h₀ L m { s with heap := h, toks := tk } I oI C oC D (lst ys) S (fun y news' => J (i + 1) (ys ++ [y]) news')) E' { s with heap := h, toks := tk })
    (fin : ∀ ys news, J n ys news → Fin ys news) : ∀ k i ys news, n - i = k → i ≤ n → J i ys news → CompRest prog w A h₀ L m env elt x scope cl s S P Fin k i ys news := by
  intro k
  induction k with
  | zero =>
    intro i ys news hk hi hJ
    obtain rfl : i = n := by omega
    exact fin ys news hJ
  | succ k ih =>
    intro i ys news hk hi hJ
    refine CompRest.succ fun v I oI C oC D m₂ h tk E' hP hC hx F N off ne => ?_
    refine wpAny_mono (turn i ys news v I oI C oC D m₂ h tk E' (by omega) hJ hP hC hx F N off ne) (fun y s₂ q => ?_) fun _ _ e => e
    refine box fun zG => ?_
    obtain ⟨h', tk', news', e, F', N', off', hS, hJ'⟩ := q
    refine zG ?_
    clear zG
    exact ⟨h', tk', news', e, F', N', off', hS, ih (i + 1) _ _ (by omega) (by omega) hJ'⟩

theorem str_walk {xt : Str} {tx : Tok} {s₁ : Shared} {Q : Value → Shared → Prop}
    (hQ : ∀ (o : Obj) (St : Nat → Heap → Prop), (∀ A' : Around, A'.handled = none → Walks prog w A' s₁.heap.objs.size [s₁.heap.objs.size] [s₁.heap.objs.size] xt.cps.size (SignAt xt) St) →
      (∀ i h, St i h → ∃ o, h.get? s₁.heap.objs.size = some o) → (∀ i h h' o, St i h → h.get? s₁.heap.objs.size = some o → h'.get? s₁.heap.objs.size = some o → St i h') → St 0 (s₁.heap.push o) →
      Q (.ref s₁.heap.objs.size) { s₁ with heap := s₁.heap.push o }) : wpAny (model prog w) A (pyIter (.str xt tx)) Q E s₁ := by
  cases ha : xt.cps.all (· < 128)
  · exact wpAny_pyIter_wide ha (hQ _ (fun i h => h.IsStrIter s₁.heap.objs.size "str_iterator" xt tx i) (fun A' hA => Walks.strWide hA _ xt tx) (fun i h st => let ⟨o, e, _⟩ := st; ⟨o, e⟩)
      (fun i h h' o st e e' => by obtain ⟨o', q, r⟩ := st; rw [e] at q; cases q; exact ⟨o, e', r⟩) ⟨_, Heap.get?_push_size _ rfl, rfl, rfl⟩)
  · exact wpAny_pyIter_ascii ha (hQ _ (fun i h => h.IsStrIter s₁.heap.objs.size "str_ascii_iterator" xt tx i) (fun A' hA => Walks.strAscii hA _ xt tx) (fun i h st => let ⟨o, e, _⟩ := st; ⟨o, e⟩)
      (fun i h h' o st e e' => by obtain ⟨o', q, r⟩ := st; rw [e] at q; cases q; exact ⟨o, e', r⟩) ⟨_, Heap.get?_push_size _ rfl, rfl, rfl⟩)

noncomputable def StrSrcT (prog : Program) (w : World) (A : Around) (h₀ : Heap) (L : Addr) (m : Str → Option Value) (env : Env) (ct elt : Expr) (x : Str) (scope : Scope) (cl : List (Str × Addr)) (Q : Value → Shared → Prop) (xv : Value) (s₁ : Shared) : Prop :=
  ∃ xt tx news, xv = .str xt tx ∧ A.handled = none ∧ Fr h₀ L s₁.heap m ∧ News h₀ L s₁.heap news ∧ xt.cps.size ≤ sizeLine ∧
    ∀ g, CompRestT prog w A h₀ L m env ct elt x scope cl { s₁ with heap := g } (fun _ => True) (SignAt xt) (FinE h₀ L m { s₁ with heap := g } Q) xt.cps.size 0 [] news
theorem ListComp_str {ct elt iter : Expr} {x : Str} {px : Pos} {scope : Scope} {cl : List (Str × Addr)} {pos : Pos} {Q : Value → Shared → Prop} (F₀ : Fr h₀ L s.heap m)
    (hclos : closureFor scope env = pure cl) (hcell : ∀ y ∈ scope.names, y.2 ≠ .cell) (hkind : scope.kind = .function)
    (hnames : ∀ y ∈ scope.names, y.2 = .local → scope.names.lookup y.1 = some .local) (hx : scope.names.lookup x = some .local)
    (h : wpAny (model prog w) A (eval iter env) (StrSrcT prog w A h₀ L m env ct elt x scope cl Q) E s)
    (hs : ∀ x, foldedSetIterable iter env x = pure x := by intro _; rfl) :
    wpAny (model prog w) A (eval (.ListComp elt [⟨.Name x px, iter, [ct], 0⟩] scope pos) env) Q E s := by
  rw [eval_ListComp]
  refine wpAny_comprehension_free (use := none) rfl hs hclos hkind hnames (wpAny_mono h (fun xv s₁ h₁ => ?_) fun _ _ e => e)
  rcases h₁ with ⟨xt, tx, news, rfl, hh, F, N, hsz, R⟩
  refine str_walk fun o St W hIo hSt hst => ?_
  refine block_T (W _ hh) hsz hIo (fun i h h' o nw st e e' _ _ _ => hSt i h h' o st e e') hcell hkind hx hst (fun b hb => ?_)
    (F.keeps fun _ _ e => Heap.get?_push_of_some _ e) (N.grown fun _ _ e => Heap.get?_push_of_some _ e) (Nat.ne_of_lt F.ns.lt) (next_is_new F) (fun p hp => Nat.ne_of_lt (Heap.lt_size (N p hp).1)) trivial (R _) ?_
  · rw [List.mem_singleton.mp hb]
    show s₁.heap.objs.size < (s₁.heap.push _).objs.size
    rw [Heap.size_push]; exact Nat.lt_succ_self _
  · intro D C h tk m' ys news' F' N' o1 hn hC₀ hD₀ hCL hDL hCD offC fin
    refine ⟨m', hn, fun h'' hs'' => fin D h'' tk (F'.change hs'' hCL hC₀) (fun p hp => ?_) o1⟩
    refine ⟨hs''.extBut _ _ ?_ (N' p hp).1, (N' p hp).2⟩
    rcases List.mem_cons.mp hp with rfl | hp
    · exact Ne.symm hCD
    · exact offC p hp
end
end
section
set_option maxRecDepth 100000
set_option maxHeartbeats 8000000
open LCg LCt
noncomputable abbrev List6 (ys : List Value) : Prop := ∃ ns : List Int, IntsAre ys ns ∧ ns.length = 6 ∧ ∀ n ∈ ns, 0 ≤ n ∧ n < 1000000
theorem pair_go {α : Type} {prog : Program} {w : World} {A : Around} {E : Value → Shared → Prop} {h₀ : Heap} {L : Addr} {K : ItemKind α} {as : List α} {xv : Value} {s : Shared} {m : Str → Option Value} {news : List (Addr × Obj)} {env : Env} {xi xc : Str} {body : List Stmt} {Q : Flow → Shared → Prop}
    (hS : PairSrcL prog w A E h₀ L K as xv s m news) (hL : env.locals = L) (J : (Str → Option Value) → Nat → (Str → Option Value) → List (Addr × Obj) → Prop) (h0 : J m 0 m news)
    (step : ∀ (i : Nat) a t v m₁ news₁ s₁ own, (∃ h tk, s₁ = { s with heap := h, toks := tk }) → as[i]? = some a → K.is a v → J m i m₁ news₁ → news₁.map (·.1) = news.map (·.1) → (∀ p ∈ own, ∀ q ∈ news, p.1 ≠ q.1) →
      Fr h₀ env.locals s₁.heap (fun y => if y = xc then some v else if y = xi then some (.int i t) else m₁ y) → News h₀ env.locals s₁.heap (own ++ news₁) →
      wpAny (model prog w) A (execs body env) (LoopStep3 h₀ env.locals own news₁ (J m (i + 1)) s₁ (fun v s' => Q (.ret v) s') fun s' => Q .next s') E s₁)
    (done : ∀ h' tk m' news', Fr h₀ env.locals h' m' → News h₀ env.locals h' news' → news'.map (·.1) = news.map (·.1) → J m as.length m' news' → Q .next { s with heap := h', toks := tk }) :
    wpAny (model prog w) A (pyIter xv) (fun it s₂ => PairAt3 prog w A h₀ env xi xc body Q E it s₂) E s := hS env hL xi xc body Q (J m) h0 step done
theorem sub_rot {a b p : Addr × Obj} {news own : Led} (h : p ∈ own ++ (a :: b :: news)) : p ∈ a :: b :: (news ++ own) := by
  rcases List.mem_append.mp h with h | h
  · exact .tail _ (.tail _ (List.mem_append.mpr (.inr h)))
  · rcases List.mem_cons.mp h with h | h
    · rw [h]; exact .head _
    · rcases List.mem_cons.mp h with h | h
      · rw [h]; exact .tail _ (.head _)
      · exact .tail _ (.tail _ (List.mem_append.mpr (.inl h)))
theorem nm_map {v v2 ua ub : Option Value} {mm : Map} : (fun y => if y = Str.ofString "x" then v else if y = Str.ofString "place" then v2 else if y = Str.ofString "x" then ua else if y = Str.ofString "place" then ub else mm y) = fun y => if y = Str.ofString "x" then v else if y = Str.ofString "place" then v2 else mm y := by
  funext y
  by_cases h : y = Str.ofString "x" <;> by_cases h' : y = Str.ofString "place" <;> simp [h, h']
theorem ints_at {vs : List Value} {ns : List Int} (h : IntsAre vs ns) : ∀ {i : Nat}, i < ns.length → ∃ t, vs[i]? = some (.int (ns.getD i 0) t) := by
  induction h with
  | nil => intro i h; exact absurd h (Nat.not_lt_zero _)
  | cons x t _ ih =>
    intro i h
    cases i with
    | zero => exact ⟨t, rfl⟩
    | succ i =>
      obtain ⟨t', e⟩ := ih (Nat.lt_of_succ_lt_succ h)
      exact ⟨t', by simpa using e⟩
theorem ints_set : ∀ {vs : List Value} {ns : List Int} {k : Nat} {z : Int} {u : Tok}, IntsAre vs ns → IntsAre (vs.set k (.int z u)) (ns.set k z)
  | _, _, _, _, _, .nil => .nil
  | _, _, 0, _, _, .cons _ _ h => .cons _ _ h
  | _, _, _ + 1, _, _, .cons _ _ h => .cons _ _ (ints_set h)
theorem numbers (w : World) (mean mg mb) (dp un gd cn cs a ccd cl outer A₀ base h₀ L m s) (Q E : Value → Shared → Prop) (news : List (Addr × Obj)) (l : Addr) (vs : List Value) (ns : List Int) (o : Addr) (u0 u1 u2 u3 u4 u5 : Tok) (no : Nat)
   (B : Below A₀ base outer h₀) (F : Fr h₀ L s.heap m) (X : (hd1.heap_1 w.params).In h₀) (N : News h₀ L s.heap ((o, listOf #[.int 1 u0, .int 1 u1, .int 2 u2, .int 0 u3, .int 1 u4, .int 314159 u5] no) :: news)) (T : Top pT lT mean mg mb h₀) (hcs : cs.kind = .function)
   (hl : base.IsList l vs.toArray) (hi : IntsAre vs ns) (hn : ns.length ≤ 63) (hd : dp + 2 < recursionLimit) (hu : un + 12 < cLine)
   (hret : ∀ (r : Addr) (n : Nat) (ys : List Value) h' tk', List6 ys → Fr h₀ L h' m → News h₀ L h' ((r, listOf ys.toArray n) :: news) → (∀ p ∈ news, p.1 ≠ r) → Q (.ref r) { s with heap := h', toks := tk' }) :
   wpAny (model PySem.Challenge.rw_kl0050_01.row.prog w) (ktrTop dp un gd cn cs L a ccd cl outer) (call (.ref 216) [.ref l, .ref o]) Q E s := by
  revert X; k_fill; intro X
  refine wpAny_call ?_
  k_dflt cell_enter
  k_steps
  rename_i D' c' h1 l1 h2 F2 N2 h3 e3 F3 N3 hS
  refine pair_go hS rfl (fun mm i m₁ news₁ => ∃ (ks : List Value) (js : List Int) (c : Nat) (ua ub : Option Value), IntsAre ks js ∧ js.length = 6 ∧
     news₁ = (D', listOf ks.toArray c) :: (o, listOf #[.int 1 u0, .int 1 u1, .int 2 u2, .int 0 u3, .int 1 u4, .int 314159 u5] no) :: news ∧ m₁ = fun y => if y = Str.ofString "x" then ua else if y = Str.ofString "place" then ub else mm y) ?h0 ?step ?done
  case h0 => exact ⟨_, _, _, none, none, .cons _ _ (.cons _ _ (.cons _ _ (.cons _ _ (.cons _ _ (.cons _ _ .nil))))), rfl, rfl, by funext y; by_cases h : y = Str.ofString "x" <;> by_cases h' : y = Str.ofString "place" <;> simp [h, h'] <;> rfl⟩
  case step => 
    intro i a t v m₁ news₁ s₁ own hs1 hai hav hJ hadr hoff Fs Ns
    clear hS
    refine box fun zG => ?_
    obtain ⟨h, tk, rfl⟩ := hs1
    obtain ⟨ks, js, c, ua, ub, hks, hjl, rfl, rfl⟩ := hJ
    obtain ⟨tv, rfl⟩ := ItemKind.int_is hav
    refine zG ?_
    clear zG
    replace Ns := news_swap Ns
    simp only [List.cons_append] at Ns
    have hAll : ∀ p ∈ (o, listOf #[.int 1 u0, .int 1 u1, .int 2 u2, .int 0 u3, .int 1 u4, .int 314159 u5] no) :: (news ++ own), p.1 ≠ D' := by
      intro p hp
      rcases List.mem_cons.mp hp with rfl | hp
      · exact Nat.ne_of_lt l1.1
      · rcases List.mem_append.mp hp with hp | hp
        · exact Mine.allLt_ne l1.2 p hp
        · exact hoff p hp _ (.head _)
    (repeat' (first | (k_unfold; (try dsimp only)) | (((fail_if_success (with_reducible refine Mine.stop_of (by constructor) ?_))); walk1) | (dsimp only; ((fail_if_success (with_reducible refine Mine.stop_of (by constructor) ?_))); walk1)))
    refine LoopStep2.intro (by (first | k_asm | assumption)) (news_sub (by (first | k_asm | assumption)) (fun p hp => sub_rot hp)) ?_ ⟨_, _, _, _, _, ints_set hks, by rw [List.length_set]; exact hjl, rfl, nm_map⟩
    rfl
  case done => 
    intro h' tk m' news' F4 N4 ha hJ
    refine box fun zG => ?_
    obtain ⟨ks, js, c, ua, ub, hks, hjl, rfl, rfl⟩ := hJ
    refine zG ?_
    clear zG
    (repeat' (first | (k_unfold; (try dsimp only)) | (((fail_if_success (with_reducible refine Mine.stop_of (by constructor) ?_))); walk1) | (dsimp only; ((fail_if_success (with_reducible refine Mine.stop_of (by constructor) ?_))); walk1)))
    refine ListComp_U (F₀ := by k_asm) (by with_unfolding_all rfl) (by decide) (by rfl) (by decide) (by rfl) ?_
    walk1
    have hkl : ks.toArray.size = 6 := by rw [List.size_toArray, hks.length, hjl]
    refine CompSrc.ledger rfl (by (first | k_asm | assumption)) (by (first | k_asm | assumption)) (.head _) (by rw [hkl]; decide) (fun g => restU_of (fun i ys nw => nw = (D', listOf ks.toArray c) :: (o, listOf #[.int 1 u0, .int 1 u1, .int 2 u2, .int 0 u3, .int 1 u4, .int 314159 u5] no) :: news ∧ ∃ ns : List Int, IntsAre ys ns ∧ ns.length = i ∧ ∀ n ∈ ns, 0 ≤ n ∧ n < 1000000) ?turn ?fin _ 0 [] _ rfl (Nat.zero_le _) ⟨rfl, [], .nil, rfl, fun _ h => nomatch h⟩)
    case turn =>
      intro i ys nw v I oI C oC D m₂ h tk E' hi hJ hv hC hx F5 N5 off ne
      refine box fun zG => ?_
      obtain ⟨rfl, ns, hys, hlen, hbd⟩ := hJ
      obtain ⟨tv, hv2⟩ := ints_at hks (i := i) (by rw [← hks.length]; exact hi)
      obtain rfl : v = .int _ tv := Option.some.inj (hv.symm.trans (by simpa using hv2))
      refine zG ?_
      clear zG
      (repeat' (first | (k_unfold; (try dsimp only)) | (((fail_if_success (with_reducible refine Mine.stop_of (by constructor) ?_))); walk1) | (dsimp only; ((fail_if_success (with_reducible refine Mine.stop_of (by constructor) ?_))); walk1)))
      refine CompEnd.intro (by (first | k_asm | assumption)) (by (first | k_asm | assumption)) _ (fun p hp => hp) off (.inr ⟨_, .head _, rfl, _, rfl⟩) ⟨rfl, ns ++ [_], intsAre_snoc hys, by simp [hlen], fun n hn => ?_⟩
      rcases List.mem_append.mp hn with hn | hn
      · exact hbd n hn
      · obtain rfl := List.mem_singleton.mp hn
        rw [Int.fmod_eq_emod_of_nonneg _ (by decide)]
        exact ⟨Int.emod_nonneg _ (by decide), Int.emod_lt_of_pos _ (by decide)⟩
    case fin =>
      intro ys nw hJ D h tk F5 N5 off
      refine box fun zG => ?_
      obtain ⟨rfl, ns, hys, hlen, hbd⟩ := hJ
      refine zG ?_
      clear zG
      (repeat' (first | (k_unfold; (try dsimp only)) | (((fail_if_success (with_reducible refine Mine.stop_of (by constructor) ?_))); walk1) | (dsimp only; ((fail_if_success (with_reducible refine Mine.stop_of (by constructor) ?_))); walk1)))
      refine hret _ _ ys _ _ ⟨ns, hys, hlen.trans hkl, hbd⟩ (by (first | k_asm | assumption)) (news_sub (by (first | k_asm | assumption)) (Mine.sub_cons (.head _) (fun p hp => .tail _ (.tail _ (.tail _ hp))))) (fun p hp => off1_ne off p (.tail _ (.tail _ hp)))
end
section
set_option maxRecDepth 100000
set_option maxHeartbeats 2000000
noncomputable def es122 : Array (Int × Value) := #[(65024, (Value.int 65024 348)), (65025, (Value.int 65025 349)), (65026, (Value.int 65026 350)), (65027, (Value.int 65027 351)), (65028, (Value.int 65028 352)), (65029, (Value.int 65029 353)), (6150, (Value.int 6150 334)), (65030, (Value.int 65030 354)), (65031, (Value.int 65031 355)), (65032, (Value.int 65032 356)), (65033, (Value.int 65033 357)), (6155, (Value.int 6155 335)), (6156, (Value.int 6156 336)), (6157, (Value.int 6157 337)), (8203, (Value.int 8203 338)), (8204, (Value.int 8204 339)), (8205, (Value.int 8205 340)), (65034, (Value.int 65034 358)), (65035, (Value.int 65035 359)), (65036, (Value.int 65036 360)), (65037, (Value.int 65037 361)), (65038, (Value.int 65038 362)), (65039, (Value.int 65039 363)), (173, (Value.int 173 332)), (847, (Value.int 847 333)), (8288, (Value.int 8288 341)), (65279, (Value.int 65279 342))]
noncomputable def s122 (k : Int) : Bool := es122.toList.any fun e => Value.isInt k e.2
noncomputable def elemOk (e : Int × Value) : Bool := match e.2 with
  | .int k _ => e.1 == hashInt k
  | _ => false
theorem setOf122 {prog : Program} {w : World} {h : Heap} {P : Params} (ho : h.get? 122 = some (o_12_122 P)) : h.SetOf (intKind prog w) 122 s122 27 := by
  refine ⟨_, es122, _, _, ho, ⟨rfl, rfl, rfl⟩, rfl, fun e he => ?_, fun k => ?_, by decide, by rfl, by rfl⟩
  · have h1 : es122.toList.all elemOk = true := by decide +kernel
    have h2 := List.all_eq_true.mp h1 e he
    unfold elemOk at h2
    split at h2
    · rename_i k t hk
      rw [hk]
      exact ⟨⟨k, by simp [intKind, Value.isInt], beq_iff_eq.mp h2⟩, rfl⟩
    · cases h2
  · exact List.any_eq_true
theorem s122_prep {c : Nat} (hc : c ∈ alph) : s122 (c : Int) = (prep1 c).isEmpty := by
  have h1 : alph.all (fun c => s122 (c : Int) == (prep1 c).isEmpty) = true := by decide +kernel
  exact beq_iff_eq.mp (List.all_eq_true.mp h1 c hc)
theorem inb1 (w : World) (mean mg mb) (c : Nat) (tx : Tok) (hc : c ∈ alph) {news : Led} {dp un gd cn cs a ccd cl outer A₀ base h₀ L m s} {Q E : Value → Shared → Prop}
   (B : Below A₀ base outer h₀) (F : Fr h₀ L s.heap m) (X : (hd1.heap_1 w.params).In h₀) (N : News h₀ L s.heap news) (T : Top pT lT mean mg mb h₀) (h122 : base.get? 122 = some (o_12_122 w.params)) (hcs : cs.kind = .function) (hd : dp + 1 < recursionLimit) (hu : un + 8 < cLine)
   (hret : ∀ h' tk', Fr h₀ L h' m → News h₀ L h' news → Q (.bool (prep1 c).isEmpty) { s with heap := h', toks := tk' }) :
   wpAny (model PySem.Challenge.rw_kl0050_01.row.prog w) (ktrTop dp un gd cn cs L a ccd cl outer) (call (.ref 132) [.str ⟨#[c]⟩ tx]) Q E s := by
  revert X; k_fill; intro X
  refine wpAny_call ?_
  k_dflt cell_enter
  (repeat' (first | (k_unfold; (try dsimp only)) | (((fail_if_success (with_reducible refine Mine.stop_of (by constructor) ?_))); walk1) | (dsimp only; ((fail_if_success (with_reducible refine Mine.stop_of (by constructor) ?_))); walk1)))
  refine wpAny_inSet_of (knd := intKind _ _) (k := (c : Int)) (intKind_is _ _ _ _) rfl (setOf122 (w := w) (P := w.params) ?ho) ?_
  case ho => (rename Below _ _ _ _ => B9; rename Fr _ _ _ _ => F9; exact F9.keep _ _ (B9.stays _ _ h122))
  rw [s122_prep hc]
  (repeat' (first | (k_unfold; (try dsimp only)) | (((fail_if_success (with_reducible refine Mine.stop_of (by constructor) ?_))); walk1) | (dsimp only; ((fail_if_success (with_reducible refine Mine.stop_of (by constructor) ?_))); walk1)))
  exact hret _ _ (by (first | k_asm | assumption)) (by (first | k_asm | assumption))

noncomputable def b3key (k : Int) : Option Value := findBy Value.isInt b3ents.toArray k
noncomputable def entOk (e : DictEntry) : Bool := match e.key with
  | .int k _ => e.hash == hashInt k
  | _ => false
theorem map133 {prog : Program} {w : World} {h : Heap} {P : Params} (ho : h.get? 133 = some (b3o 133 P)) : h.MapOf (intKind prog w) 133 b3key := by
  refine ⟨_, b3ents.toArray, 650, ho, ⟨rfl, rfl, rfl⟩, rfl, fun e he => ?_, fun k => rfl⟩
  have h1 : b3ents.all entOk = true := by kernel_rfl
  have h2 := List.all_eq_true.mp h1 e (by simpa using he)
  unfold entOk at h2
  split at h2
  · rename_i k t hk
    rw [hk]
    exact ⟨k, by simp [intKind, Value.isInt], beq_iff_eq.mp h2⟩
  · cases h2
noncomputable def strIs (l : List Nat) : Option Value → Bool
  | some (.str x _) => x.cps.toList == l
  | _ => false
noncomputable def b3list (k : Int) : Option Value := (b3ents.find? fun e => Value.isInt k e.key).map (·.val)
theorem b3key_eq : b3key = b3list := by
  funext k
  unfold b3key findBy b3list
  rw [List.find?_toArray]
theorem lowered : [102, 115, 70, 83].all (fun c => Txt.lower ⟨#[c]⟩ == ⟨(prep1 c).toArray⟩) = true := by decide +kernel
noncomputable def isLow (c : Nat) : Bool := [102, 115, 70, 83].contains c
theorem b3_look0 : alph.all (fun c => (prep1 c).isEmpty || ((b3list c).isNone && isLow c) || strIs (prep1 c) (b3list c)) = true := by kernel_rfl
theorem b3_look : alph.all (fun c => (prep1 c).isEmpty || ((b3list c).isNone && (Txt.lower ⟨#[c]⟩ == ⟨(prep1 c).toArray⟩)) || strIs (prep1 c) (b3list c)) = true := by
  refine List.all_eq_true.mpr fun c hc => ?_
  have h := List.all_eq_true.mp b3_look0 c hc
  simp only [Bool.or_eq_true, Bool.and_eq_true] at h ⊢
  rcases h with (h | h) | h
  · exact .inl (.inl h)
  · exact .inl (.inr ⟨h.1, List.all_eq_true.mp lowered c (List.contains_iff_mem.mp h.2)⟩)
  · exact .inr h
theorem b3_alph {c : Nat} (hc : c ∈ alph) (hn : prep1 c ≠ []) : (b3key c = none ∧ Txt.lower ⟨#[c]⟩ = ⟨(prep1 c).toArray⟩) ∨ ∃ t, b3key c = some (.str ⟨(prep1 c).toArray⟩ t) := by
  rw [b3key_eq]
  have h1 := b3_look
  have h2 := List.all_eq_true.mp h1 c hc
  simp only [Bool.or_eq_true, Bool.and_eq_true, beq_iff_eq] at h2
  rcases h2 with (h2 | h2) | h2
  · exact absurd (List.isEmpty_iff.mp h2) hn
  · exact .inl ⟨Option.isNone_iff_eq_none.mp h2.1, h2.2⟩
  · unfold strIs at h2
    split at h2
    · rename_i x t hx
      refine .inr ⟨t, ?_⟩
      rw [hx]
      have : x = ⟨(prep1 c).toArray⟩ := by
        obtain ⟨⟨l⟩⟩ := x
        have := beq_iff_eq.mp h2
        simp only at this
        rw [this]
      rw [this]
    · cases h2
theorem k133 {h : Heap} {P : Params} (X : (hd1.heap_1 P).In h) : h.get? 133 = some (b3o 133 P) := X 133 _ (by kernel_rfl)
theorem get_meth133 {prog : Program} {w : World} {A : Around} {E : Value → Shared → Prop} {s : Shared} {pl : Sem Bool} {Q : Value × List Value → Shared → Prop} (hm : s.heap.MapOf (intKind prog w) 133 b3key) (h : Q (.builtin "dict.get", [.ref 133]) s) : wpAny (model prog w) A (getMethod (.ref 133) "get" pl) Q E s :=
  getMethod_builtin hm.typeIs PySem.F.plainAttrs_dict PySem.F.slot_dict_get PySem.F.type_dict_get hm.noDict h
theorem get_call133 {prog : Program} {w : World} {A : Around} {E : Value → Shared → Prop} {s : Shared} {i : Int} {t : Tok} {Q : Value → Shared → Prop} (hm : s.heap.MapOf (intKind prog w) 133 b3key) (h : Q ((b3key i).getD .none) { s with toks := s.toks + 1 }) : wpAny (model prog w) A (call (.builtin "dict.get") [.ref 133, .int i t]) Q E s :=
  call_meetsIn PySem.F.slot_dict_get hm.typeIs PySem.F.entry_dict_get (PySem.F.args_dict_get_2 _ _) (meets_dict_get (intKind prog w) 133 (intKind_is _ _ i t) rfl) ⟨_, hm, h⟩
theorem map3 (w : World) (mean mg mb) (c : Nat) (tx : Tok) (hc : c ∈ alph) (hn : prep1 c ≠ []) {news : Led} {dp un gd cn cs a ccd cl outer A₀ base h₀ L m s} {Q E : Value → Shared → Prop}
   (B : Below A₀ base outer h₀) (F : Fr h₀ L s.heap m) (X : (hd1.heap_1 w.params).In h₀) (N : News h₀ L s.heap news) (T : Top pT lT mean mg mb h₀) (hcs : cs.kind = .function) (hd : dp + 1 < recursionLimit) (hu : un + 8 < cLine)
   (hret : ∀ t h' tk', Fr h₀ L h' m → News h₀ L h' news → Q (.str ⟨(prep1 c).toArray⟩ t) { s with heap := h', toks := tk' }) :
   wpAny (model PySem.Challenge.rw_kl0050_01.row.prog w) (ktrTop dp un gd cn cs L a ccd cl outer) (call (.ref 178) [.str ⟨#[c]⟩ tx]) Q E s := by
  revert X; k_fill; intro X
  refine wpAny_call ?_
  k_dflt cell_enter
  (repeat' (first | (k_unfold; (try dsimp only)) | (((fail_if_success (with_reducible refine Mine.stop_of (by constructor) ?_))); walk1) | (dsimp only; ((fail_if_success (with_reducible refine Mine.stop_of (by constructor) ?_))); walk1)))
  refine get_meth133 (map133 (P := w.params) ?hm) ?_
  case hm => (rename Frag.In _ _ => X9; rename Fr _ _ _ _ => F9; exact F9.keep _ _ (k133 X9))
  (repeat' (first | (k_unfold; (try dsimp only)) | (((fail_if_success (with_reducible refine Mine.stop_of (by constructor) ?_))); walk1) | (dsimp only; ((fail_if_success (with_reducible refine Mine.stop_of (by constructor) ?_))); walk1)))
  refine get_call133 (map133 (P := w.params) ?hm2) ?_
  case hm2 => (rename Frag.In _ _ => X9; rename Fr _ _ _ _ => F9; exact F9.keep _ _ (k133 X9))
  rcases b3_alph hc hn with ⟨e1, e2⟩ | ⟨t9, e1⟩
  · rw [e1]
    dsimp only [Option.getD]
    (repeat' (first | (k_unfold; (try dsimp only)) | (((fail_if_success (with_reducible refine Mine.stop_of (by constructor) ?_))); walk1) | (dsimp only; ((fail_if_success (with_reducible refine Mine.stop_of (by constructor) ?_))); walk1)))
    dsimp only
    refine SCL.lower (by show (1 : Nat) ≤ 5592405; decide) fun _ => ?_
    rw [e2]
    (repeat' (first | (k_unfold; (try dsimp only)) | (((fail_if_success (with_reducible refine Mine.stop_of (by constructor) ?_))); walk1) | (dsimp only; ((fail_if_success (with_reducible refine Mine.stop_of (by constructor) ?_))); walk1)))
    exact hret _ _ _ (by (first | k_asm | assumption)) (by (first | k_asm | assumption))
  · rw [e1]
    dsimp only [Option.getD]
    (repeat' (first | (k_unfold; (try dsimp only)) | (((fail_if_success (with_reducible refine Mine.stop_of (by constructor) ?_))); walk1) | (dsimp only; ((fail_if_success (with_reducible refine Mine.stop_of (by constructor) ?_))); walk1)))
    exact hret _ _ _ (by (first | k_asm | assumption)) (by (first | k_asm | assumption))
end
section
set_option maxRecDepth 100000
set_option maxHeartbeats 8000000
open LCg LCt
theorem prepared (w : World) (mean mg mb) (x : Str) (tx : Tok) {news : Led} {dp un gd cn cs a ccd cl outer A₀ base h₀ L m s} {Q E : Value → Shared → Prop}
   (B : Below A₀ base outer h₀) (F : Fr h₀ L s.heap m) (X : (hd1.heap_1 w.params).In h₀) (N : News h₀ L s.heap news) (T : Top pT lT mean mg mb h₀) (h122 : base.get? 122 = some (o_12_122 w.params)) (hcs : cs.kind = .function)
   (hxl : x.length ≤ 100) (hp : ∀ c ∈ x.cps.toList, c ∈ alph) (hd : dp + 2 < recursionLimit) (hu : un + 12 < cLine)
   (hret : ∀ t h' tk', Fr h₀ L h' m → News h₀ L h' news → Q (.str ⟨(prepL x.cps.toList).toArray⟩ t) { s with heap := h', toks := tk' }) :
   wpAny (model PySem.Challenge.rw_kl0050_01.row.prog w) (ktrTop dp un gd cn cs L a ccd cl outer) (call (.ref 204) [.str x tx]) Q E s := by
  revert X; k_fill; intro X
  refine wpAny_call ?_
  k_dflt cell_enter
  (repeat' (first | (k_unfold; (try dsimp only)) | (((fail_if_success (with_reducible refine Mine.stop_of (by constructor) ?_))); walk1) | (dsimp only; ((fail_if_success (with_reducible refine Mine.stop_of (by constructor) ?_))); walk1)))
  refine ListComp_str (F₀ := by k_asm) (by with_unfolding_all rfl) (by decide) (by rfl) (by decide) (by rfl) ?_
  (repeat' (first | (k_unfold; (try dsimp only)) | (((fail_if_success (with_reducible refine Mine.stop_of (by constructor) ?_))); walk1) | (dsimp only; ((fail_if_success (with_reducible refine Mine.stop_of (by constructor) ?_))); walk1)))
  refine ⟨x, tx, news, rfl, rfl, by (first | k_asm | assumption), by (first | k_asm | assumption), ?_, fun g => restT_of (fun i ys nw => nw = news ∧ ∃ ts : List Str, StrsAre ys ts ∧ ts.length ≤ i ∧ catL ts = prepL (x.cps.toList.take i)) ?turn ?fin _ 0 [] news rfl (Nat.zero_le _) ⟨rfl, [], .nil, Nat.le_refl _, rfl⟩⟩
  · exact Nat.le_trans hxl (by decide)
  case turn =>
    intro i ys nw v I oI C oC D m₂ h tk E' hi zH1 zH2
    refine box fun zG => ?_
    obtain ⟨rfl, ts, hys, htl, hts⟩ := zH1
    obtain ⟨ch, tu, hch, rfl⟩ := zH2
    refine zG ?_
    clear zG
    intro hC hx F4 N4 off ne
    have hca : ch ∈ alph := hp ch (by have := Array.mem_of_getElem? hch; simpa using this)
    (repeat' (first | (k_unfold; (try dsimp only)) | (((fail_if_success (with_reducible refine Mine.stop_of (by constructor) ?_))); walk1) | (dsimp only; ((fail_if_success (with_reducible refine Mine.stop_of (by constructor) ?_))); walk1)))
    refine' inb1 w mean mg mb ch tu hca ?k1 ?k2 ?k3 ?k4 ?k5 h122 ?kK ?kd ?ku ?kR
    (((case k1 => k_asm); (case k2 => k_asm); (case k3 => k_asm); (case k4 => k_asm); (case k5 => k_asm); (case kK => first | exact rfl | assumption); (case kd => ktr_room); (case ku => ktr_units)))
    intro h5 tk5 F5 N5
    dsimp only
    have hstep := prepL_step (l := x.cps.toList) (i := i) (c := ch) (by simpa using hch)
    (repeat' (first | (k_unfold; (try dsimp only)) | (((fail_if_success (with_reducible refine Mine.stop_of (by constructor) ?_))); walk1) | (dsimp only; ((fail_if_success (with_reducible refine Mine.stop_of (by constructor) ?_))); walk1)))
    · have hno : prep1 ch = [] := by simpa using ‹(prep1 ch).isEmpty = true›
      exact CompEnd.intro (by (first | k_asm | assumption)) N5 nw (fun p hp => hp) off trivial ⟨rfl, ts, hys, by omega, by rw [hstep, hno, List.append_nil]; exact hts⟩
    · have hno : ¬ prep1 ch = [] := by simpa using ‹(prep1 ch).isEmpty = false›
      refine' map3 w mean mg mb ch tu hca hno ?k1x2 ?k2x2 ?k3x2 ?k4x2 ?k5x2 ?kKx2 ?kdx2 ?kux2 ?kRx2
      (((case k1x2 => k_asm); (case k2x2 => k_asm); (case k3x2 => k_asm); (case k4x2 => k_asm); (case k5x2 => k_asm); (case kKx2 => first | exact rfl | assumption); (case kdx2 => ktr_room); (case kux2 => ktr_units)))
      intro t6 h6 tk6 F6 N6
      exact CompEnd.intro F6 N6 nw (fun p hp => hp) off trivial ⟨rfl, ts ++ [⟨(prep1 ch).toArray⟩], strsAre_snoc hys, by simp; omega, by rw [hstep, catL_snoc, hts]⟩
  case fin =>
    intro ys nw zH1
    refine box fun zG => ?_
    obtain ⟨rfl, ts, hys, htl, hts⟩ := zH1
    refine zG ?_
    clear zG
    intro D h tk F4 N4 off
    (repeat' (first | (k_unfold; (try dsimp only)) | (((fail_if_success (with_reducible refine Mine.stop_of (by constructor) ?_))); walk1) | (dsimp only; ((fail_if_success (with_reducible refine Mine.stop_of (by constructor) ?_))); walk1)))
    simp only [List.take_length] at hts
    have h9 := catL_len ts
    have h8 := prepL_len x.cps.toList
    have h7 : x.cps.toList.length = x.length := by simp [Str.length]
    have h6 : x.cps.size = x.length := rfl
    have h5 : (Str.ofString "").length = 0 := by decide +kernel
    refine join_list (News.isList N4 (.head _)) (by simpa using hys) (by rw [hts] at h9; rw [h5]; omega) ?_
    intro t6 tk6
    rw [join_cat', hts]
    (repeat' (first | (k_unfold; (try dsimp only)) | (((fail_if_success (with_reducible refine Mine.stop_of (by constructor) ?_))); walk1) | (dsimp only; ((fail_if_success (with_reducible refine Mine.stop_of (by constructor) ?_))); walk1)))
    refine hret _ _ _ (by (first | k_asm | assumption)) (news_sub (by (first | k_asm | assumption)) (fun p hp => .tail _ hp))
end
section
open PySem PySem.W PyProof.Rows PySem.Calls
set_option maxRecDepth 100000
set_option maxHeartbeats 1000000
/-- the law's end: the generators that are left are bare, the tables laid aside have grown, all else of the old heap stands -/
noncomputable def EndG (cw : ClaimW) (cl : Str → Option Addr) (args : List WData) (s₁ : Shared) (tabs : List (Addr × Addr)) (res : Result) (s' : Shared) : Prop :=
  ((∃ v d as, res = .ok (.ret v) ∧ (∀ cls, cw.raises args cls = false) ∧ ReadsW cw.records cl s'.heap v d as ∧ cw.post args d args = true ∧
      (cw.unshared = true → as.Nodup ∧ ∀ a ∈ as, (ghostOf s₁.heap tabs).get? a = none)) ∧
  (∀ b o, (ghostOf s₁.heap tabs).get? b = some o → s'.heap.get? b = some o) ∧ s'.os = s₁.os ∧ AllBare s'.gens) ∧ GrownAll tabs s'.heap
theorem kn_postG {M : Model} {A : Around} {cd : Code} {s s₁ : Shared} {cw : ClaimW} {cl : Str → Option Addr} {mean : ExcName → Option Value} {args : List WData} {tabs : List (Addr × Addr)} (hT : TabsAt tabs s₁.heap)
    (h : codeAny M A cd (EndG cw cl args s₁ tabs) s) : codeAny M A cd (GoodWG cw cl mean args s₁) s :=
  codeAny_mono h fun r s' ⟨⟨hc, hk, hos, hg⟩, hgr⟩ => by
    have keep : ∀ b o, b ∉ tabs.map (·.2) → s₁.heap.get? b = some o → s'.heap.get? b = some o := fun b o hb e => hk b o (ghost_ne e hb)
    have grown : ∀ b o, b ∈ tabs.map (·.2) → s₁.heap.get? b = some o → isCodeTable s₁.heap b ∧ o = tabObj #[] ∧ ∃ ps, s'.heap.get? b = some (tabObj ps) := fun b o hb e => by
      obtain ⟨q, hq, rfl⟩ := List.mem_map.mp hb
      have e2 := (hT q hq).2
      rw [e] at e2
      exact ⟨((hT q hq).1.tab (hT q hq).2).isCodeTable, Option.some.inj e2, hgr.get q hq⟩
    refine ⟨?_, ⟨fun b o e => ?_, fun b o e => ?_⟩, hos, hg⟩
    · refine box fun zG => ?_
      obtain ⟨v, d, as, r1, r2, r3, r4, r5⟩ := hc
      refine zG ?_
      clear zG
      refine .inl ⟨v, d, as, r1, r2, r3, r4, fun q => ⟨(r5 q).1, fun a ha => ?_⟩⟩
      cases q1 : s₁.heap.get? a with
      | none => rfl
      | some o =>
        by_cases hb : a ∈ tabs.map (·.2)
        · refine box fun zG => ?_
          obtain ⟨_, _, ps, hP⟩ := grown a o hb q1
          refine zG ?_
          clear zG
          exact absurd ha (readsW_apart hP rfl r3)
        · have e3 := (r5 q).2 a ha
          rw [show (ghostOf s₁.heap tabs).get? a = some o from ghost_ne q1 hb] at e3
          cases e3
    · by_cases hb : b ∈ tabs.map (·.2)
      · refine box fun zG => ?_
        obtain ⟨ht, rfl, ps, hP⟩ := grown b o hb e
        refine zG ?_
        clear zG
        exact .inr (.inl ⟨ht, rfl, #[], ps, rfl, by rw [Array.empty_append]; exact hP⟩)
      · exact .inl (keep b o hb e)
    · by_cases hb : b ∈ tabs.map (·.2)
      · refine box fun zG => ?_
        obtain ⟨_, _, ps, hP⟩ := grown b o hb e
        refine zG ?_
        clear zG
        exact ⟨_, hP⟩
      · exact ⟨o, keep b o hb e⟩
theorem endG_true {cw : ClaimW} {cl : Str → Option Addr} {args : List WData} {s₁ s' : Shared} {tabs : List (Addr × Addr)} {L : Addr} {m : Map} (hr : ∀ cls, cw.raises args cls = false) (hp : cw.post args (.bool true) args = true)
    (F : Fr (ghostOf s₁.heap tabs) L s'.heap m) (hos : s'.os = s₁.os) (hg : AllBare s'.gens) (hgr : GrownAll tabs s'.heap) : EndG cw cl args s₁ tabs (.ok (.ret (.bool true))) s' :=
  ⟨⟨⟨_, _, [], rfl, hr, ReadsW.bool true, hp, fun _ => ⟨List.nodup_nil, fun _ hm => nomatch hm⟩⟩, F.keep, hos, hg⟩, hgr⟩
theorem post9 (args : List WData) : row9.claim.post args (.bool true) args = true := by wrow_post
end
section
open PySem PySem.W PyProof.Rows PySem.Calls
set_option maxRecDepth 100000
set_option maxHeartbeats 1000000
noncomputable abbrev itObj (l : Addr) (i : Nat) : Obj := { cls := .type "list_iterator", data := .fields #[.ref l, .int i 0] }
section
variable {prog : Program} {w : World} {A : Around} {E : Value → Shared → Prop} {s : Shared} {h₀ : Heap} {L it l : Addr} {m : Str → Option Value} {news : Led} {g : Obj → Led} {vs : List Value} {nn i : Nat} {x : Value}
theorem itObj_at {h : Heap} (e : h.get? it = some (itObj l i)) : h.IsListIter it l i := ⟨_, e, rfl, rfl⟩
theorem iter_list {Q : Value → Shared → Prop} (F : Fr h₀ L s.heap m) (N : News h₀ L s.heap news) (hl : s.heap.IsList l vs.toArray)
    (h : ∀ I h', Fr h₀ L h' m → News h₀ L h' ((I, itObj l 0) :: news) → (∀ p ∈ news, p.1 < I) → Q (.ref I) { s with heap := h' }) :
    wpAny (model prog w) A (call (.builtin "iter") [.ref l]) Q E s := by
  refine call_function_entry (by decide +kernel) (by decide +kernel) kdk_entry_iter (kdk_args_iter _) ?_
  unfold Builtin.«iter»
  refine wpAny_bind (m := someArgs "iter" 1 2 _) (wpAny_of_eq (a := [Value.ref l]) (by first | rfl | kernel_rfl!) ?_)
  show wpAny _ _ (pyIter (.ref l) >>= _) _ _ _
  refine wpAny_bind (wpAny_pyIter_list hl ?_)
  exact wpAny_pure ⟨_, rfl, h _ _ (F.push _) (News.push F N _ rfl) (fun q hq => Heap.lt_size (N q hq).1)⟩
theorem next_special {Q : Option Value → Shared → Prop} (hit : s.heap.IsListIter it l i) (hl : s.heap.IsList l vs.toArray) (hx : vs[i]? = some x)
    (hQ : ∀ h', h'.get? it = some { (itObj l (i + 1)) with } → Heap.SameBut it s.heap h' → Q (some x) { s with heap := h' }) (ho0 : s.heap.get? it = some (itObj l i)) :
    wpAny (model prog w) A (callSpecial? (.ref it) (Str.ofString "__next__")) Q E s := by
  refine box fun zG => ?_
  obtain ⟨ol, hol, _, nl, hdl⟩ := hl
  refine zG ?_
  clear zG
  refine wpAny_callSpecial?_slot (name := Str.ofString "__next__") hit.typeIs slot_listiter_next
    (wpAny_call_entry slot_listiter_next hit.typeIs entry_listiter_next ?_ (args_listiter_next _))
  show wpAny _ _ (field (.ref it) 0 >>= _) _ _ s
  refine wpAny_bind (wpAny_field ho0 rfl (x := .ref l) rfl ?_)
  show wpAny _ _ (if (Value.ref l == Value.none) = true then _ else _) _ _ s
  rw [if_neg (show ¬ ((Value.ref l == Value.none) = true) from Bool.false_ne_true)]
  show wpAny _ _ (field (.ref it) 1 >>= _) _ _ s
  refine wpAny_bind (wpAny_field ho0 rfl (x := .int i 0) rfl ?_)
  show wpAny _ _ (seqItems? (.ref l) >>= _) _ _ s
  refine wpAny_bind (wpAny_seqItems hol hdl ?_)
  have hx' : vs.toArray[i]? = some x := by simpa using hx
  simp only [Int.toNat_natCast, hx']
  refine wpAny_bind (wpAny_setField ho0 rfl (by simp) (wpAny_pure ⟨x, rfl, hQ _ ?_ (Heap.SameBut.update ..)⟩))
  rw [Heap.get?_update_self _ ho0 (Obj.isFreed_of_fields (Obj.data_mapFields rfl _))]
  rfl
theorem next_item {Q : Value → Shared → Prop} (F : Fr h₀ L s.heap m) (N : News h₀ L s.heap news) (U : UpdF it (itObj l i) news g) (hl : s.heap.IsList l vs.toArray) (hx : vs[i]? = some x)
    (h : ∀ h', Fr h₀ L h' m → News h₀ L h' (g (itObj l (i + 1))) → Q x { s with heap := h' }) :
    wpAny (model prog w) A (call (.builtin "next") [.ref it]) Q E s := by
  refine box fun zG => ?_
  obtain ⟨pre, post, hsp, hg, a, b⟩ := U.split
  refine zG ?_
  clear zG
  have hmem : (it, itObj l i) ∈ news := by rw [hsp]; exact List.mem_append_right _ (.head _)
  have hm := N _ hmem
  have hit := itObj_at hm.1
  refine call_function_entry (by decide +kernel) (by decide +kernel) kdk_entry_next (kdk_args_next _) ?_
  unfold Builtin.«next»
  refine wpAny_bind (m := someArgs "next" 1 2 _) (wpAny_of_eq (a := [Value.ref it]) (by first | rfl | kernel_rfl!) ?_)
  dsimp only
  refine wpAny_bind (wpAny_specialOf (name := Str.ofString "__next__") hit.typeIs slot_listiter_next.lookup ?_)
  refine wpAny_ite_split (fun hab => absurd hab (by decide)) (fun _ => ?_)
  refine wpAny_bind (next_special hit hl hx (fun h' ho' hs => ?_) hm.1)
  exact wpAny_pure ⟨_, rfl, h h' (F.change hs hm.2.1 hm.2.2) (hg (itObj l (i + 1)) ▸ (show News h₀ L s.heap (pre ++ (it, itObj l i) :: post) from hsp ▸ N).setIn a b hs ho')⟩

theorem next_end {Q : Value → Shared → Prop} (hh : A.handled = none) (F : Fr h₀ L s.heap m) (N : News h₀ L s.heap news) (U : UpdF it (itObj l i) news g) (hl : s.heap.IsList l vs.toArray) (hx : vs[i]? = none)
    (h : ∀ h1 h' e, Fr h₀ L h1 m → News h₀ L h1 (g { (itObj l i) with data := .fields #[.none, .int i 0] }) → Heap.MadeExc h1 h' e "StopIteration" [] → E (.ref e) { s with heap := h' }) :
    wpAny (model prog w) A (call (.builtin "next") [.ref it]) Q E s := by
  refine box fun zG => ?_
  obtain ⟨pre, post, hsp, hg, a, b⟩ := U.split
  refine zG ?_
  clear zG
  have hmem : (it, itObj l i) ∈ news := by rw [hsp]; exact List.mem_append_right _ (.head _)
  have hm := N _ hmem
  have hit := itObj_at hm.1
  refine call_function_entry (by decide +kernel) (by decide +kernel) kdk_entry_next (kdk_args_next _) ?_
  unfold Builtin.«next»
  refine wpAny_bind (m := someArgs "next" 1 2 _) (wpAny_of_eq (a := [Value.ref it]) (by first | rfl | kernel_rfl!) ?_)
  dsimp only
  refine wpAny_bind (wpAny_specialOf (name := Str.ofString "__next__") hit.typeIs slot_listiter_next.lookup ?_)
  refine wpAny_ite_split (fun hab => absurd hab (by decide)) (fun _ => ?_)
  refine box fun zG => ?_
  obtain ⟨ol, hol, _, nl, hdl⟩ := hl
  refine zG ?_
  clear zG
  refine wpAny_bind (wpAny_callSpecial?_slot (name := Str.ofString "__next__") hit.typeIs slot_listiter_next
    (wpAny_call_entry slot_listiter_next hit.typeIs entry_listiter_next ?_ (args_listiter_next _)))
  show wpAny _ _ (field (.ref it) 0 >>= _) _ _ s
  refine wpAny_bind (wpAny_field hm.1 rfl (x := .ref l) rfl ?_)
  show wpAny _ _ (if (Value.ref l == Value.none) = true then _ else _) _ _ s
  rw [if_neg (show ¬ ((Value.ref l == Value.none) = true) from Bool.false_ne_true)]
  show wpAny _ _ (field (.ref it) 1 >>= _) _ _ s
  refine wpAny_bind (wpAny_field hm.1 rfl (x := .int i 0) rfl ?_)
  show wpAny _ _ (seqItems? (.ref l) >>= _) _ _ s
  refine wpAny_bind (wpAny_seqItems hol hdl ?_)
  have hx' : vs.toArray[i]? = none := by simpa using hx
  simp only [Int.toNat_natCast, hx']
  refine wpAny_bind (wpAny_rule (wpAny_bind (wpAny_setField hm.1 rfl (by simp) ?_)))
  have ho' : (s.heap.update it (Obj.mapFields (·.setIfInBounds 0 Value.none))).get? it = some { (itObj l i) with data := .fields #[.none, .int i 0] } := by
    rw [Heap.get?_update_self _ hm.1 (Obj.isFreed_of_fields (Obj.data_mapFields rfl _))]
    rfl
  have F1 := F.change (Heap.SameBut.update (a := it) (f := Obj.mapFields (·.setIfInBounds 0 Value.none)) (h := s.heap)) hm.2.1 hm.2.2
  have N1 := (show News h₀ L s.heap (pre ++ (it, itObj l i) :: post) from hsp ▸ N).setIn a b (Heap.SameBut.update (a := it) (f := Obj.mapFields (·.setIfInBounds 0 Value.none)) (h := s.heap)) ho'
  rw [← hg] at N1
  show wpAny _ _ (newExc (.type "StopIteration") [] >>= _) _ _ _
  refine wpAny_bind ?_
  simp only [newExc, newTuple]
  refine wpAny_bind (wpAny_newObj_type ?_ (by size_fits))
  refine wpAny_bind (m := firstArgMember _ _) (wpAny_of_eq (a := Value.none) (by first | rfl | (simp only [firstArgMember]; rfl)) ?_)
  refine wpAny_newObj_type ?_ (by size_fits)
  simp only [raiseNew]
  refine wpAny_bind (wpAny_handled ?_)
  rw [show A.in1.handled = none from hh]
  refine wpAny_bind (wpAny_pure (wpAny_throw ?_))
  refine h _ _ _ F1 N1 ⟨fun b o hb => Heap.get?_push_of_some _ (Heap.get?_push_of_some _ hb), Heap.get?_none_of_le (by simp), _, ?_, Heap.get?_none_of_le (Nat.le_refl _), ?_⟩
  · exact Heap.get?_push_size _ rfl
  · exact Heap.get?_push_of_some _ (Heap.get?_push_size _ rfl)
end
end
section
open PySem PySem.W PyProof.Rows PySem.Calls
set_option maxRecDepth 100000
set_option maxHeartbeats 1000000
theorem pr3 {α β γ : Type} {P : α × β × γ → Prop} (h : ∀ a b c, P (a, b, c)) : ∀ c, P c := fun c => h c.1 c.2.1 c.2.2
theorem varint (w : World) (mean mg mb) (it l : Addr) (vs : List Value) (nn i n : Nat) (bs V : Nat → Int) {news : Led} {dp un gd cn cs a ccd cl outer A₀ base h₀ L m s} {Q E : Value → Shared → Prop}
   (B : Below A₀ base outer h₀) (F : Fr h₀ L s.heap m) (X : (hd1.heap_1 w.params).In h₀) (N : News h₀ L s.heap ((it, itObj l i) :: news)) (T : Top pT lT mean mg mb h₀) (hcs : cs.kind = .function)
   (hl : (l, listOf vs.toArray nn) ∈ news) (hne : ∀ p ∈ news, p.1 ≠ it) (hn : 1 ≤ n ∧ n ≤ 3) (hb : ∀ k, k < n → ∃ t, vs[i + k]? = some (.int (bs k) t)) (hh : ∀ k, k + 1 < n → Builtin.bitAnd (bs k) 64 ≠ 0)
   (hlast : Builtin.bitAnd (bs (n - 1)) 64 = 0) (hV1 : V 1 = Builtin.bitAnd (bs 0) 63) (hVs : ∀ k, 1 ≤ k → k < n → Builtin.bitOr (V k * 2 ^ (6 : Int).toNat) (Builtin.bitAnd (bs k) 63) = V (k + 1)) (hVb : ∀ k, 1 ≤ k → k ≤ n → 0 ≤ V k ∧ V k < 262144) (hbb : ∀ k, 0 ≤ bs k ∧ bs k < 128) (hd : dp + 1 < recursionLimit) (hu : un + 8 < cLine)
   (hret : ∀ t h' tk', Fr h₀ L h' m → News h₀ L h' ((it, itObj l (i + n)) :: news) → Q (.int (V n) t) { s with heap := h', toks := tk' }) :
   wpAny (model PySem.Challenge.rw_kl0050_01.row.prog w) (ktrTop dp un gd cn cs L a ccd cl outer) (call (.ref 93) [.ref it]) Q E s := by
  revert X; k_fill; intro X
  refine wpAny_call ?_
  k_dflt cell_enter
  (repeat' (first | (k_unfold; (try dsimp only)) | (((fail_if_success (with_reducible refine Mine.stop_of (by constructor) ?_))); walk1) | (dsimp only; ((fail_if_success (with_reducible refine Mine.stop_of (by constructor) ?_))); walk1)))
  obtain ⟨t0, hb0⟩ := hb 0 (by omega)
  refine next_item (i := i) (vs := vs) (by k_asm) (by k_asm) (UpdF.head hne) (News.isList (by k_asm) (.tail _ hl)) hb0 ?_
  intro h' F' N'
  (repeat' (first | (k_unfold; (try dsimp only)) | (((fail_if_success (with_reducible refine Mine.stop_of (by constructor) ?_))); walk1) | (dsimp only; ((fail_if_success (with_reducible refine Mine.stop_of (by constructor) ?_))); walk1)))
  rename Fr _ _ _ _ => F3
  rename News _ _ _ _ => N3
  rw [← hV1] at F3
  refine whileV (σ := Nat × Tok × Tok) [] (fun c => [(Str.ofString "b", some (.int (bs (c.1 - 1)) c.2.1)), (Str.ofString "val", some (.int (V c.1) c.2.2))]) (fun c => (it, itObj l (i + c.1)) :: news) (fun c => 1 ≤ c.1 ∧ c.1 ≤ n) (fun c => n - c.1) ⟨1, _, _⟩ F3 N3 (fun p hp => hp) (by ((exact Mine.mpL (by repeat' (first | exact True.intro | refine And.intro rfl ?_)) (by (((intro y9 hy9); repeat (first | (with_reducible rfl) | (refine Mine.off_bind hy9 rfl ?_) | (refine Mine.off_step (Mine.off_ne hy9 rfl) ?_) | (refine Mine.off_step2 hy9 rfl ?_)))))))) ⟨Nat.le_refl _, hn.1⟩ ?turn
  case turn =>
    refine pr3 ?_
    intro k tb tv u h tk hJ F4 N4
    have hk1 := hJ.1
    have hk2 := hJ.2
    clear hJ
    dsimp only at *
    have hv := hVb k hk1 hk2
    obtain ⟨hv1, hv2⟩ := hv
    (repeat' (first | (k_unfold; (try dsimp only)) | (((fail_if_success (with_reducible refine Mine.stop_of (by constructor) ?_))); walk1) | (dsimp only; ((fail_if_success (with_reducible refine Mine.stop_of (by constructor) ?_))); walk1)))
    · have hkn : k < n := by
        refine Nat.lt_of_le_of_ne hk2 fun e => ?_
        subst e
        exact absurd hlast (by assumption)
      obtain ⟨t9, hb9⟩ := hb k hkn
      refine next_item (i := i + k) (vs := vs) (by k_asm) (by k_asm) (UpdF.head hne) (News.isList (by k_asm) (.tail _ hl)) hb9 ?_
      intro h' F' N'
      (repeat' (first | (k_unfold; (try dsimp only)) | (((fail_if_success (with_reducible refine Mine.stop_of (by constructor) ?_))); walk1) | (dsimp only; ((fail_if_success (with_reducible refine Mine.stop_of (by constructor) ?_))); walk1)))
      rename Fr _ _ _ _ => F9
      rw [hVs k hk1 hkn] at F9
      refine while_end ⟨k + 1, _, _⟩ F9 (by k_asm) ⟨by omega, by show k + 1 ≤ n; omega⟩ (by show n - (k + 1) < n - k; omega) (by ((exact Mine.mpL (by repeat' (first | exact True.intro | refine And.intro rfl ?_)) (by (((intro y9 hy9); repeat (first | (with_reducible rfl) | (refine Mine.off_bind hy9 rfl ?_) | (refine Mine.off_step (Mine.off_ne hy9 rfl) ?_) | (refine Mine.off_step2 hy9 rfl ?_)))))))) (fun p hp => hp)
    · have hkn : k = n := by
        refine Nat.le_antisymm hk2 (Nat.le_of_not_lt fun e => ?_)
        have h9 := hh (k - 1) (by omega)
        exact absurd (by assumption) h9
      subst hkn
      exact hret _ _ _ (by k_asm) (by k_asm)
end
section
open PySem PySem.W PyProof.Rows PySem.Calls
set_option maxRecDepth 100000
set_option maxHeartbeats 1000000
section
variable {prog : Program} {w : World} {A₀ A : Around} {s : Shared} {base h₀ : Heap} {L : Addr} {m : Str → Option Value} {env : Env} {news : Led} {K : Frag} {p : Program} {loose : List Str} {mean : ExcName → Option Value} {mg mb : Str → Option Value}
    {R : Result → Shared → Prop} {name qual : Str} {params : Arguments} {body : List Stmt} {scope : Scope} {dV kV doc pm cdv ct oc : Value} {an od : Option Addr} {osl : Array (Option Value)} {f : Addr} {args : Args} {binds : List (Str × Value)}
/-- a def that catches, called from the law's own frame, whose names may be cells -/
theorem code_try (B : Below A₀ base [] h₀) (F : Fr h₀ L s.heap m) (X₀ : K.In h₀) (N : News h₀ L s.heap news) (T : Top p loose mean mg mb h₀) (hA : A.frames = some [env]) (hf : env.frame = some L) (hke : env.scope.kind = .function)
    (ho : K.lookup f = some ⟨oc, od, .func (fnOf name qual params body scope dV kV doc pm an cdv ct), osl⟩) (hcd : codeIn K cdv qual = true) (hroom : A.depth < recursionLimit)
    (hbind : BindsTo s (fnOf name qual params body scope dV kV doc pm an cdv ct) args binds) (hloc : ∀ y ∈ binds, scope.names.lookup y.1 = some .local)
    (h : ∀ g L' h₁, Fr h₀ L g m → Fr g L' h₁ (fun y => binds.reverse.lookup y) → News g L' h₁ news → Below A base [env] g → K.In g → Top p loose mean mg mb g → KtsDicts ([env].filterMap (·.frame)) g →
      wpAny (model prog w) (A.deeper (envOf qual scope L' f cdv)) (execs body (envOf qual scope L' f cdv))
        (fun fl s' => LeaveS0 ([env].filterMap (·.frame)) h₀ L m g R (match fl with | .ret v => v | _ => .none) s')
        (fun e s' => wpAny (model prog w) (A.deeper (envOf qual scope L' f cdv)) (leaving (envOf qual scope L' f cdv) e) (fun _ s'' => R (.error e) s'') (fun e' s'' => R (.error e') s'') s')
        { s with heap := h₁, toks := s.toks + binds.length })
    (hco : scope.isCoroutine = false) (hgen : scope.isGenerator = false) (hk : scope.kind = .function)
    (hcell : ∀ x ∈ scope.names, x.2 ≠ .cell) : codeAny (model prog w) A (.call (.ref f) args) R s := by
  have X := X₀.keeps F.keep
  refine codeAny_call_def (fd := fnOf name qual params body scope dV kV doc pm an cdv ct) (body := body) (binds := binds) hroom (X _ _ ho) rfl (T.nolimit.keeps F.keep) (codeRec_of X hcd) rfl hbind hcell hloc (fun h₁ hns hk₁ => ?_) hco hgen hk
  have nm : ∀ b o, h₀.get? b = some o → b ∉ news.map (·.1) := fun b o e q => by
    obtain ⟨p, hp, rfl⟩ := List.mem_map.mp q
    rw [(N p hp).2.2] at e; cases e
  have st : h₀.StaysIn (hideAll s.heap (news.map (·.1))) := fun b o e => hideAll_get _ (F.keep b o e) (nm b o e)
  refine box fun zG => ?_
  obtain ⟨oL, es, ep, hL, hLd, hLk, hLf⟩ := F.ns
  refine zG ?_
  clear zG
  have nL : L ∉ news.map (·.1) := fun q => by
    obtain ⟨p, hp, e⟩ := List.mem_map.mp q
    exact (N p hp).2.1 e
  have hLg := hideAll_get (news.map (·.1)) hL nL
  have FL : Fr h₀ L (hideAll s.heap (news.map (·.1))) m := ⟨⟨oL, es, ep, hLg, hLd, hLk, hLf⟩, st, F.above⟩
  have B₁ := pushX B FL hf hke
  have B₂ : Below A base [env] (hideAll s.heap (news.map (·.1))) := ⟨hA, B₁.stays, B₁.frames⟩
  have fs1 : [env].filterMap (·.frame) = [L] := by simp [hf]
  refine wpAny_mono (h _ s.heap.objs.size h₁ FL ⟨hns, fun b o e => hk₁ b o (of_hideAll _ e), Nat.le_of_eq (hideAll_size _ _)⟩
    (fun p hp => ⟨hk₁ _ _ (N p hp).1, Nat.ne_of_lt (Heap.lt_size (N p hp).1), hideAll_none _ (List.mem_map_of_mem hp)⟩) B₂ (X₀.keeps st) (T.keeps st) (fun b hb => by
      rw [fs1] at hb
      rw [List.mem_singleton.mp hb]
      exact ⟨oL, es, ep, hLg, hLd⟩)) (fun fl s' hl => ?_) fun _ _ y => y
  refine box fun zG => ?_
  obtain ⟨g', L', m', news', T', F', N', k⟩ := hl
  refine zG ?_
  clear zG
  have nL₀ : h₀.get? L = none := kts_self F
  obtain ⟨sl, hs⟩ := T'.up hLg
  refine k ⟨⟨_, es, ep, F'.keep _ _ hs, hLd, hLk, hLf⟩, fun b o e => F'.keep b o (T'.other b o (st b o e) (fun q => by
    rw [fs1] at q
    rw [List.mem_singleton.mp q, nL₀] at e
    cases e)), F.above⟩ fun p hp => ⟨(N' p hp).1, fun q => ?_, ?_⟩
  · have := (N' p hp).2.2; rw [q, hs] at this; cases this
  · cases q : h₀.get? p.1 with
    | none => rfl
    | some o =>
      obtain ⟨sl', hs'⟩ := T'.up (st _ _ q)
      have := (N' p hp).2.2
      rw [hs'] at this
      cases this
end
end
section
open PySem PySem.W PyProof.Rows PySem.Calls
set_option maxRecDepth 100000
set_option maxHeartbeats 1000000
noncomputable def octAt (c k : Nat) : Int := (octs c).getD k 0
noncomputable def octV (c : Nat) : Nat → Int
  | 0 => 0
  | 1 => Builtin.bitAnd (octAt c 0) 63
  | k + 2 => Builtin.bitOr (octV c (k + 1) * 2 ^ (6 : Int).toNat) (Builtin.bitAnd (octAt c (k + 1)) 63)
noncomputable def octOk (c : Nat) : Bool := let n := (octs c).length
  decide (1 ≤ n ∧ n ≤ 3) && (List.range (n - 1)).all (fun k => decide (Builtin.bitAnd (octAt c k) 64 ≠ 0)) && decide (Builtin.bitAnd (octAt c (n - 1)) 64 = 0) && (List.range (n + 1)).all (fun k => decide (0 ≤ octV c k ∧ octV c k < 262144)) &&
    decide (octV c n = c) && (octs c).all fun b => decide (0 ≤ b ∧ b < 128)
theorem alph_oct : alph.all octOk = true := by decide +kernel
theorem octAt_bound {c : Nat} (h : (octs c).all (fun b => decide (0 ≤ b ∧ b < 128)) = true) (k : Nat) : 0 ≤ octAt c k ∧ octAt c k < 128 := by
  unfold octAt
  rw [List.getD_eq_getElem?_getD]
  cases e : (octs c)[k]? with
  | none => decide
  | some b => exact of_decide_eq_true (List.all_eq_true.mp h b (List.mem_of_getElem? e))
theorem int_at {vs : List Value} {ns : List Int} (h : IntsAre vs ns) {i : Nat} {n : Int} (e : ns[i]? = some n) : ∃ t, vs[i]? = some (.int n t) := by
  induction h generalizing i with
  | nil => simp at e
  | cons n' t _ ih => cases i with
    | zero => simp at e; subst e; exact ⟨_, rfl⟩
    | succ i => simpa using ih (by simpa using e)
noncomputable abbrev takeS (x : Str) (j : Nat) : Str := ⟨(x.cps.toList.take j).toArray⟩
theorem takeS_all (x : Str) (n : Nat) (h : x.cps.toList.length ≤ n) : takeS x n = x := by
  unfold takeS
  rw [List.take_of_length_le h]
theorem takeS_step {x : Str} {j c : Nat} (h : x.cps.toList[j]? = some c) : takeS x j ++ (⟨#[c]⟩ : Str) = takeS x (j + 1) := by
  show Str.mk ((x.cps.toList.take j).toArray ++ #[c]) = _
  unfold takeS
  rw [List.take_add_one, h]
  simp
theorem read (w : World) (mean mg mb) (l : Addr) (vs : List Value) (nn : Nat) (x : Str) {news : Led} {dp un gd cn cs a ccd cl A₀ base h₀ L m s} {Q E : Value → Shared → Prop}
   (B : Below A₀ base [] h₀) (F : Fr h₀ L s.heap m) (X : (hd1.heap_1 w.params).In h₀) (N : News h₀ L s.heap news) (T : Top pT lT mean mg mb h₀) (hcs : cs.kind = .function) (XB : (hd1.heap_1 w.params).In base) (TB : Top pT lT mean mg mb base)
   (hl : (l, listOf vs.toArray nn) ∈ news) (hi : IntsAre vs (octetsF x.cps.toList)) (hx : x.length ≤ 1000) (hp : ∀ c ∈ x.cps.toList, c ∈ alph) (hd : dp + 2 < recursionLimit) (hu : un + 12 < cLine)
   (hret : ∀ (t : Tok) h' tk', Fr h₀ L h' m → News h₀ L h' news → Q (.str x t) { s with heap := h', toks := tk' }) :
   wpAny (model PySem.Challenge.rw_kl0050_01.row.prog w) (ktrTop dp un gd cn cs L a ccd cl []) (call (.ref 199) [.ref l]) Q E s := by
  revert X; k_fill; intro X
  refine wpAny_call ?_
  k_dflt (refine' code_try ?k1 ?k2 ?k3 ?k4 ?k5 ?kA ?kF ?kK ?k6 ?k7 ?k8 ?k9 ?kB ?_ ?c2 ?c3 ?c4 ?c5; (case kA => exact rfl); (case kF => exact rfl); (case kK => assumption); (case k1 => k_asm); (case k2 => k_asm); (case k3 => k_asm); (case k4 => k_asm); (case k5 => k_asm); (case k6 => k_is); (case k7 => k_is); (case k8 => ktr_room); (case k9 => exact BindsTo.of_eq rfl); (case c5 => decide); (case kB => exact locs rfl); (case c2 => exact rfl); (case c3 => exact rfl); (case c4 => exact rfl); k_whole; intro g' L' h' FG' F' N' B' X' T' KD'; (try dsimp only); (try k_lift B'); (try k_fold))
  (repeat' (first | (k_unfold; (try dsimp only)) | (((fail_if_success (with_reducible refine Mine.stop_of (by constructor) ?_))); walk1) | (dsimp only; ((fail_if_success (with_reducible refine Mine.stop_of (by constructor) ?_))); walk1)))
  refine iter_list (vs := vs) (by k_asm) (by k_asm) (News.isList (by k_asm) hl) ?_
  intro it h' F' N' hlt
  (repeat' (first | (k_unfold; (try dsimp only)) | (((fail_if_success (with_reducible refine Mine.stop_of (by constructor) ?_))); walk1) | (dsimp only; ((fail_if_success (with_reducible refine Mine.stop_of (by constructor) ?_))); walk1)))
  have hne : ∀ p ∈ news, p.1 ≠ it := fun p hp => Nat.ne_of_lt (hlt p hp)
  have hlen : x.cps.toList.length = x.length := by simp [Str.length]
  rename Fr _ _ _ _ => F3
  rename News _ _ _ _ => N3
  have e0 : (Str.ofString "" : Str) = takeS x 0 := by unfold takeS; rw [List.take_zero]; decide +kernel
  rw [e0] at F3
  refine whileV (σ := Nat × Tok) [] (fun c => [(Str.ofString "text", some (.str (takeS x c.1) c.2))]) (fun c => (it, itObj l (octOff (x.cps.toList.take c.1))) :: news) (fun c => c.1 ≤ x.cps.toList.length) (fun c => x.cps.toList.length + 1 - c.1) ⟨0, _⟩ F3 N3 (fun p hp => hp) (by ((exact Mine.mpL (by repeat' (first | exact True.intro | refine And.intro rfl ?_)) (by (((intro y9 hy9); repeat (first | (with_reducible rfl) | (refine Mine.off_bind hy9 rfl ?_) | (refine Mine.off_step (Mine.off_ne hy9 rfl) ?_) | (refine Mine.off_step2 hy9 rfl ?_)))))))) (Nat.zero_le _) ?turn
  case turn =>
    refine pr2 ?_
    intro j tt u h tk hj F4 N4
    dsimp only at *
    (repeat' (first | (k_unfold; (try dsimp only)) | (((fail_if_success (with_reducible refine Mine.stop_of (by constructor) ?_))); walk1) | (dsimp only; ((fail_if_success (with_reducible refine Mine.stop_of (by constructor) ?_))); walk1)))
    rcases Nat.lt_or_ge j x.cps.toList.length with hjl | hjl
    · obtain ⟨c, hc⟩ : ∃ c, x.cps.toList[j]? = some c := ⟨_, List.getElem?_eq_getElem hjl⟩
      have hca := hp c (List.mem_of_getElem? hc)
      have hok := List.all_eq_true.mp alph_oct c hca
      unfold octOk at hok
      simp only [Bool.and_eq_true, decide_eq_true_eq, List.all_eq_true, List.mem_range] at hok
      refine box fun zG => ?_
      obtain ⟨⟨⟨⟨⟨ok1, ok2⟩, ok3⟩, ok4⟩, ok5⟩, ok6⟩ := hok
      refine zG ?_
      clear zG
      refine' varint w mean mg mb it l vs nn (octOff (x.cps.toList.take j)) (octs c).length (octAt c) (octV c) ?k1 ?k2 ?k3 ?k4 ?k5 ?kK hl hne ok1 ?b1 (fun k hk => ok2 k (by omega)) ok3 rfl (fun k h1 h2 => ?b2) (fun k h1 h2 => ok4 k (by omega)) (octAt_bound (List.all_eq_true.mpr fun b hb => decide_eq_true (ok6 b hb))) ?kd ?ku ?kR
      (((case k1 => k_asm); (case k2 => k_asm); (case k3 => k_asm); (case k4 => k_asm); (case k5 => k_asm); (case kK => first | exact rfl | assumption); (case kd => ktr_room); (case ku => ktr_units)))
      case b1 =>
        intro k hk
        refine int_at hi ?_
        rw [octets_at hc k hk]
        unfold octAt
        rw [List.getD_eq_getElem?_getD, List.getElem?_eq_getElem hk]
        rfl
      case b2 =>
        cases k with
        | zero => omega
        | succ k => rfl
      intro t5 h5 tk5 F5 N5
      dsimp only
      (repeat' (first | (k_unfold; (try dsimp only)) | (((fail_if_success (with_reducible refine Mine.stop_of (by constructor) ?_))); walk1) | (dsimp only; ((fail_if_success (with_reducible refine Mine.stop_of (by constructor) ?_))); walk1)))
      rw [ok5]
      have hcb : alph.all (fun c => decide (c ≤ 65536)) = true := by decide
      have hcb2 := of_decide_eq_true (List.all_eq_true.mp hcb c hca)
      refine chr_of_range (by omega) (by omega) ?_
      rw [Int.toNat_natCast]
      have hlenT : (takeS x j).length ≤ 1000 := by
        show ((x.cps.toList.take j).toArray).size ≤ 1000
        rw [List.size_toArray, List.length_take]; omega
      have hlen1 : (⟨#[c]⟩ : Str).length = 1 := rfl
      (repeat' (first | (k_unfold; (try dsimp only)) | (((fail_if_success (with_reducible refine Mine.stop_of (by constructor) ?_))); walk1) | (dsimp only; ((fail_if_success (with_reducible refine Mine.stop_of (by constructor) ?_))); walk1)))
      rename Fr _ _ _ _ => F9
      rw [takeS_step hc] at F9
      rename News _ _ _ _ => N9
      have e6 : octOff (x.cps.toList.take j) + (octs c).length = octOff (x.cps.toList.take (j + 1)) := by
        rw [List.take_add_one, hc]; exact (octOff_snoc _ _).symm
      rw [e6] at N9
      refine while_end ⟨j + 1, _⟩ F9 N9 (by show j + 1 ≤ _; omega) (by show x.cps.toList.length + 1 - (j + 1) < x.cps.toList.length + 1 - j; omega) (by ((exact Mine.mpL (by repeat' (first | exact True.intro | refine And.intro rfl ?_)) (by (((intro y9 hy9); repeat (first | (with_reducible rfl) | (refine Mine.off_bind hy9 rfl ?_) | (refine Mine.off_step (Mine.off_ne hy9 rfl) ?_) | (refine Mine.off_step2 hy9 rfl ?_)))))))) (fun p hp => hp)
    · refine wpAny_call ?_
      k_dflt (refine' code_def ?k1 ?k2 ?k3 ?k4 ?k5 ?kA ?kF ?kK ?k6 ?k7 ?k8 ?k9 ?kB ?_ ?c2 ?c3 ?c4 ?c5; (case kA => exact rfl); (case kF => exact rfl); (case kK => exact rfl); (case k1 => k_asm); (case k2 => k_asm); (case k3 => k_asm); (case k4 => k_asm); (case k5 => k_asm); (case k6 => k_is); (case k7 => k_is); (case k8 => ktr_room); (case k9 => exact BindsTo.of_eq rfl); (case c5 => decide); (case kB => exact locs rfl); (case c2 => exact rfl); (case c3 => exact rfl); (case c4 => exact rfl); k_whole; intro g' L' h' FG' F' N' B' X' T'; (try dsimp only); (try k_lift B'); (try k_fold))
      (repeat' (first | (k_unfold; (try dsimp only)) | (((fail_if_success (with_reducible refine Mine.stop_of (by constructor) ?_))); walk1) | (dsimp only; ((fail_if_success (with_reducible refine Mine.stop_of (by constructor) ?_))); walk1)))
      have hje : j = x.cps.toList.length := Nat.le_antisymm hj hjl
      have hend : vs[octOff (x.cps.toList.take j)]? = none := by
        have h1 := octets_end x.cps.toList
        rw [hje, List.take_length]
        rw [List.getElem?_eq_none_iff] at h1 ⊢
        have h2 := IntsAre.length hi
        omega
      refine next_end (i := octOff (x.cps.toList.take j)) (vs := vs) (by first | rfl | assumption) (by k_asm) (by k_asm) (UpdF.head hne) (News.isList (by k_asm) (.tail _ hl)) hend ?_
      intro h1 h' e F7 N7 M7
      (repeat' (first | (k_unfold; (try dsimp only)) | (((fail_if_success (with_reducible refine Mine.stop_of (by constructor) ?_))); walk1) | (dsimp only; ((fail_if_success (with_reducible refine Mine.stop_of (by constructor) ?_))); walk1)))
      dsimp only
      rw [hje, takeS_all x _ (Nat.le_refl _)]
      unfold WhileEnd
      dsimp only
      (repeat' (first | (k_unfold; (try dsimp only)) | (((fail_if_success (with_reducible refine Mine.stop_of (by constructor) ?_))); walk1) | (dsimp only; ((fail_if_success (with_reducible refine Mine.stop_of (by constructor) ?_))); walk1)))
      rename News _ _ _ _ => N9
      exact hret _ _ _ (by (first | k_asm | assumption)) (news_sub N9 fun p hp => .tail _ hp)
end
section
set_option maxRecDepth 100000
set_option maxHeartbeats 8000000
theorem strip (w : World) (mean mg mb) (x : Str) (tx : Tok) {news : Led} {dp un gd cn cs a ccd cl outer A₀ base h₀ L m s} {Q E : Value → Shared → Prop}
   (B : Below A₀ base outer h₀) (F : Fr h₀ L s.heap m) (X : (hd1.heap_1 w.params).In h₀) (N : News h₀ L s.heap news) (T : Top pT lT mean mg mb h₀) (hcs : cs.kind = .function)
   (hxl : x.length ≤ 100) (hq : 34 ∉ x.cps.toList) (hd : dp + 1 < recursionLimit) (hu : un + 8 < cLine)
   (hret : ∀ (t : Tok) h' tk', Fr h₀ L h' m → News h₀ L h' news → Q (.str x t) { s with heap := h', toks := tk' }) :
   wpAny (model PySem.Challenge.rw_kl0050_01.row.prog w) (ktrTop dp un gd cn cs L a ccd cl outer) (call (.ref 107) [.str x tx]) Q E s := by
  revert X; k_fill; intro X
  refine wpAny_call ?_
  k_dflt cell_enter
  (repeat' (first | (k_unfold; (try dsimp only)) | (((fail_if_success (with_reducible refine Mine.stop_of (by constructor) ?_))); walk1) | (dsimp only; ((fail_if_success (with_reducible refine Mine.stop_of (by constructor) ?_))); walk1)))
  · exact hret _ _ _ (by (first | k_asm | assumption)) (by (first | k_asm | assumption))
  · exfalso
    have e : (Str.ofString "\"" : Str) = ⟨#[34]⟩ := by decide +kernel
    have h1 := empty_one x 34
    rw [← e] at h1
    rw [show (Builtin.Str.occurrences x (Str.ofString "\"") 0 x.length 1).isEmpty = false by assumption] at h1
    simp [hq] at h1
end
section
open PySem PySem.W PyProof.Rows PySem.Calls
set_option maxRecDepth 100000
set_option maxHeartbeats 1000000
section
variable {prog : Program} {w : World} {A : Around} {E : Value → Shared → Prop} {R : Result → Shared → Prop} {s : Shared}
theorem compTurn_second (elt target iter : PySem.Expr) (g0 : Comprehension) (ifs : List PySem.Expr) (scope : Scope) (pos : PySem.Pos) (it acc : Value) (env : Env) :
    compTurn (.ListComp elt [g0, ⟨target, iter, ifs, 0⟩] scope pos) 1 it acc env = (do
      standAt iter.pos
      match ← pyNext it with
      | none => pure (.done .next)
      | some v =>
        letOwnedTupleGo target it v
        assign target env v
        let mut ok := true
        for c in ifs do
          if ok then ok ← isTrue c env (eval c env)
        if ok then
          (do let _ ← call (.builtin "list.append") [acc, ← eval elt env])
        again (.compLoop (.ListComp elt [g0, ⟨target, iter, ifs, 0⟩] scope pos) 1 it acc env)) := by rfl
theorem codeAny_second {elt target iter : PySem.Expr} {g0 : Comprehension} {ifs : List PySem.Expr} {scope : Scope} {pos : PySem.Pos} {it acc : Value} {env : Env} (I : Nat → Shared → Prop)
    (turn : ∀ n s, I n s → wpAny (model prog w) A (pyNext it) (fun r s₁ => match r with
      | none => R (.ok .next) s₁
      | some v => wpAny (model prog w) A (assign target env v) (fun _ s₂ =>
          wpAny (model prog w) A (forIn ifs true fun c r => if r = true then do let ok ← isTrue c env (eval c env); pure (ForInStep.yield ok) else pure (ForInStep.yield r)) (fun ok s₃ =>
            if ok = true then wpAny (model prog w) A (eval elt env) (fun x s₄ =>
              wpAny (model prog w) A (call (.builtin "list.append") [acc, x]) (fun _ s₅ => ∃ m, m < n ∧ I m s₅) (notedBy (model prog w) A env fun e s' => R (.error e) s') s₄) (notedBy (model prog w) A env fun e s' => R (.error e) s') s₃
            else ∃ m, m < n ∧ I m s₃) (notedBy (model prog w) A env fun e s' => R (.error e) s') s₂) (notedBy (model prog w) A env fun e s' => R (.error e) s') s₁) (notedBy (model prog w) A env fun e s' => R (.error e) s') s)
    (n : Nat) (h : I n s) (ht : ∀ v, letOwnedTupleGo target it v = pure () := by intro _; rfl) :
    codeAny (model prog w) A (.compLoop (.ListComp elt [g0, ⟨target, iter, ifs, 0⟩] scope pos) 1 it acc env) R s := by
  refine codeAny_loop rfl I (fun n s hI => ?_) n h
  show wpAny _ A ((compTurn (.ListComp elt [g0, ⟨target, iter, ifs, 0⟩] scope pos) 1 it acc env).onRaise (fun x => do noteFrame x env; theTreesLotGoes x)) _ _ s
  refine wpAny_noted ?_
  rw [compTurn_second]
  refine wpAny_bind (wpAny_standAt (wpAny_bind (wpAny_mono (turn n s hI) (fun r s₁ h₁ => ?_) fun _ _ h' => h')))
  cases r with
  | none => exact wpAny_pure h₁
  | some v =>
    refine wpAny_bind (wpAny_of_eq (ht v) ?_)
    refine wpAny_bind (wpAny_mono h₁ (fun _ s₂ h₂ => wpAny_bind (wpAny_mono h₂ (fun ok s₃ h₃ => ?_) fun _ _ h' => h')) fun _ _ h' => h')
    cases ok with
    | false => exact wpAny_pure ⟨rfl, h₃⟩
    | true =>
      exact wpAny_bind (wpAny_bind (wpAny_mono h₃ (fun x s₄ h₄ => wpAny_bind (wpAny_mono h₄ (fun _ s₅ h₅ => wpAny_pure (wpAny_pure ⟨rfl, h₅⟩)) fun _ _ h' => h')) fun _ _ h' => h'))
theorem compTurn_first (elt target iter t1 i1 : PySem.Expr) (f1 : List PySem.Expr) (scope : Scope) (pos : PySem.Pos) (it acc : Value) (env : Env) :
    compTurn (.ListComp elt [⟨target, iter, [], 0⟩, ⟨t1, i1, f1, 0⟩] scope pos) 0 it acc env = (do
      standAt iter.pos
      match ← pyNext it with
      | none => pure (.done .next)
      | some v =>
        letOwnedTupleGo target it v
        assign target env v
        let x ← eval i1 env
        standAt i1.pos
        let x ← foldedSetIterable i1 env x
        let _ ← runOwn (.compStart (.ListComp elt [⟨target, iter, [], 0⟩, ⟨t1, i1, f1, 0⟩] scope pos) 1 (← holding [x] (pyIter x)) acc env) env
        again (.compLoop (.ListComp elt [⟨target, iter, [], 0⟩, ⟨t1, i1, f1, 0⟩] scope pos) 0 it acc env)) := by rfl
theorem codeAny_first {elt target iter t1 i1 : PySem.Expr} {f1 : List PySem.Expr} {scope : Scope} {pos : PySem.Pos} {it acc : Value} {env : Env} (I : Nat → Shared → Prop)
    (turn : ∀ n s, I n s → wpAny (model prog w) A (pyNext it) (fun r s₁ => match r with
      | none => R (.ok .next) s₁
      | some v => wpAny (model prog w) A (assign target env v) (fun _ s₂ =>
          wpAny (model prog w) A (eval i1 env) (fun x s₃ => wpAny (model prog w) A (pyIter x) (fun it1 s₄ =>
            codeAny (model prog w) A (.compStart (.ListComp elt [⟨target, iter, [], 0⟩, ⟨t1, i1, f1, 0⟩] scope pos) 1 it1 acc env) (fun r s₅ => match r with
              | .ok _ => ∃ m, m < n ∧ I m s₅
              | .error e => cameBackBy (model prog w) A env (notedBy (model prog w) A env fun e s' => R (.error e) s') e s₅) s₄)
            (notedBy (model prog w) A env fun e s' => R (.error e) s') s₃) (notedBy (model prog w) A env fun e s' => R (.error e) s') s₂) (notedBy (model prog w) A env fun e s' => R (.error e) s') s₁)
      (notedBy (model prog w) A env fun e s' => R (.error e) s') s)
    (n : Nat) (h : I n s) (ht : ∀ v, letOwnedTupleGo target it v = pure () := by intro _; rfl) (hs : ∀ x, foldedSetIterable i1 env x = pure x := by intro _; rfl) :
    codeAny (model prog w) A (.compLoop (.ListComp elt [⟨target, iter, [], 0⟩, ⟨t1, i1, f1, 0⟩] scope pos) 0 it acc env) R s := by
  refine codeAny_loop rfl I (fun n s hI => ?_) n h
  show wpAny _ A ((compTurn (.ListComp elt [⟨target, iter, [], 0⟩, ⟨t1, i1, f1, 0⟩] scope pos) 0 it acc env).onRaise (fun x => do noteFrame x env; theTreesLotGoes x)) _ _ s
  refine wpAny_noted ?_
  rw [compTurn_first]
  refine wpAny_bind (wpAny_standAt (wpAny_bind (wpAny_mono (turn n s hI) (fun r s₁ h₁ => ?_) fun _ _ h' => h')))
  cases r with
  | none => exact wpAny_pure h₁
  | some v =>
    refine wpAny_bind (wpAny_of_eq (ht v) ?_)
    refine wpAny_bind (wpAny_mono h₁ (fun _ s₂ h₂ => wpAny_bind (wpAny_mono h₂ (fun x s₃ h₃ => wpAny_bind (wpAny_standAt (wpAny_bind (wpAny_of_eq (hs x) (wpAny_bind (wpAny_holding (wpAny_mono h₃ (fun it1 s₄ h₄ => ?_) fun _ _ h' => h'))))))) fun _ _ h' => h')) fun _ _ h' => h')
    refine wpAny_bind (wpAny_runOwn (codeAny_mono h₄ fun r s₅ h₅ => ?_))
    cases r with
    | ok f => exact wpAny_pure ⟨rfl, h₅⟩
    | error e => exact h₅
theorem codeAny_compStart_second {elt target iter : PySem.Expr} {g0 : Comprehension} {ifs : List PySem.Expr} {scope : Scope} {pos : PySem.Pos} {it acc : Value} {env : Env}
    (h0 : codeAny (model prog w) A (.compLoop (.ListComp elt [g0, ⟨target, iter, ifs, 0⟩] scope pos) 1 it acc env) R s)
    (h : wpAny (model prog w) A (pyIter it) (fun it' s' => codeAny (model prog w) A (.compLoop (.ListComp elt [g0, ⟨target, iter, ifs, 0⟩] scope pos) 1 it' acc env) R s')
      (notedBy (model prog w) A env fun x s' => R (.error x) s') s) :
    codeAny (model prog w) A (.compStart (.ListComp elt [g0, ⟨target, iter, ifs, 0⟩] scope pos) 1 it acc env) R s := by
  refine codeAny_of_tree ?_
  show wpAny _ _ ((compStart (.ListComp elt [g0, ⟨target, iter, ifs, 0⟩] scope pos) 1 it acc env).onRaise (fun x => do noteFrame x env; standAt theWindowsPlace)) _ _ s
  refine wpAny_notedAt ?_
  unfold compStart
  show wpAny _ _ (ask >>= _) _ _ s
  refine wpAny_bind (wpAny_askSetting (wpAny_ite ?_))
  split
  · first
      | exact wpAny_bind (wpAny_pure (wpAny_pure (And.intro rfl h0)))
      | exact wpAny_pure (And.intro rfl h0)
  · first
      | exact wpAny_bind (wpAny_rule (wpAny_bind (wpAny_standAt (wpAny_bind (wpAny_mono h (fun it' s' h' => wpAny_pure (And.intro rfl h')) fun _ _ x => x)))))
      | (refine wpAny_bind (wpAny_rule ?_); show wpAny _ _ (standAt iter.pos >>= _) _ _ s; exact wpAny_bind (wpAny_standAt (wpAny_bind (wpAny_mono h (fun it' s' h' => wpAny_pure (And.intro rfl h')) fun _ _ x => x))))
end
end
section
open PySem PySem.W PyProof.Rows PySem.Calls
open LCg
set_option maxRecDepth 100000
set_option maxHeartbeats 1000000
noncomputable def cntB (p : Nat → Bool) : Nat → Nat
  | 0 => 0
  | i + 1 => cntB p i + (if p i = true then 1 else 0)
theorem news_one {h₀ h h' : Heap} {L d : Addr} {o o' : Obj} {pre post : Led} (N : News h₀ L h (pre ++ (d, o) :: post)) (hk : ∀ b x, b ≠ d → h.get? b = some x → h'.get? b = some x) (hd : h'.get? d = some o') (a : ∀ p ∈ pre, p.1 ≠ d) (b : ∀ p ∈ post, p.1 ≠ d) : News h₀ L h' (pre ++ (d, o') :: post) := by
  intro p hp
  rcases List.mem_append.mp hp with hp | hp
  · exact ⟨hk _ _ (a p hp) (N p (List.mem_append.mpr (.inl hp))).1, (N p (List.mem_append.mpr (.inl hp))).2⟩
  · rcases List.mem_cons.mp hp with rfl | hp
    · exact ⟨hd, (N (d, o) (List.mem_append.mpr (.inr (.head _)))).2⟩
    · exact ⟨hk _ _ (b p hp) (N p (List.mem_append.mpr (.inr (.tail _ hp)))).1, (N p (List.mem_append.mpr (.inr (.tail _ hp)))).2⟩
theorem fr_one {h₀ h h' : Heap} {L d : Addr} {m : Map} (F : Fr h₀ L h m) (hk : ∀ b x, b ≠ d → h.get? b = some x → h'.get? b = some x) (hL : L ≠ d) (h0 : h₀.get? d = none) : Fr h₀ L h' m :=
  ⟨F.ns.at' fun o e => hk L o hL e, fun b o e => hk b o (fun q => by rw [q, h0] at e; cases e) (F.keep b o e), F.above⟩
section
variable {prog : Program} {w : World} {A : Around} {R : Result → Shared → Prop} {s : Shared} {h₀ : Heap} {L : Addr} {m : Map}
theorem near_inner {elt ct iter : PySem.Expr} {g0 : Comprehension} {xi xj : Str} {px : PySem.Pos} {scope : Scope} {cl : List (Str × Addr)} {pos : PySem.Pos} {env : Env} {I2 I C D : Addr} {oI2 oI oC : Obj} {ys : List Value} {news : Led} {j : Nat} {tj : Tok} {m₂ : Map} (cond : Nat → Bool)
    (hh : A.handled = none) (hkind : scope.kind = .function) (hx : scope.names.lookup xi = some .local) (hij : xj ≠ xi)
    (st : IsRangeIter s.heap I2 (0 + ((0 : Nat) : Int) * 1) ((j : Int) - ((0 : Nat) : Int)) 1) (F : Fr h₀ L s.heap m) (hC : NsObj oC m₂) (hmj : m₂ xj = some (.int j tj)) (N : News h₀ L s.heap ((I2, oI2) :: (I, oI) :: (C, oC) :: (D, lst ys) :: news))
    (ap : I2 ≠ I ∧ I2 ≠ C ∧ I2 ≠ D ∧ I ≠ C ∧ I ≠ D ∧ C ≠ D) (apn : ∀ p ∈ news, p.1 ≠ I2 ∧ p.1 ≠ I ∧ p.1 ≠ C ∧ p.1 ≠ D) (hjs : j ≤ 1000) (hys : ys.length ≤ 1000)
    (test : ∀ i ti h tk oC m₂ oI2 ys (E' : Value → Shared → Prop), i < j → NsObj oC m₂ → m₂ xj = some (.int j tj) → m₂ xi = some (.int (i : Int) ti) → Fr h₀ L h m → News h₀ L h ((I2, oI2) :: (I, oI) :: (C, oC) :: (D, lst ys) :: news) →
      wpAny (model prog w) A (isTrue ct (compEnvC scope cl C env) (eval ct (compEnvC scope cl C env))) (fun ok s' => ok = cond i ∧ ∃ h' tk', s' = { s with heap := h', toks := tk' } ∧ Fr h₀ L h' m ∧ News h₀ L h' ((I2, oI2) :: (I, oI) :: (C, oC) :: (D, lst ys) :: news)) E' { s with heap := h, toks := tk })
    (elt_ : ∀ h tk (E' : Value → Shared → Prop), wpAny (model prog w) A (eval elt (compEnvC scope cl C env)) (fun _ s' => ∃ tk', s' = { s with heap := h, toks := tk' }) E' { s with heap := h, toks := tk })
    (fin : ∀ h tk oC m₂ ys', ys'.length = ys.length + cntB cond j → NsObj oC m₂ → Fr h₀ L h m → News h₀ L h ((I, oI) :: (C, oC) :: (D, lst ys') :: news) → R (.ok .next) { s with heap := h, toks := tk }) :
    codeAny (model prog w) A (.compLoop (.ListComp elt [g0, ⟨.Name xi px, iter, [ct], 0⟩] scope pos) 1 (.ref I2) (.ref D) (compEnvC scope cl C env)) R s := by
  refine box fun zG => ?_
  obtain ⟨a1, a2, a3, a4, a5, a6⟩ := ap
  refine zG ?_
  clear zG
  have W := range_walks (prog := prog) (w := w) (A := A) (I := I2) hh 0 j
  have nI2 := (N (I2, oI2) (by first | k_mem | simp)).2
  have nC := (N (C, oC) (by first | k_mem | simp)).2
  have nD := (N (D, lst ys) (by first | k_mem | simp)).2
  refine codeAny_second (fun k s' => ∃ h tk i oC m₂ oI2 ys', s' = { s with heap := h, toks := tk } ∧ i ≤ j ∧ k = j + 1 - i ∧ ys'.length = ys.length + cntB cond i ∧ ys'.length ≤ ys.length + i ∧ IsRangeIter h I2 (0 + (i : Int) * 1) ((j : Int) - (i : Int)) 1 ∧ NsObj oC m₂ ∧ m₂ xj = some (.int j tj) ∧ Fr h₀ L h m ∧ News h₀ L h ((I2, oI2) :: (I, oI) :: (C, oC) :: (D, lst ys') :: news)) ?_ (j + 1)
    ⟨s.heap, s.toks, 0, oC, m₂, oI2, ys, rfl, Nat.zero_le _, rfl, rfl, Nat.le_refl _, st, hC, hmj, F, N⟩
  intro k s' zH1
  refine box fun zG => ?_
  obtain ⟨h, tk, i, oC, m₂, oI2, ys', rfl, hi, rfl, hy1, hy2, st, hC, hmj, F, N⟩ := zH1
  refine zG ?_
  clear zG
  by_cases hlt : i < j
  · refine W.item i _ _ _ hlt st fun v h1 tk1 hv st1 hk1 => ?_
    obtain ⟨ti, rfl⟩ := hv
    rw [Int.zero_add]
    have hk1' : ∀ b x, b ≠ I2 → h.get? b = some x → h1.get? b = some x := fun b x hb e => hk1 b x (by simpa using hb) e
    have F1 := fr_one F hk1' (Ne.symm nI2.1) nI2.2
    have e1 : h1.get? I2 = some _ := st1
    have N1 := news_one (pre := []) (post := (I, oI) :: (C, oC) :: (D, lst ys') :: news) N hk1' e1 (fun _ h => nomatch h) (fun p hp => by
      simp only [List.mem_cons] at hp
      rcases hp with rfl | rfl | rfl | hp
      · exact Ne.symm a1
      · exact Ne.symm a2
      · exact Ne.symm a3
      · exact (apn p hp).1)
    have hnC := hC.ns (N1 (C, oC) (by first | k_mem | simp)).1
    refine wpAny_assign_Name (wpAny_storeName_local (lookup_relabel_local hx) hnC (fun h2 hn2 hs2 => ?_) (by simp [compEnvC, relabel, hkind]))
    obtain ⟨oC2, heC2, hoC2⟩ := ns_obj hn2
    have hk2 : ∀ b x, b ≠ C → h1.get? b = some x → h2.get? b = some x := fun b x hb e => hs2.extBut b x hb e
    have F2 := fr_one F1 hk2 (Ne.symm nC.1) nC.2
    have N2 := news_one (pre := [(I2, _), (I, oI)]) (post := (D, lst ys') :: news) N1 hk2 heC2 (fun p hp => by
      simp only [List.mem_cons, List.not_mem_nil, or_false] at hp
      rcases hp with rfl | rfl
      · exact a2
      · exact a4) (fun p hp => by
      rcases List.mem_cons.mp hp with rfl | hp
      · exact Ne.symm a6
      · exact (apn p hp).2.2.1)
    refine wpAny_tests_one (wpAny_mono (test i ti h2 _ oC2 _ _ ys' _ hlt hoC2 (by show (if xj = xi then _ else _) = _; rw [if_neg hij]; exact hmj) (by simp) F2 N2) (fun ok s3 q => ?_) fun _ _ e => e)
    refine box fun zG => ?_
    obtain ⟨hok, h3, tk3, rfl, F3, N3⟩ := q
    refine zG ?_
    clear zG
    have st3 : IsRangeIter h3 I2 (0 + ((i + 1 : Nat) : Int) * 1) ((j : Int) - ((i + 1 : Nat) : Int)) 1 := (N3 (I2, _) (by first | k_mem | simp)).1
    have hmj2 : (fun y => if y = xi then some (Value.int (i : Int) ti) else m₂ y) xj = some (.int j tj) := by show (if xj = xi then _ else _) = _; rw [if_neg hij]; exact hmj
    cases hc : cond i with
    | true =>
      rw [hok, hc, if_pos rfl]
      refine wpAny_mono (elt_ h3 tk3 _) (fun y s4 q => ?_) fun _ _ e => e
      obtain ⟨tk4, rfl⟩ := q
      have zD := (N3 (D, lst ys') (by first | k_mem | simp)).1
      refine append_at (hsz := by show ys'.toArray.size ≤ sizeLine; rw [List.size_toArray, sizeLine_eq]; omega) zD fun h5 hs5 hD5 => ?_
      have hk5 : ∀ b x, b ≠ D → h3.get? b = some x → h5.get? b = some x := fun b x hb e => hs5.extBut b x hb e
      have hD5' : h5.get? D = some (lst (ys' ++ [y])) := hD5.trans (congrArg some (lst_snoc ys' y))
      have F5 := fr_one F3 hk5 (Ne.symm nD.1) nD.2
      have N5 := news_one (pre := [(I2, _), (I, oI), (C, oC2)]) (post := news) N3 hk5 hD5' (fun p hp => by
        simp only [List.mem_cons, List.not_mem_nil, or_false] at hp
        rcases hp with rfl | rfl | rfl
        · exact a3
        · exact a5
        · exact a6) (fun p hp => (apn p hp).2.2.2)
      refine ⟨j + 1 - (i + 1), by omega, h5, tk4, i + 1, oC2, _, _, ys' ++ [y], rfl, hlt, rfl, ?_, ?_, (N5 (I2, _) (by first | k_mem | simp)).1, hoC2, hmj2, F5, N5⟩
      · rw [List.length_append, List.length_singleton, hy1]
        show _ = _ + (cntB cond i + (if cond i = true then 1 else 0))
        rw [hc, if_pos rfl]; omega
      · rw [List.length_append, List.length_singleton]; omega
    | false =>
      rw [hok, hc, if_neg (by decide)]
      refine ⟨j + 1 - (i + 1), by omega, h3, tk3, i + 1, oC2, _, _, ys', rfl, hlt, rfl, ?_, by omega, st3, hoC2, hmj2, F3, N3⟩
      show _ = _ + (cntB cond i + (if cond i = true then 1 else 0))
      rw [hc, if_neg (by decide)]; omega
  · obtain rfl : i = j := Nat.le_antisymm hi (Nat.not_lt.mp hlt)
    refine W.done _ _ _ st fun h1 tk1 hk1 => ?_
    have hk1' : ∀ b x, b ≠ I2 → h.get? b = some x → h1.get? b = some x := fun b x hb e => hk1 b x (by simpa using hb) e
    refine fin h1 tk1 oC m₂ ys' hy1 hC (fr_one F hk1' (Ne.symm nI2.1) nI2.2) fun p hp => ⟨hk1' _ _ ?_ (N p (.tail _ hp)).1, (N p (.tail _ hp)).2⟩
    simp only [List.mem_cons] at hp
    rcases hp with rfl | rfl | rfl | hp
    · exact Ne.symm a1
    · exact Ne.symm a2
    · exact Ne.symm a3
    · exact (apn p hp).1
noncomputable def cntT (c : Nat → Nat → Bool) : Nat → Nat
  | 0 => 0
  | j + 1 => cntT c j + cntB (c j) j
theorem cntB_le (p : Nat → Bool) : ∀ i, cntB p i ≤ i
  | 0 => Nat.le_refl _
  | i + 1 => by
    have := cntB_le p i
    unfold cntB
    split <;> omega
theorem rsz (j : Nat) : Builtin.Range.rangeSize 0 (j : Int) 1 = (j : Int) := by
  unfold Builtin.Range.rangeSize
  split <;> simp_all
  all_goals omega
theorem rsm {j : Nat} (h : j ≤ 1000) : Builtin.Range.small 0 (j : Int) 1 = true := by
  unfold Builtin.Range.small
  rw [rsz]
  simp [Builtin.Range.rangeFitsLong]
  omega
theorem near_outer {elt ct i0 i1 : PySem.Expr} {xi xj : Str} {px pj : PySem.Pos} {scope : Scope} {cl : List (Str × Addr)} {pos : PySem.Pos} {env : Env} {I C D : Addr} {oI oC : Obj} {news : Led} {n : Nat} {m₂ : Map} (cond : Nat → Nat → Bool)
    (hh : A.handled = none) (hkind : scope.kind = .function) (hx : scope.names.lookup xi = some .local) (hx0 : scope.names.lookup xj = some .local) (hij : xj ≠ xi)
    (st : IsRangeIter s.heap I (0 + ((0 : Nat) : Int) * 1) ((n : Int) - ((0 : Nat) : Int)) 1) (F : Fr h₀ L s.heap m) (hC : NsObj oC m₂) (N : News h₀ L s.heap ((I, oI) :: (C, oC) :: (D, lst []) :: news))
    (ap : I ≠ C ∧ I ≠ D ∧ C ≠ D) (apn : ∀ p ∈ news, p.1 ≠ I ∧ p.1 ≠ C ∧ p.1 ≠ D) (hn : n ≤ 20) (hs1 : ∀ x, foldedSetIterable i1 (compEnvC scope cl C env) x = pure x)
    (rng : ∀ j tj h tk oC m₂ oI ys (E' : Value → Shared → Prop), j < n → NsObj oC m₂ → m₂ xj = some (.int (j : Int) tj) → Fr h₀ L h m → News h₀ L h ((I, oI) :: (C, oC) :: (D, lst ys) :: news) →
      wpAny (model prog w) A (eval i1 (compEnvC scope cl C env)) (fun x s' => ∃ r h' tk' ta tb tc, x = .ref r ∧ s' = { s with heap := h', toks := tk' } ∧ IsRange h' r 0 (j : Int) 1 ta tb tc ∧ Fr h₀ L h' m ∧ News h₀ L h' ((I, oI) :: (C, oC) :: (D, lst ys) :: news)) E' { s with heap := h, toks := tk })
    (test : ∀ j tj i ti I2 h tk oC m₂ oI2 oI ys (E' : Value → Shared → Prop), i < j → j < n → NsObj oC m₂ → m₂ xj = some (.int (j : Int) tj) → m₂ xi = some (.int (i : Int) ti) → Fr h₀ L h m → News h₀ L h ((I2, oI2) :: (I, oI) :: (C, oC) :: (D, lst ys) :: news) →
      wpAny (model prog w) A (isTrue ct (compEnvC scope cl C env) (eval ct (compEnvC scope cl C env))) (fun ok s' => ok = cond j i ∧ ∃ h' tk', s' = { s with heap := h', toks := tk' } ∧ Fr h₀ L h' m ∧ News h₀ L h' ((I2, oI2) :: (I, oI) :: (C, oC) :: (D, lst ys) :: news)) E' { s with heap := h, toks := tk })
    (elt_ : ∀ h tk (E' : Value → Shared → Prop), wpAny (model prog w) A (eval elt (compEnvC scope cl C env)) (fun _ s' => ∃ tk', s' = { s with heap := h, toks := tk' }) E' { s with heap := h, toks := tk })
    (fin : ∀ h tk oC m₂ ys', ys'.length = cntT cond n → NsObj oC m₂ → Fr h₀ L h m → News h₀ L h ((C, oC) :: (D, lst ys') :: news) → R (.ok .next) { s with heap := h, toks := tk }) :
    codeAny (model prog w) A (.compLoop (.ListComp elt [⟨.Name xj pj, i0, [], 0⟩, ⟨.Name xi px, i1, [ct], 0⟩] scope pos) 0 (.ref I) (.ref D) (compEnvC scope cl C env)) R s := by
  obtain ⟨a1, a2, a3⟩ := ap
  have W := range_walks (prog := prog) (w := w) (A := A) (I := I) hh 0 n
  have nI := (N (I, oI) (by first | k_mem | simp)).2
  have nC := (N (C, oC) (by first | k_mem | simp)).2
  have nD := (N (D, lst []) (by first | k_mem | simp)).2
  refine codeAny_first (hs := hs1) (fun k s' => ∃ h tk j oC m₂ oI ys, s' = { s with heap := h, toks := tk } ∧ j ≤ n ∧ k = n + 1 - j ∧ ys.length = cntT cond j ∧ ys.length ≤ 20 * j ∧ IsRangeIter h I (0 + (j : Int) * 1) ((n : Int) - (j : Int)) 1 ∧ NsObj oC m₂ ∧ Fr h₀ L h m ∧ News h₀ L h ((I, oI) :: (C, oC) :: (D, lst ys) :: news)) ?_ (n + 1)
    ⟨s.heap, s.toks, 0, oC, m₂, oI, [], rfl, Nat.zero_le _, rfl, rfl, Nat.le_refl _, st, hC, F, N⟩
  intro k s' zH1
  refine box fun zG => ?_
  obtain ⟨h, tk, j, oC, m₂, oI, ys, rfl, hj, rfl, hy1, hy2, st, hC, F, N⟩ := zH1
  refine zG ?_
  clear zG
  by_cases hlt : j < n
  · refine W.item j _ _ _ hlt st fun v h1 tk1 hv st1 hk1 => ?_
    obtain ⟨tj, rfl⟩ := hv
    rw [Int.zero_add]
    have hk1' : ∀ b x, b ≠ I → h.get? b = some x → h1.get? b = some x := fun b x hb e => hk1 b x (by simpa using hb) e
    have F1 := fr_one F hk1' (Ne.symm nI.1) nI.2
    have e1 : h1.get? I = some _ := st1
    have N1 := news_one (pre := []) (post := (C, oC) :: (D, lst ys) :: news) N hk1' e1 (fun _ h => nomatch h) (fun p hp => by
      simp only [List.mem_cons] at hp
      rcases hp with rfl | rfl | hp
      · exact Ne.symm a1
      · exact Ne.symm a2
      · exact (apn p hp).1)
    have hnC := hC.ns (N1 (C, oC) (by first | k_mem | simp)).1
    refine wpAny_assign_Name (wpAny_storeName_local (lookup_relabel_local hx0) hnC (fun h2 hn2 hs2 => ?_) (by simp [compEnvC, relabel, hkind]))
    obtain ⟨oC2, heC2, hoC2⟩ := ns_obj hn2
    have hk2 : ∀ b x, b ≠ C → h1.get? b = some x → h2.get? b = some x := fun b x hb e => hs2.extBut b x hb e
    have F2 := fr_one F1 hk2 (Ne.symm nC.1) nC.2
    have N2 := news_one (pre := [(I, _)]) (post := (D, lst ys) :: news) N1 hk2 heC2 (fun p hp => by
      simp only [List.mem_cons, List.not_mem_nil, or_false] at hp
      rw [hp]; exact a1) (fun p hp => by
      rcases List.mem_cons.mp hp with rfl | hp
      · exact Ne.symm a3
      · exact (apn p hp).2.1)
    have hmj2 : (fun y => if y = xj then some (Value.int (j : Int) tj) else m₂ y) xj = some (.int j tj) := by simp
    refine wpAny_mono (rng j tj h2 _ oC2 _ _ ys _ hlt hoC2 hmj2 F2 N2) (fun x s3 q => ?_) fun _ _ e => e
    refine box fun zG => ?_
    obtain ⟨r, h3, tk3, ta, tb, tc, rfl, rfl, hr, F3, N3⟩ := q
    refine zG ?_
    clear zG
    refine wpAny_pyIter_range hr (rsm (by omega)) ?_
    rw [rsz]
    have hup : ∀ b x, h3.get? b = some x → (h3.push { cls := .type "range_iterator", data := .fields #[rawInt 0, rawInt (j : Int), rawInt 1] }).get? b = some x := fun b x e => Heap.get?_push_of_some _ e
    generalize hH : h3.push { cls := .type "range_iterator", data := .fields #[rawInt 0, rawInt (j : Int), rawInt 1] } = H4 at hup ⊢
    have hi2 : H4.get? h3.objs.size = some _ := hH ▸ Heap.get?_push_size _ rfl
    have st2 : IsRangeIter H4 h3.objs.size (0 + ((0 : Nat) : Int) * 1) ((j : Int) - ((0 : Nat) : Int)) 1 := by
      rw [← hH]
      have := Heap.get?_push_size h3 (o := { cls := .type "range_iterator", data := .fields #[rawInt 0, rawInt (j : Int), rawInt 1] }) rfl
      simpa [IsRangeIter] using this
    have lt := fun p hp => Heap.lt_size (N3 p hp).1
    have h0 : h₀.get? h3.objs.size = none := next_is_new F3
    have N4 : News h₀ L H4 ((h3.objs.size, _) :: (I, _) :: (C, oC2) :: (D, lst ys) :: news) := fun p hp => by
      rcases List.mem_cons.mp hp with rfl | hp
      · exact ⟨hi2, Ne.symm (Nat.ne_of_lt F3.ns.lt), h0⟩
      · exact ⟨hup _ _ (N3 p hp).1, (N3 p hp).2⟩
    have F4 : Fr h₀ L H4 m := F3.keeps hup
    have inner := near_inner (prog := prog) (w := w) (A := A) (s := { s with heap := H4, toks := tk3 }) (elt := elt) (ct := ct) (iter := i1) (g0 := ⟨.Name xj pj, i0, [], 0⟩) (px := px) (scope := scope) (cl := cl) (pos := pos) (env := env) (I2 := h3.objs.size) (I := I) (C := C) (D := D) (ys := ys) (news := news) (j := j) (tj := tj) (cond j)
      (R := fun r s₅ => match r with
              | .ok _ => ∃ mm, mm < n + 1 - j ∧ ∃ h tk j oC m₂ oI ys, s₅ = { s with heap := h, toks := tk } ∧ j ≤ n ∧ mm = n + 1 - j ∧ ys.length = cntT cond j ∧ ys.length ≤ 20 * j ∧ IsRangeIter h I (0 + (j : Int) * 1) ((n : Int) - (j : Int)) 1 ∧ NsObj oC m₂ ∧ Fr h₀ L h m ∧ News h₀ L h ((I, oI) :: (C, oC) :: (D, lst ys) :: news)
              | .error e => cameBackBy (model prog w) A (compEnvC scope cl C env) (notedBy (model prog w) A (compEnvC scope cl C env) fun e s' => R (.error e) s') e s₅)
      hh hkind hx hij st2 F4 hoC2 hmj2 N4 ⟨Nat.ne_of_gt (lt _ (.head _)), Nat.ne_of_gt (lt (C, oC2) (by first | k_mem | simp)), Nat.ne_of_gt (lt (D, lst ys) (by first | k_mem | simp)), a1, a2, a3⟩
      (fun p hp => ⟨Nat.ne_of_lt (lt p (by simp [hp])), (apn p hp).1, (apn p hp).2.1, (apn p hp).2.2⟩) (by omega) (by omega)
      (fun i ti h tk oC m₂ oI2 ys E' hi hC hmj hmi F N => test j tj i ti _ h tk oC m₂ oI2 _ ys E' hi hlt hC hmj hmi F N)
      (fun h tk E' => elt_ h tk E')
      (fun h tk oC m₂ ys' hy hC F N => ⟨n + 1 - (j + 1), by omega, h, tk, j + 1, oC, m₂, _, ys', rfl, hlt, rfl, by rw [hy, hy1]; rfl, by have := cntB_le (cond j) j; omega, (N (I, _) (by first | k_mem | simp)).1, hC, F, N⟩)
    exact codeAny_compStart_second inner ((range_walks (prog := prog) (w := w) (A := A) (I := h3.objs.size) hh 0 j).self 0 _ _ _ st2 inner)
  · obtain rfl : j = n := Nat.le_antisymm hj (Nat.not_lt.mp hlt)
    refine W.done _ _ _ st fun h1 tk1 hk1 => ?_
    have hk1' : ∀ b x, b ≠ I → h.get? b = some x → h1.get? b = some x := fun b x hb e => hk1 b x (by simpa using hb) e
    refine fin h1 tk1 oC m₂ ys hy1 hC (fr_one F hk1' (Ne.symm nI.1) nI.2) fun p hp => ⟨hk1' _ _ ?_ (N p (.tail _ hp)).1, (N p (.tail _ hp)).2⟩
    simp only [List.mem_cons] at hp
    rcases hp with rfl | rfl | hp
    · exact Ne.symm a1
    · exact Ne.symm a2
    · exact (apn p hp).1
noncomputable def RngPost (h₀ : Heap) (L : Addr) (m : Map) (s : Shared) (led : Led) (n : Nat) (xv : Value) (s₁ : Shared) : Prop := ∃ r h' tk' ta tb tc, xv = .ref r ∧ s₁ = { s with heap := h', toks := tk' } ∧ IsRange h' r 0 (n : Int) 1 ta tb tc ∧ Fr h₀ L h' m ∧ News h₀ L h' led
noncomputable def TestPost (h₀ : Heap) (L : Addr) (m : Map) (s : Shared) (led : Led) (b ok : Bool) (s' : Shared) : Prop := ok = b ∧ ∃ h' tk', s' = { s with heap := h', toks := tk' } ∧ Fr h₀ L h' m ∧ News h₀ L h' led
noncomputable def EltPost (s : Shared) (h : Heap) (_ : Value) (s' : Shared) : Prop := ∃ tk', s' = { s with heap := h, toks := tk' }
theorem near_assign {elt ct i0 i1 : PySem.Expr} {xi xj : Str} {px pj : PySem.Pos} {scope : Scope} {cl : List (Str × Addr)} {pos : PySem.Pos} {env : Env} {news : Led} {n : Nat} {y : Str} {py spos : PySem.Pos} {E : Value → Shared → Prop} {Q : Flow → Shared → Prop} (cond : Nat → Nat → Bool) (_F : Fr h₀ L s.heap m) (_N : News h₀ L s.heap news)
    (hLe : env.locals = L) (hsw : swapsWith (.ListComp elt [⟨.Name xj pj, i0, [], 0⟩, ⟨.Name xi px, i1, [ct], 0⟩] scope pos) (some (.Name y py)) spos.line env = pure true) (hyl : env.kindOf y = some .local) (hpl : (env.scope.kind == .class || (env.scope.kind == .module && env.locals != env.globals)) = false)
    (hh : A.handled = none) (hclos : closureFor scope env = pure cl) (hcell : ∀ y ∈ scope.names, y.2 ≠ .cell) (hkind : scope.kind = .function)
    (hnames : ∀ y ∈ scope.names, y.2 = .local → scope.names.lookup y.1 = some .local) (hx : scope.names.lookup xi = some .local) (hx0 : scope.names.lookup xj = some .local) (hij : xj ≠ xi) (hn : n ≤ 20) (hs : ∀ x, foldedSetIterable i0 env x = pure x) (hs1 : ∀ C x, foldedSetIterable i1 (compEnvC scope cl C env) x = pure x)
    (h : wpAny (model prog w) A (eval i0 env) (RngPost h₀ L m s news n) E s)
    (rng : ∀ I C D j tj h tk oC m₂ oI ys (E' : Value → Shared → Prop), j < n → NsObj oC m₂ → m₂ xj = some (.int (j : Int) tj) → Fr h₀ L h m → News h₀ L h ((I, oI) :: (C, oC) :: (D, lst ys) :: news) →
      wpAny (model prog w) A (eval i1 (compEnvC scope cl C env)) (RngPost h₀ L m s ((I, oI) :: (C, oC) :: (D, lst ys) :: news) j) E' { s with heap := h, toks := tk })
    (test : ∀ I C D j tj i ti I2 h tk oC m₂ oI2 oI ys (E' : Value → Shared → Prop), i < j → j < n → NsObj oC m₂ → m₂ xj = some (.int (j : Int) tj) → m₂ xi = some (.int (i : Int) ti) → Fr h₀ L h m → News h₀ L h ((I2, oI2) :: (I, oI) :: (C, oC) :: (D, lst ys) :: news) →
      wpAny (model prog w) A (isTrue ct (compEnvC scope cl C env) (eval ct (compEnvC scope cl C env))) (TestPost h₀ L m s ((I2, oI2) :: (I, oI) :: (C, oC) :: (D, lst ys) :: news) (cond j i)) E' { s with heap := h, toks := tk })
    (elt_ : ∀ C h tk (E' : Value → Shared → Prop), wpAny (model prog w) A (eval elt (compEnvC scope cl C env)) (EltPost s h) E' { s with heap := h, toks := tk })
    (fin : ∀ D h tk ys, ys.length = cntT cond n → Fr h₀ L h (fun z => if z = y then some (.ref D) else m z) → News h₀ L h ((D, lst ys) :: news) → (∀ p ∈ news, p.1 ≠ D) → Q .next { s with heap := h, toks := tk }) :
    wpAny (model prog w) A (exec (.Assign [.Name y py] (.ListComp elt [⟨.Name xj pj, i0, [], 0⟩, ⟨.Name xi px, i1, [ct], 0⟩] scope pos) spos) env) Q E s := by
  subst hLe
  rw [exec_Assign_Name_used _ _ _ _ hsw]
  refine wpAny_bind (wpAny_standAt (wpAny_bind ?_))
  show wpAny _ A (do let _ ← comprehension (.ListComp elt [⟨.Name xj pj, i0, [], 0⟩, ⟨.Name xi px, i1, [ct], 0⟩] scope pos) scope env _ (newList []) false (eval i0 env) (some (assign (.Name y py) env))) _ _ s
  refine wpAny_bind (wpAny_mono (wpAny_comprehension_free (use := some (assign (.Name y py) env)) (Q := fun _ s' => Q .next s') rfl hs hclos hkind hnames
    (wpAny_mono h (fun xv s₁ h₁ => ?_) fun _ _ e => e)) (fun _ s' hq => wpAny_pure (wpAny_pure hq)) fun _ _ e => e)
  refine box fun zG => ?_
  obtain ⟨r, h', tk', ta, tb, tc, rfl, rfl, hr, F, N⟩ := h₁
  refine zG ?_
  clear zG
  refine wpAny_pyIter_range hr (rsm (by omega)) ?_
  rw [rsz]
  dsimp only
  have hup : ∀ b x, h'.get? b = some x → (h'.push { cls := .type "range_iterator", data := .fields #[rawInt 0, rawInt (n : Int), rawInt 1] }).get? b = some x := fun b x e => Heap.get?_push_of_some _ e
  have hiI : (h'.push { cls := .type "range_iterator", data := .fields #[rawInt 0, rawInt (n : Int), rawInt 1] }).get? h'.objs.size = some _ := Heap.get?_push_size _ rfl
  have hsz1 : (h'.push { cls := .type "range_iterator", data := .fields #[rawInt 0, rawInt (n : Int), rawInt 1] }).objs.size = h'.objs.size + 1 := Heap.size_push ..
  generalize h'.push { cls := .type "range_iterator", data := .fields #[rawInt 0, rawInt (n : Int), rawInt 1] } = H1 at hup hiI hsz1 ⊢
  have F1 : Fr h₀ env.locals H1 m := F.keeps hup
  have lt := fun p hp => Heap.lt_size (N p hp).1
  refine wpAny_newObj_type (wpAny_newFunctionEnv hcell (by intro y hy; simp at hy) (fun h₁ hns₁ hsb₁ => ?_) hkind)
  dsimp only at hns₁ hsb₁ ⊢
  have hup2 : ∀ b x, H1.get? b = some x → (H1.push { cls := .type "list", dict := none, data := .seq ([] : List Value).toArray }).get? b = some x := fun b x e => Heap.get?_push_of_some _ e
  have hD2 : (H1.push { cls := .type "list", dict := none, data := .seq ([] : List Value).toArray }).get? H1.objs.size = some (lst []) := Heap.get?_push_size _ rfl
  have hsz2 : (H1.push { cls := .type "list", dict := none, data := .seq ([] : List Value).toArray }).objs.size = H1.objs.size + 1 := Heap.size_push ..
  generalize H1.push { cls := .type "list", dict := none, data := .seq ([] : List Value).toArray } = H2 at hns₁ hsb₁ hup2 hD2 hsz2 ⊢
  have old : ∀ b x, H2.get? b = some x → h₁.get? b = some x := fun b x e => hsb₁.extBut b x (Nat.ne_of_lt (Heap.lt_size e)) (Heap.get?_push_of_some _ e)
  have F2 : Fr h₀ env.locals H2 m := F1.keeps hup2
  have F3 : Fr h₀ env.locals h₁ m := F2.keeps old
  obtain ⟨oC, heC, hoC⟩ := ns_obj hns₁
  have hLlt := F.ns.lt
  have s1 : h'.objs.size < H1.objs.size := by rw [hsz1]; exact Nat.lt_succ_self _
  have s2 : H1.objs.size < H2.objs.size := by rw [hsz2]; exact Nat.lt_succ_self _
  have L2 := Nat.lt_trans hLlt s1
  have L3 := Nat.lt_trans L2 s2
  have fresh : ∀ a, h'.objs.size ≤ a → h₀.get? a = none := fun a ha => Heap.get?_none_of_le (Nat.le_trans (Nat.le_trans F.above (Nat.le_of_lt hLlt)) ha)
  have N3 : News h₀ env.locals h₁ ((h'.objs.size, _) :: (H2.objs.size, oC) :: (H1.objs.size, lst []) :: news) := fun p hp => by
    rcases List.mem_cons.mp hp with rfl | hp
    · exact ⟨old _ _ (hup2 _ _ hiI), Ne.symm (Nat.ne_of_lt hLlt), fresh _ (Nat.le_refl _)⟩
    rcases List.mem_cons.mp hp with rfl | hp
    · exact ⟨heC, Nat.ne_of_gt L3, fresh _ (Nat.le_of_lt (Nat.lt_trans s1 s2))⟩
    rcases List.mem_cons.mp hp with rfl | hp
    · exact ⟨old _ _ hD2, Nat.ne_of_gt L2, fresh _ (Nat.le_of_lt s1)⟩
    · exact ⟨old _ _ (hup2 _ _ (hup _ _ (N p hp).1)), (N p hp).2⟩
  have st : IsRangeIter h₁ h'.objs.size (0 + ((0 : Nat) : Int) * 1) ((n : Int) - ((0 : Nat) : Int)) 1 := by
    have e := (N3 (h'.objs.size, _) (.head _)).1
    simpa [IsRangeIter] using e
  have loop := near_outer (prog := prog) (w := w) (A := A) (s := { s with heap := h₁, toks := tk' + ([] : List (Str × Value)).length }) (R := compPost (model prog w) A E (some (assign (.Name y py) env)) (fun _ s' => Q .next s') (.ref H1.objs.size) H2.objs.size) (elt := elt) (ct := ct) (i0 := i0) (i1 := i1) (px := px) (pj := pj) (scope := scope) (cl := cl) (pos := pos) (env := env) (I := h'.objs.size) (C := H2.objs.size) (D := H1.objs.size) (news := news) (n := n) cond
    hh hkind hx hx0 hij st F3 hoC N3 ⟨Nat.ne_of_lt (Nat.lt_trans s1 s2), Nat.ne_of_lt s1, Nat.ne_of_gt s2⟩ (fun p hp => ⟨Nat.ne_of_lt (lt p hp), Nat.ne_of_lt (Nat.lt_trans (lt p hp) (Nat.lt_trans s1 s2)), Nat.ne_of_lt (Nat.lt_trans (lt p hp) s1)⟩) hn (hs1 _)
    (fun j tj h tk oC m₂ oI ys E' hj hC hm F N => rng _ _ _ j tj h tk oC m₂ oI ys E' hj hC hm F N)
    (fun j tj i ti I2 h tk oC m₂ oI2 oI ys E' hi hj hC hmj hmi F N => test _ _ _ j tj i ti I2 h tk oC m₂ oI2 oI ys E' hi hj hC hmj hmi F N)
    (fun h tk E' => elt_ _ h tk E')
    (fun h tk oC m₂ ys' hy hC F N => by
      have nC := (N (_, oC) (.head _)).2
      show wpAny _ A (assign (.Name y py) env (.ref H1.objs.size)) _ _ _
      refine wpAny_assign_Name (wpAny_storeName_local hyl F.ns (fun h₂ hn₂ hs₂ => ?_) hpl)
      have hL₀ : h₀.get? env.locals = none := Heap.get?_none_of_le F.above
      have F₂ : Fr h₀ env.locals h₂ (fun z => if z = y then some (.ref H1.objs.size) else m z) := ⟨hn₂, fun b o e => hs₂.extBut b o (fun q => by rw [q, hL₀] at e; cases e) (F.keep b o e), F.above⟩
      refine ⟨m₂, (hC.ns (N (_, oC) (.head _)).1).sameBut hs₂ nC.1, fun h'' hs'' => ?_⟩
      refine fin _ h'' _ ys' hy (F₂.change hs'' nC.1 nC.2) (fun p hp => ⟨hs''.extBut _ _ ?_ (hs₂.extBut _ _ (N p (.tail _ hp)).2.1 (N p (.tail _ hp)).1), (N p (.tail _ hp)).2⟩) (fun p hp => Nat.ne_of_lt (Nat.lt_trans (lt p hp) s1))
      rcases List.mem_cons.mp hp with rfl | hp
      · exact Nat.ne_of_lt s2
      · exact Nat.ne_of_lt (Nat.lt_trans (lt p hp) (Nat.lt_trans s1 s2)))
  exact codeAny_compStart_list loop ((range_walks (prog := prog) (w := w) (A := A) (I := h'.objs.size) hh 0 n).self 0 _ _ _ st loop)
theorem in_01 {tp : Addr} {x : Int} {tx t0 t1 : Tok} {o : Obj} {k : Nat} {E : Value → Shared → Prop} {Q : Value → Shared → Prop} (h : s.heap.get? tp = some o) (hc : o.cls = .type "tuple") (hd : o.data = .seq #[.int 0 t0, .int 1 t1] k) (hq : Q (.bool (x == 0 || x == 1)) s) :
    wpAny (model prog w) A (compareOp .In (.int x tx) (.ref tp)) Q E s := by
  refine PySem.SeqAt.in_tupleAt (fun v => match v with | .int y _ => y == x | _ => false) ⟨o, h, hc, k, hd⟩ (fun y hy => ?_) ?_
  · simp only [List.mem_toArray, List.mem_cons, List.not_mem_nil, or_false] at hy
    rcases hy with rfl | rfl
    · exact PySem.SeqAt.EqAt.int_int 0 t0 x tx
    · exact PySem.SeqAt.EqAt.int_int 1 t1 x tx
  · have e : (#[Value.int 0 t0, Value.int 1 t1] : Array Value).any (fun v => match v with | .int y _ => y == x | _ => false) = (x == 0 || x == 1) := by
      rw [← Array.any_toList]
      show ((0 : Int) == x || ((1 : Int) == x || false)) = (x == 0 || x == 1)
      rw [Bool.or_false, Bool.eq_iff_iff, Bool.or_eq_true, Bool.or_eq_true, beq_iff_eq, beq_iff_eq, beq_iff_eq, beq_iff_eq]
      constructor <;> rintro (h | h) <;> first | exact .inl h.symm | exact .inr h.symm
    rw [e]; exact hq
end
end
section
open PySem PySem.W PyProof.Rows PySem.Calls Builtin Builtin.ObjectAttr
set_option maxRecDepth 100000
set_option maxHeartbeats 1000000
/-- the slots of the type function -/
theorem store_function : StoreFacts "function" [.type "function", .type "object"] "object.__setattr__" "object" where
  mro := by kernel_rfl
  slot := .of (owner := "object") (n := "__setattr__") (by rw [typeLookup_type, builtinLookup_eq_fast]; kernel_rfl) (by decide +kernel) (by decide +kernel) (by decide +kernel)
    (by first | exact .inl (by decide +kernel) | exact .inr (by decide +kernel)) (by rw [isSubtype_type]; kernel_rfl)
  entry := PySem.F.entry_object_sa
  kind := by decide +kernel
  split := by decide +kernel
  hasOwner := by decide +kernel
  args := fun a b c => by unfold argsOk; kernel_rfl
  passes := fun self => by kernel_rfl
theorem fn_no_read : typeLookup (.type "function") (Str.ofString "read") = pure none := by rw [typeLookup_type, builtinLookup_eq_fast]; kernel_rfl
theorem fn_sub : isSubtype (.type "function") (.type "object") = pure true := by rw [isSubtype_type]; kernel_rfl
theorem fn_sa : typeLookup (.type "function") (Str.ofString "__setattr__") = pure (some (.builtin "object.__setattr__")) := by rw [typeLookup_type, builtinLookup_eq_fast]; kernel_rfl
theorem fn_ga : typeLookup (.type "function") (Str.ofString "__getattribute__") = pure (some (.builtin "object.__getattribute__")) := by rw [typeLookup_type, builtinLookup_eq_fast]; kernel_rfl
theorem fn_gh : typeLookup (.type "function") (Str.ofString "__getattr__") = pure none := by rw [typeLookup_type, builtinLookup_eq_fast]; kernel_rfl
section
variable {prog : Program} {w : World} {A : Around} {E : Value → Shared → Prop} {s : Shared} {h₀ : Heap} {L x : Addr} {m : Str → Option Value} {news : Led} {ox : Obj} {fd : FuncData}
theorem looks_cls {M : Model} {h : Heap} {o : Obj} {t : Value} (e : h.get? x = some o) (hc : o.cls = t) : Looks M h (typeOf (.ref x)) t := hc ▸ (Looks.ld e).andThen .now
theorem osa_fn {R : Result → Shared → Prop} {name : Str} {tk : Tok} {v : Value} {g : Obj → Led}
    (F : Fr h₀ L s.heap m) (N : News h₀ L s.heap news) (U : UpdF x ox news g) (hc : ox.cls = .type "function") (hd : ox.dict = none) (hdat : ox.data = .func fd) (hfr : ∀ D, ({ ox with dict := some D } : Obj).isFreed = false)
    (hname : typeLookup (.type "function") name = pure none)
    (h : ∀ D h', Fr h₀ L h' m → News h₀ L h' ((D, dictOf [⟨PyData.keyHash w.params name, .str name s.toks, v⟩] 1) :: g { ox with dict := some D }) → (∀ p ∈ news, p.1 < D) → R (.ok (.ret .none)) { s with heap := h', toks := s.toks + 1 }) :
    codeAny (model prog w) A (.call (.builtin "object.__setattr__") ⟨[.ref x, .str name tk, v], []⟩) R s := by
  refine box fun zG => ?_
  obtain ⟨pre, post, hn, hg, a, b⟩ := U.split
  refine zG ?_
  clear zG
  have hx : s.heap.get? x = some ox := (N (x, ox) (by rw [hn]; first | k_mem | simp)).1
  have LT : ∀ M, Looks M s.heap (typeOf (.ref x)) (.type "function") := fun M => looks_cls hx hc
  have sub : Looks (model prog w) s.heap (isInstance (.ref x) (.type "object")) true := (LT _).andThen (Looks.of_pure fn_sub)
  refine codeAny_call_builtin store_function.slot.plain store_function.entry (@check_slot (model prog w) _ _ s "object.__setattr__" "object" "__setattr__" (.ref x) [.str name tk, v] [] _ store_function.kind store_function.split sub (store_function.args (.ref x) (.str name tk) v) ?_)
  rw [osa_eq, refuse_eq]
  refine wpAny_bind (wpAny_bind ((LT _).here (wpAny_bind ((Looks.of_pure store_function.mro).here ?_))))
  rw [store_function.passes]
  refine wpAny_pure (wpAny_bind ((LT _).here (wpAny_bind ((Looks.of_pure hname).here (wpAny_bind (wpAny_pure ?_))))))
  show wpAny _ _ (storeInOwnDict _ _ _ _ _ _) _ _ _
  refine box fun zG => ?_
  obtain ⟨oc, od, oda, osl⟩ := ox
  refine zG ?_
  clear zG
  dsimp only at hc hd hdat hfr hg
  subst hc hd hdat
  have N1 := News.push F N (dictOf [] 0)
  have F1 := F.push (dictOf [] 0)
  have lt := fun p hp => Heap.lt_size (N p hp).1
  have hxlt : x < s.heap.objs.size := lt (x, _) (by rw [hn]; exact List.mem_append.mpr (.inr (.head _)))
  subst hn
  obtain ⟨F2, N2⟩ := news_upd (pre := (s.heap.objs.size, dictOf [] 0) :: pre) (f := fun o => { o with dict := some s.heap.objs.size }) F1 N1 (fun p hp => (List.mem_cons.mp hp).elim (fun e => e ▸ Nat.ne_of_gt hxlt) (a p)) b rfl (hfr _)
  obtain ⟨F3, N3⟩ := news_upd (pre := []) (f := Obj.putName name (PyData.keyHash w.params name) (.str name s.toks) v) F2 N2 (fun _ h => nomatch h) (fun p hp => by
    rcases List.mem_append.mp hp with h | h
    · exact Nat.ne_of_lt (lt p (List.mem_append.mpr (.inl h)))
    · rcases List.mem_cons.mp h with rfl | h
      · exact Nat.ne_of_lt hxlt
      · exact Nat.ne_of_lt (lt p (List.mem_append.mpr (.inr (.tail _ h))))) (o' := dictOf [⟨PyData.keyHash w.params name, .str name s.toks, v⟩] 1) (by rw [putName_dict]; rfl) rfl
  have D2 := (N2 (s.heap.objs.size, dictOf [] 0) (.head _)).1
  have D3 := (N3 (s.heap.objs.size, _) (.head _)).1
  refine wpAny_bind (wpAny_pure (wpAny_bind (wpAny_bind (wpAny_loadPart hx ?_))))
  dsimp only
  rw [show (!true || !typeHasDict (.type "function")) = false from by decide +kernel, if_neg (by decide)]
  refine wpAny_bind (wpAny_alloc ?_)
  refine wpAny_bind (wpAny_update (N1 _ (.tail _ (List.mem_append.mpr (.inr (.head _))))).1 ?_)
  refine wpAny_pure ?_
  refine wpAny_bind (wpAny_pure (wpAny_bind ?_))
  unfold nsSet
  refine wpAny_bind (wpAny_bind (wpAny_askSetting (wpAny_pure (wpAny_bind (wpAny_mkText (wpAny_bind (wpAny_loadPart D2 ?_)))))))
  refine wpAny_updatePart D2 ?_
  refine wpAny_bind (wpAny_lookBehind D3 (pastItsLine_dict (by rw [sizeLine_eq]; exact Nat.succ_le_succ (Nat.zero_le _))) ?_)
  refine wpAny_pure (h _ _ F3 ?_ lt)
  rw [hg]
  exact N3
theorem set_fn {name : Str} {v : Value} {Q : Unit → Shared → Prop} {g : Obj → Led}
    (F : Fr h₀ L s.heap m) (N : News h₀ L s.heap news) (U : UpdF x ox news g) (hc : ox.cls = .type "function") (hd : ox.dict = none) (hdat : ox.data = .func fd) (hfr : ∀ D, ({ ox with dict := some D } : Obj).isFreed = false)
    (hname : typeLookup (.type "function") name = pure none)
    (h : ∀ D h', Fr h₀ L h' m → News h₀ L h' ((D, dictOf [⟨PyData.keyHash w.params name, .str name (s.toks + 1), v⟩] 1) :: g { ox with dict := some D }) → (∀ p ∈ news, p.1 < D) → Q () { s with heap := h', toks := s.toks + 2 }) :
    wpAny (model prog w) A (setAttr (.ref x) name v) Q E s := by
  refine box fun zG => ?_
  obtain ⟨pre, post, hn, hg, a, b⟩ := U.split
  refine zG ?_
  clear zG
  have hx : s.heap.get? x = some ox := (N (x, ox) (by rw [hn]; first | k_mem | simp)).1
  refine wpAny_bind (wpAny_mkText (wpAny_bind (wpAny_bind (wpAny_bind ((looks_cls hx hc) _ _ _ _ (fun _ _ e => e) ((Looks.of_pure (h := s.heap) fn_sa) _ _ _ _ (fun _ _ e => e) (wpAny_holding ?_)))))))
  rw [store_function.slot.bind]
  refine wpAny_bind (wpAny_pure (wpAny_bind (wpAny_call (codeAny_mono (osa_fn (s := { s with toks := s.toks + 1 }) (R := fun r s' => match r with | .ok (.ret _) => Q () s' | .ok _ => False | .error e => E e s') F N U hc hd hdat hfr hname h) fun r s' z => ?_))))
  rcases r with e | (v | _ | _ | _) <;> first | exact z | exact wpAny_pure (wpAny_pure z)
end
end
section
open PySem PySem.W PyProof.Rows PySem.Calls Builtin Builtin.ObjectAttr
set_option maxRecDepth 100000
set_option maxHeartbeats 1000000
theorem slot_fn_ga : Slot "function" "__getattribute__" "object.__getattribute__" := .of (owner := "object") (n := "__getattribute__") (by rw [typeLookup_type, builtinLookup_eq_fast]; kernel_rfl) (by decide +kernel) (by decide +kernel) (by decide +kernel)
  (by first | exact .inl (by decide +kernel) | exact .inr (by decide +kernel)) (by rw [isSubtype_type]; kernel_rfl)
theorem entry_fn_ga : entryFor table "object.__getattribute__" = some Builtin.«object.__getattribute__» := entryFor_of_tree (by kernel_rfl)
theorem args_fn_ga (o a : Value) : argsOk "object.__getattribute__" ⟨[o, a], []⟩ := by unfold argsOk; kernel_rfl
theorem canon_fn_ga : (Manifest.canonical "object.__getattribute__" != "object.__getattribute__") = false := by decide +kernel
section
variable {prog : Program} {w : World} {A : Around} {E : Value → Shared → Prop} {h : Heap} {g : Array GenState} {d : Drawn} {t : Nat} {os : OsState} {x D : Addr} {ox : Obj} {fd : FuncData} {es : List DictEntry} {n : Nat} {name : Str} {v : Value}
theorem looks_fnFind {M : Model} (hx : h.get? x = some ox) (hc : ox.cls = .type "function") (hd : ox.dict = some D) (hdat : ox.data = .func fd) (hD : h.get? D = some (dictOf es n)) (hl : getL name es = some (some v)) (hname : typeLookup (.type "function") name = pure none) :
    Looks M h (ObjectAttr.find (.ref x) (.type "function") name) (.value v) := by
  refine box fun zG => ?_
  obtain ⟨oc, od, oda, osl⟩ := ox
  refine zG ?_
  clear zG
  dsimp only at hc hd hdat
  subst hc hd hdat
  unfold ObjectAttr.find
  refine (Looks.of_pure hname).andThen ?_
  refine Looks.andThen (a := none) .now ?_
  refine Looks.andThen (a := none) .now ?_
  unfold ownThenClass
  refine Looks.andThen (a := some v) ?_ ((Looks.now).tag)
  unfold inOwnDict ObjectAttr.ownDict
  dsimp only
  refine Looks.andThen (a := some D) ?_ ?_
  · refine (Looks.ld hx).andThen ?_
    unfold instanceDict
    exact (Looks.ld hx).andThen .now
  · unfold inDict
    dsimp only
    rw [nsGet_eq]
    intro A Q E s k q
    refine wpAny_bind (wpAny_loadPart (k _ _ hD) ?_)
    show wpAny _ _ (nsLook name (dictOf es n)) _ _ _
    rw [nsLook_of (show lookIn name (dictOf es n) = some (some v) from hl)]
    exact wpAny_pure q
theorem getMethod_fn {pl : Sem Bool} {Q : Value × List Value → Shared → Prop} (hx : h.get? x = some ox) (hc : ox.cls = .type "function") (hd : ox.dict = some D) (hdat : ox.data = .func fd) (hD : h.get? D = some (dictOf es n)) (hl : getL name es = some (some v))
    (hname : typeLookup (.type "function") name = pure none) (hv : handedIn v = true) (hq : Q (v, []) ⟨h, g, d, t + 1, os⟩) : wpAny (model prog w) A (getMethod (.ref x) name pl) Q E ⟨h, g, d, t, os⟩ := by
  have hlk := slot_fn_ga.lookup
  have hT : ∀ t', (⟨h, g, d, t', os⟩ : Shared).TypeIs (.ref x) "function" := fun _ => ⟨_, hx, hc⟩
  unfold getMethod
  refine wpAny_bind (wpAny_specialOf (hT _) hlk ?_)
  show wpAny _ _ (if (Manifest.canonical "object.__getattribute__" != "object.__getattribute__") = true then _ else _) _ _ _
  rw [canon_fn_ga, if_neg (by decide)]
  refine wpAny_bind (wpAny_specialOf (hT _) fn_gh ?_)
  dsimp only [Option.isSome]
  rw [if_neg (by decide)]
  refine wpAny_bind (wpAny_specialOf (hT _) hname ?_)
  dsimp only
  unfold getAttr getAttrBy
  refine wpAny_bind (wpAny_bind (wpAny_mkText (wpAny_holding (wpAny_bind (wpAny_typeOf (hT _) (wpAny_bind (wpAny_of_eq hlk ?_)))))))
  show wpAny _ _ (getAttrByItsOwn (.ref x) (.str name t) (.type "function") (.builtin "object.__getattribute__") true false) _ _ _
  unfold getAttrByItsOwn hookBefore callGetattribute boundAndCalled
  refine wpAny_bind (wpAny_of_eq (show (if onTheHeap (.type "function") then typeLookup (.type "function") "__getattr__" else pure none) = pure none from rfl) ?_)
  refine wpAny_bind (wpAny_attempt (wpAny_holding ?_))
  show wpAny _ _ (bindSpecial (.builtin "object.__getattribute__") (.ref x) >>= _) _ _ _
  refine wpAny_bind (wpAny_of_eq (slot_fn_ga.bind _) ?_)
  refine wpAny_mono (Q := fun v' s' => v' = v ∧ s' = ⟨h, g, d, t + 1, os⟩) (E := fun _ _ => False)
    (wpAny_call_entry slot_fn_ga (hT _) entry_fn_ga ?_ (args_fn_ga _ _)) (fun v s' hv' => ?_) fun _ _ z => z.elim
  · unfold Builtin.«object.__getattribute__»
    refine wpAny_bind (wpAny_pure (a := (Value.ref x, [Value.str name t])) ?_)
    dsimp only
    refine wpAny_bind (wpAny_pure (a := name) (wpAny_bind (wpAny_typeOf (hT _) (wpAny_bind ((looks_fnFind hx hc hd hdat hD hl hname).at ?_)))))
    exact wpAny_pure ⟨_, rfl, rfl, rfl⟩
  · obtain ⟨rfl, rfl⟩ := hv'
    dsimp only
    trace_state
    rw [handedOut_of hv]
    exact wpAny_pure (wpAny_pure hq)
end
end
section
open PySem PySem.W PyProof.Rows PySem.Calls Builtin
set_option maxRecDepth 100000
set_option maxHeartbeats 1000000
theorem slot_ci_next : Slot "callable_iterator" "__next__" "callable_iterator.__next__" :=
  .of (owner := "callable_iterator") (n := "__next__") (by rw [typeLookup_type, builtinLookup_eq_fast]; kernel_rfl) (by decide +kernel) (by decide +kernel) (by decide +kernel)
    (by first | exact .inl (by decide +kernel) | exact .inr (by decide +kernel)) (by rw [isSubtype_type]; kernel_rfl)
theorem entry_ci_next : entryFor table "callable_iterator.__next__" = some Builtin.«callable_iterator.__next__» := entryFor_of_tree (by kernel_rfl)
theorem args_ci_next (a : Value) : argsOk "callable_iterator.__next__" ⟨[a], []⟩ := by unfold argsOk; kernel_rfl
theorem slot_ci_iter : Slot "callable_iterator" "__iter__" "callable_iterator.__iter__" :=
  .of (owner := "callable_iterator") (n := "__iter__") (by rw [typeLookup_type, builtinLookup_eq_fast]; kernel_rfl) (by decide +kernel) (by decide +kernel) (by decide +kernel)
    (by first | exact .inl (by decide +kernel) | exact .inr (by decide +kernel)) (by rw [isSubtype_type]; kernel_rfl)
theorem args_ci_iter (a : Value) : argsOk "callable_iterator.__iter__" ⟨[a], []⟩ := by unfold argsOk; kernel_rfl
theorem entry_ci_iter : entryFor table "callable_iterator.__iter__" = some Builtin.«dict_keyiterator.__iter__» :=
  entryFor_alias (id' := "dict_keyiterator.__iter__") (by kernel_rfl) (by first | rfl | decide +kernel | (unfold String.splitOn; simp +decide [String.splitOnAux])) (by decide +kernel) (by kernel_rfl)
theorem slot_method_call : ∃ id, typeLookup (.type "method") (Str.ofString "__call__") = pure (some (.builtin id)) := ⟨"method.__call__", by rw [typeLookup_type, builtinLookup_eq_fast]; kernel_rfl⟩
noncomputable abbrev ciObj (f : Value) (y : Value) (b : Bool) : Obj := { cls := .type "callable_iterator", data := .fields #[f, y, .bool b] }
section
variable {prog : Program} {w : World} {A : Around} {E : Value → Shared → Prop} {s : Shared}
theorem wpAny_callBorrowed {M : Model} {f : Value} {pos : List Value} {Q : Value → Shared → Prop}
    (hc : codeAny M A (.call f ⟨pos, []⟩) (fun r s' => match r with | .ok (.ret v) => Q v s' | .ok _ => False | .error e => E e s') s) : wpAny M A (callBorrowed f pos) Q E s := fun Γ p hΓ => by
  have h := hc (Γ.enter (.call f ⟨pos, []⟩) none p) p rfl (hΓ.enter _ none p (by intro x; cases x))
  show wpCode M (Γ.enter (.call f ⟨pos, []⟩) none p) _ p s
  refine wpCode_mono (fun r s' h' => ?_) h
  rcases r with e | (v | _ | _ | _) <;> first | exact h' | exact h'.elim
theorem wpAny_pyIter_ci {it : Addr} {f y : Value} {b : Bool} {Q : Value → Shared → Prop} (hit : s.heap.get? it = some (ciObj f y b)) (h : Q (.ref it) s) : wpAny (model prog w) A (pyIter (.ref it)) Q E s := by
  have hT : s.TypeIs (.ref it) "callable_iterator" := ⟨_, hit, rfl⟩
  refine wpAny_pyIter_slot hT slot_ci_iter (wpAny_call_entry slot_ci_iter hT entry_ci_iter ?_ (args_ci_iter _))
  show wpAny _ _ (ret (.ref it)) _ _ s
  exact wpAny_pure ⟨_, rfl, "callable_iterator", _, hT, slot_ci_next.lookup, h⟩
theorem looks_borrows {M : Model} {h : Heap} {bm f : Addr} {x : Value} (hbm : h.get? bm = some (methodObj (.ref f) x)) (hfn : FnAt f h) : Looks M h (borrowsExactly (.ref bm)) true := by
  refine box fun zG => ?_
  obtain ⟨oc, od, fd, sl, e⟩ := hfn
  refine zG ?_
  clear zG
  unfold borrowsExactly
  refine (Looks.ld hbm).andThen ?_
  dsimp only
  rw [if_pos (by decide)]
  show Looks M h (load f >>= _) _
  exact (Looks.ld e).andThen .now
theorem pyNext_ci {it bm f : Addr} {x : Value} {te : Tok} {Q : Option Value → Shared → Prop} (hh : A.handled = none) (hit : s.heap.get? it = some (ciObj (.ref bm) (.str (Str.ofString "") te) false)) (hbm : s.heap.get? bm = some (methodObj (.ref f) x)) (hfn : FnAt f s.heap)
    (h : codeAny (model prog w) A.in1 (.call (.ref f) ⟨[x], []⟩) (fun r s' => match r with
      | .ok (.ret v) => ∃ z tz, v = .str z tz ∧ s'.heap.get? it = some (ciObj (.ref bm) (.str (Str.ofString "") te) false) ∧ s'.heap.get? bm = some (methodObj (.ref f) x) ∧ FnAt f s'.heap ∧ (z ≠ Str.ofString "" → Q (some v) s') ∧
          (z = Str.ofString "" → ∀ h', Heap.ExtBut it s'.heap h' → h'.get? it = some (ciObj .none .none true) → Q none { s' with heap := h' })
      | _ => False) s) : wpAny (model prog w) A (pyNext (.ref it)) Q E s := by
  have hT : s.TypeIs (.ref it) "callable_iterator" := ⟨_, hit, rfl⟩
  unfold pyNext
  refine wpAny_bind (wpAny_attempt (wpAny_callSpecial?_slot (name := Str.ofString "__next__") hT slot_ci_next
    (wpAny_call_entry slot_ci_next hT entry_ci_next ?_ (args_ci_next _))))
  unfold Builtin.«callable_iterator.__next__»
  refine wpAny_bind (wpAny_of_eq (a := (Value.ref it, [])) rfl ?_)
  try dsimp only
  refine wpAny_bind (wpAny_field hit rfl (x := .bool false) rfl ?_)
  rw [if_neg (by decide)]
  refine wpAny_bind (wpAny_field hit rfl (x := .ref bm) rfl ?_)
  unfold callOutOfASlot
  refine wpAny_bind (wpAny_attempt (wpAny_bind ((looks_borrows hbm hfn).here ?_)))
  rw [if_pos rfl]
  refine wpAny_callBorrowed (codeAny_mono (method_call hbm h) fun r s' hr => ?_)
  cases r with
  | error e => exact hr.elim
  | ok fl => cases fl with
    | ret v =>
      refine box fun zG => ?_
      obtain ⟨z, tz, rfl, hit', hbm', hfn', hq1, hq2⟩ := hr
      refine zG ?_
      clear zG
      dsimp only
      refine wpAny_bind (wpAny_field hit' rfl (x := .bool false) rfl ?_)
      rw [if_neg (by decide)]
      refine wpAny_bind (wpAny_field hit' rfl (x := .str (Str.ofString "") te) rfl ?_)
      refine wpAny_bind (wpAny_holding (wpAny_eqBool_str ?_))
      by_cases hz : z = Str.ofString ""
      · rw [decide_eq_true hz.symm, if_neg (by decide)]
        refine wpAny_bind (wpAny_rule ?_)
        refine wpAny_bind ?_
        show wpAny _ _ (field (.ref it) 0 >>= fun v => slotLetsGo _ v _ >>= fun _ => setField (.ref it) 0 .none >>= fun _ => setField (.ref it) 1 .none >>= fun _ => setField (.ref it) 2 (.bool true)) _ _ _
        refine wpAny_bind (wpAny_field hit' rfl (x := .ref bm) rfl ?_)
        refine wpAny_bind ?_
        unfold slotLetsGo
        dsimp only
        refine wpAny_bind ((looks_borrows hbm' hfn').here ?_)
        rw [if_pos rfl]
        refine wpAny_pure ?_
        refine wpAny_bind (wpAny_setField_rec hit' (by simp) fun h1 g1 b1 => ?_)
        refine wpAny_bind (wpAny_setField_rec (s := { s' with heap := h1 }) g1 (by simp) fun h2 g2 b2 => ?_)
        refine wpAny_setField_rec (s := { s' with heap := h2 }) g2 (by simp) fun h3 g3 b3 => ?_
        dsimp only
        have hx3 : Heap.ExtBut it s'.heap h3 := fun b o hb e => b3.extBut b o hb (b2.extBut b o hb (b1.extBut b o hb e))
        show wpAny _ _ (newExc (.type "StopIteration") [] >>= _) _ _ _
        refine wpAny_bind ?_
        simp only [newExc, newTuple]
        refine wpAny_bind (wpAny_newObj_type ?_ (by size_fits))
        refine wpAny_bind (m := firstArgMember _ _) (wpAny_of_eq (a := Value.none) (by first | rfl | (simp only [firstArgMember]; rfl)) ?_)
        refine wpAny_newObj_type ?_ (by size_fits)
        simp only [raiseNew]
        refine wpAny_bind (wpAny_handled ?_)
        first | rw [show A.in1.handled = none from hh] | rw [hh]
        refine wpAny_bind (wpAny_pure (wpAny_throw ?_))
        refine wpAny_bind (wpAny_isInstance (T := "StopIteration") (b := true) ⟨_, Heap.get?_push_size _ rfl, rfl⟩ isSubtype_stop ?_)
        refine wpAny_pure (hq2 hz _ ((hx3.push _).push _) ?_)
        exact Heap.get?_push_of_some _ (Heap.get?_push_of_some _ g3)
      · rw [decide_eq_false (fun e => hz e.symm), if_pos (by decide)]
        exact wpAny_pure ⟨_, rfl, wpAny_pure (hq1 hz)⟩
    | _ => exact hr.elim
theorem pyNext_ci_end {it : Addr} {Q : Option Value → Shared → Prop} (hh : A.handled = none) (hit : s.heap.get? it = some (ciObj .none .none true)) (hq : ∀ h', (∀ b o, s.heap.get? b = some o → h'.get? b = some o) → Q none { s with heap := h' }) : wpAny (model prog w) A (pyNext (.ref it)) Q E s := by
  have hT : s.TypeIs (.ref it) "callable_iterator" := ⟨_, hit, rfl⟩
  unfold pyNext
  refine wpAny_bind (wpAny_attempt (wpAny_callSpecial?_slot (name := Str.ofString "__next__") hT slot_ci_next
    (wpAny_call_entry slot_ci_next hT entry_ci_next ?_ (args_ci_next _))))
  unfold Builtin.«callable_iterator.__next__»
  refine wpAny_bind (wpAny_of_eq (a := (Value.ref it, [])) rfl ?_)
  try dsimp only
  refine wpAny_bind (wpAny_field hit rfl (x := .bool true) rfl ?_)
  rw [if_pos (by decide)]
  refine wpAny_bind (wpAny_rule ?_)
  refine wpAny_bind ?_
  show wpAny _ _ (newExc (.type "StopIteration") [] >>= _) _ _ _
  refine wpAny_bind ?_
  simp only [newExc, newTuple]
  refine wpAny_bind (wpAny_newObj_type ?_ (by size_fits))
  refine wpAny_bind (m := firstArgMember _ _) (wpAny_of_eq (a := Value.none) (by first | rfl | (simp only [firstArgMember]; rfl)) ?_)
  refine wpAny_newObj_type ?_ (by size_fits)
  simp only [raiseNew]
  refine wpAny_bind (wpAny_handled ?_)
  first | rw [show A.in1.handled = none from hh] | rw [hh]
  refine wpAny_bind (wpAny_pure (wpAny_throw ?_))
  refine wpAny_bind (wpAny_isInstance (T := "StopIteration") (b := true) ⟨_, Heap.get?_push_size _ rfl, rfl⟩ isSubtype_stop ?_)
  exact wpAny_pure (hq _ fun b o e => Heap.get?_push_of_some _ (Heap.get?_push_of_some _ e))
theorem plain_iter : plainId "iter" = true := by decide +kernel
theorem entry_iter : entryFor table "iter" = some Builtin.«iter» := entryFor_of_tree (by kernel_rfl)
theorem kind_iter : builtinKind "iter" = none := by decide +kernel
theorem args_iter_2 (a b : Value) : argsOk "iter" ⟨[a, b], []⟩ := by unfold argsOk; kernel_rfl
theorem call_iter_two {bm : Addr} {f x y : Value} {Q : Value → Shared → Prop} (hbm : s.heap.get? bm = some (methodObj f x))
    (h : Q (.ref s.heap.objs.size) { s with heap := s.heap.push (ciObj (.ref bm) y false) }) : wpAny (model prog w) A (call (.builtin "iter") [.ref bm, y]) Q E s := by
  have hT : s.TypeIs (.ref bm) "method" := ⟨_, hbm, rfl⟩
  obtain ⟨id, hc⟩ := slot_method_call
  refine Calls.call_function_entry kind_iter plain_iter entry_iter (args_iter_2 _ _) ?_
  unfold Builtin.«iter»
  refine wpAny_bind (wpAny_of_eq (a := [Value.ref bm, y]) (by first | rfl | kernel_rfl) ?_)
  dsimp only
  refine wpAny_bind (wpAny_specialOf hT hc ?_)
  dsimp only [Option.isNone]
  rw [if_neg (by decide)]
  refine wpAny_bind (wpAny_rule ?_)
  refine wpAny_bind ?_
  unfold newFields
  refine wpAny_newObj_type ?_
  trace_state
  exact wpAny_pure ⟨_, rfl, h⟩
end
end
section
open PySem PySem.W PyProof.Rows PySem.Calls
set_option maxRecDepth 100000
set_option maxHeartbeats 1000000
noncomputable abbrev eDict : Obj := { cls := .type "dict", data := .dict #[] }
section
variable {M : Model} {A : Around} {E : Value → Shared → Prop} {s : Shared}
theorem merge_empty {d a : Addr} {Q : Unit → Shared → Prop} (hd : s.heap.get? d = some eDict) (ha : s.heap.get? a = some eDict) (hn : a ≠ sysModules) (h : Q () s) : wpAny M A (mergeMapping d (.ref a) true) Q E s := by
  have hT : s.TypeIs (.ref a) "dict" := ⟨_, ha, rfl⟩
  have hsub : isSubtype (.type "dict") (.type "dict") = pure true := by rw [isSubtype_type]; kernel_rfl
  unfold mergeMapping
  refine wpAny_bind (wpAny_isInstance hT hsub ?_)
  rw [if_pos rfl]
  refine wpAny_bind (wpAny_specialOf hT F.slot_dict_iter.lookup ?_)
  refine wpAny_bind (wpAny_pure ?_)
  have e1 : (some (Value.builtin "dict.__iter__") == some (Value.builtin "dict.__iter__")) = true := by decide +kernel
  rw [e1]
  dsimp only
  rw [if_neg (by simpa using hn)]
  refine wpAny_bind (wpAny_dictEntries hd rfl ?_)
  rw [if_pos (show (#[] : Array DictEntry).isEmpty = true from rfl)]
  refine wpAny_bind (wpAny_dictEntries ha rfl ?_)
  refine wpAny_bind (wpAny_of_eq (a := PUnit.unit) (by simp) ?_)
  refine wpAny_bind (wpAny_dictEntries ha rfl ?_)
  refine wpAny_bind (wpAny_dictEpoch ha rfl ?_)
  exact wpAny_of_eq (a := PUnit.unit) (by simp) h
theorem merged_one {f : Value} {x : Sem Value} {a : Addr} {Q : Addr → Shared → Prop} (ha : s.heap.get? a = some eDict) (hn : a ≠ sysModules)
    (hx : ∀ (s' : Shared) (R : Value → Shared → Prop), s' = { s with heap := s.heap.push eDict } → R (.ref a) s' → wpAny M A x R E s')
    (h : Q s.heap.objs.size { s with heap := s.heap.push eDict }) : wpAny M A (mergedKeywords f [(none, x)]) Q E s := by
  unfold mergedKeywords
  refine wpAny_bind (wpAny_alloc ?_)
  refine wpAny_bind (wpAny_holding ?_)
  dsimp only
  rw [List.forIn_cons]
  refine wpAny_bind (wpAny_bind ?_)
  dsimp only
  refine wpAny_bind ?_
  rw [if_pos (show ([] : List (Str × Sem Value)).isEmpty = true from rfl)]
  refine wpAny_pure ?_
  refine wpAny_bind (hx _ _ rfl ?_)
  have hd : (s.heap.push eDict).get? s.heap.objs.size = some eDict := Heap.get?_push_size _ rfl
  have ha' : (s.heap.push eDict).get? a = some eDict := Heap.get?_push_of_some _ ha
  refine wpAny_bind (wpAny_onRaise (wpAny_holding (wpAny_tryCatch (wpAny_onRaise (merge_empty hd ha' hn ?_)))))
  refine wpAny_pure ?_
  dsimp only
  rw [List.forIn_nil]
  refine wpAny_pure ?_
  rw [if_pos (show ([] : List (Str × Sem Value)).isEmpty = true from rfl)]
  exact wpAny_pure (wpAny_pure h)
theorem keywords_none {f : Value} {d : Addr} {Q : List (Str × Value) → Shared → Prop} (hd : s.heap.get? d = some eDict) (h : Q [] s) : wpAny M A (keywordsIn f d) Q E s := by
  unfold keywordsIn
  refine wpAny_bind (wpAny_dictEntries hd rfl ?_)
  refine wpAny_bind (wpAny_of_eq (a := ([] : List (Str × Value))) rfl (wpAny_pure h))
/-- f(x, **d) with d empty -/
theorem callWith_two {pos : PySem.Pos} {f : Addr} {x y : Sem Value} {v : Value} {a : Addr} {Q : Value → Shared → Prop}
    (hf : ∀ h' : Heap, (∀ b o, s.heap.get? b = some o → h'.get? b = some o) → FnAt f h')
    (hx : ∀ R : Value → Shared → Prop, R v s → wpAny M A x R E s) (ha : s.heap.get? a = some eDict) (hn : a ≠ sysModules)
    (hy : ∀ (s' : Shared) (R : Value → Shared → Prop), s' = { s with heap := s.heap.push eDict } → R (.ref a) s' → wpAny M A y R E s')
    (h : wpAny M A (call (.ref f) [v]) Q E { s with heap := s.heap.push eDict }) :
    wpAny M A (callWith pos (.ref f) [] [(false, x)] [(none, y)]) Q E s := by
  unfold callWith
  refine wpAny_bind (wpAny_holding ?_)
  unfold evalArgs
  dsimp only
  refine wpAny_bind (Calls.spliced_cons (hx _ (Calls.spliced_nil ?_)))
  refine wpAny_bind (wpAny_pure ?_)
  refine wpAny_holding ?_
  rw [if_neg (by simp)]
  refine wpAny_bind (merged_one ha hn hy ?_)
  have hd : (s.heap.push eDict).get? s.heap.objs.size = some eDict := Heap.get?_push_size _ rfl
  refine wpAny_bind (wpAny_pure ?_)
  refine wpAny_bind (wpAny_holding (keywords_none hd ?_))
  refine wpAny_pure (wpAny_bind (wpAny_standAt ?_))
  obtain ⟨oc, od, fd, sl, e⟩ := hf _ fun b o e => Heap.get?_push_of_some eDict e
  have L : Looks M (s.heap.push eDict) (keeperOf (.ref f)) .frame := (Looks.ld (part := none) e).andThen .now
  refine wpAny_bind (L.here ?_)
  have tail : ∀ {t : Sem Value} {s₁ : Shared}, wpAny M A t Q E s₁ → wpAny M A (t >>= fun r => holding [r] point >>= fun _ => pure r) Q E s₁ :=
    fun ht => wpAny_bind (wpAny_mono ht (fun r s₂ hr => wpAny_bind (wpAny_holding (wpAny_point (wpAny_pure hr)))) fun _ _ x => x)
  show wpAny M A (callMarked starredCall (Value.ref f) [v] [] >>= _) Q E _
  refine tail ?_
  unfold callMarked
  exact Calls.wpAny_keep h
end
section
variable {prog : Program} {w : World} {A A₀ : Around} {s : Shared} {K : Frag} {L : Addr} {h₀ base : Heap} {m mg mb : Map} {news : Led} {p : Program} {loose : List Str} {mean : ExcName → Option Value}
    {R : Result → Shared → Prop} {name qual : Str} {params : Arguments} {body : List Stmt} {scope : Scope} {dV kV doc pm cdv ct oc : Value} {an od : Option Addr} {osl : Array (Option Value)} {f : Addr} {args : Args} {binds : Addr → List (Str × Value)}
/-- a def with a parameter of two stars that takes no more -/
theorem code_kw {env : Env} {outer : List Env} (B : Below A₀ base outer h₀) (F : Fr h₀ L s.heap m) (X₀ : K.In h₀) (N : News h₀ L s.heap news) (T : Top p loose mean mg mb h₀) (hA : A.frames = some (env :: outer)) (hf : env.frame = some L) (hke : env.scope.kind = .function)
    (ho : K.lookup f = some ⟨oc, od, .func (fnOf name qual params body scope dV kV doc pm an cdv ct), osl⟩) (hcd : codeIn K cdv qual = true) (hroom : A.depth < recursionLimit)
    (hbind : ∀ (M : Model) (A : Around) (E : Value → Shared → Prop) (Q : List (Str × Value) → Shared → Prop), Q (binds s.heap.objs.size) { s with heap := s.heap.push eDict } → wpAny M A (bindArgs (fnOf name qual params body scope dV kV doc pm an cdv ct) args) Q E s)
    (hloc : ∀ y ∈ binds s.heap.objs.size, scope.names.lookup y.1 = some .local)
    (h : ∀ g L' h₁ D, D = s.heap.objs.size → Fr h₀ L g m → Fr g L' h₁ (fun y => (binds D).reverse.lookup y) → News g L' h₁ ((D, eDict) :: news) → (∀ p ∈ news, p.1 < D) → Below A base (env :: outer) g → K.In g → Top p loose mean mg mb g →
      wpAny (model prog w) (A.deeper (envOf qual scope L' f cdv)) (execs body (envOf qual scope L' f cdv))
        (fun fl s' => LeaveK h₀ L m g R (match fl with | .ret v => v | _ => .none) s')
        (fun e s' => wpAny (model prog w) (A.deeper (envOf qual scope L' f cdv)) (leaving (envOf qual scope L' f cdv) e) (fun _ s'' => R (.error e) s'') (fun e' s'' => R (.error e') s'') s')
        { s with heap := h₁, toks := s.toks + (binds D).length })
    (hco : scope.isCoroutine = false) (hgen : scope.isGenerator = false) (hk : scope.kind = .function)
    (hcell : ∀ x ∈ scope.names, x.2 ≠ .cell) : codeAny (model prog w) A (.call (.ref f) args) R s := by
  have X := X₀.keeps F.keep
  refine codeAny_call_function hroom (X _ _ ho) rfl hco hgen rfl (codeRec_of X hcd) (hbind _ _ _ _ ?_)
  have Fd : Fr h₀ L (s.heap.push eDict) m := F.push _
  have Nd : News h₀ L (s.heap.push eDict) ((s.heap.objs.size, eDict) :: news) := News.push F N _
  obtain ⟨FG, BG, st, lv⟩ := groundX (s := { s with heap := s.heap.push eDict }) (R := R) B Fd Nd hA hf hke
  refine wpAny_newFunctionEnv hcell hloc (fun h₁ hns hsb => ⟨((T.nolimit).keeps Fd.keep).fresh _ hsb, ?_⟩) hk
  have hk₁ : ∀ b o, (s.heap.push eDict).get? b = some o → h₁.get? b = some o := fun b o e => hsb.extBut b o (Nat.ne_of_lt (Heap.lt_size e)) (Heap.get?_push_of_some _ e)
  refine codeAny_func (wpAny_mono (h _ (s.heap.push eDict).objs.size h₁ _ rfl FG ⟨hns, fun b o e => hk₁ b o (of_hideAll _ e), Nat.le_of_eq (hideAll_size _ _)⟩
    (fun p hp => ⟨hk₁ _ _ (Nd p hp).1, Nat.ne_of_lt (Heap.lt_size (Nd p hp).1), hideAll_none _ (List.mem_map_of_mem hp)⟩) (fun p hp => Heap.lt_size (N p hp).1) BG (X₀.keeps st) (T.keeps st)) (fun v s' hl => lv _ _ hl) fun _ _ y => y)
end
end
section
open PySem PySem.W PyProof.Rows PySem.Calls
set_option maxRecDepth 100000
set_option maxHeartbeats 1000000
section
variable {prog : Program} {w : World} {A : Around} {E : Value → Shared → Prop} {s : Shared}
/-- an item of a list of any values -/
theorem item_any {value slice : PySem.Expr} {l : Addr} {vs : Array Value} {k : Int} {u : Tok} {v : Value} {Q : Value → Shared → Prop} (hl : s.heap.IsList l vs)
    (h0 : 0 ≤ k) (hx : vs[k.toNat]? = some v) (hfit : k < 2 ^ 63) (h : Q v s)
    (hs : subscripted slice false (.ref l) (.int k u) = operate [.ref l, .int k u] (getItem (.ref l) (.int k u)) := by with_unfolding_all rfl) :
    wpAny (model prog w) A (subscriptTail value slice (.ref l) (.int k u)) Q E s :=
  tail_any hl.typeIs slot_list_getitem.lookup (wpAny_getItem_list hl h0 hfit hx h) hs
end
theorem upd_left {d : Addr} {o o' : Obj} {r r' : Led} : ∀ {a : Led}, (∀ p ∈ a, p.1 ≠ d) → Upd d o o' r r' → Upd d o o' (a ++ r) (a ++ r')
  | [], _, h => h
  | p :: a, ha, h => .tail (ha p (.head _)) (upd_left (a := a) (fun q hq => ha q (.tail _ hq)) h)
theorem upd_at {α : Type} (f : α → Addr × Obj) {rest : Led} {p' : α} : ∀ {l : List α} {k : Nat} {p : α}, l[k]? = some p → (l.map fun x => (f x).1).Nodup → (∀ q ∈ rest, q.1 ≠ (f p).1) → (f p').1 = (f p).1 →
    Upd (f p).1 (f p).2 (f p').2 (l.map f ++ rest) ((l.set k p').map f ++ rest)
  | [], _, _, e, _, _, _ => by simp at e
  | x :: l, 0, p, e, nd, hr, hp => by
    simp at e
    subst e
    rw [List.map_cons, List.nodup_cons] at nd
    show Upd _ _ _ (f x :: (l.map f ++ rest)) (f p' :: (l.map f ++ rest))
    have e1 : f p' = ((f x).1, (f p').2) := Prod.ext hp rfl
    rw [e1]
    refine .head fun q hq => ?_
    rcases List.mem_append.mp hq with h | h
    · obtain ⟨y, hy, rfl⟩ := List.mem_map.mp h
      exact fun e => nd.1 (e ▸ List.mem_map.mpr ⟨y, hy, rfl⟩)
    · exact hr q h
  | x :: l, k + 1, p, e, nd, hr, hp => by
    rw [List.map_cons, List.nodup_cons] at nd
    have e' : l[k]? = some p := by simpa using e
    refine .tail (fun h => nd.1 ?_) (upd_at f e' nd.2 hr hp)
    rw [h]
    exact List.mem_map.mpr ⟨p, List.mem_of_getElem? e', rfl⟩
theorem allLt_lt {d : Addr} : ∀ {l : Led}, AllLt d l → ∀ p ∈ l, p.1 < d
  | [], _, _, h => nomatch h
  | q :: r, x, p, h => by
    rcases List.mem_cons.mp h with rfl | h
    · exact x.1
    · exact allLt_lt x.2 p h
theorem kl_last_snoc {vs : List Value} {v : Value} : kl_last (vs ++ [v]) = some (vs, v) := by
  induction vs with
  | nil => rfl
  | cons x r ih =>
    show (match kl_last (r ++ [v]) with
      | some (p, y) => some (x :: p, y)
      | none => some ([], x)) = _
    rw [ih]
end
section
open PySem PySem.W PyProof.Rows PySem.Calls
set_option maxRecDepth 100000
set_option maxHeartbeats 1000000
structure LexA where
  (LX LD PB D1 f2 c2 f1 S CL : Addr)
  (oR oc2 o1 oCL : Obj)
  (k1 k2 k3 k4 k5 tw : Tok)
noncomputable abbrev lexDict (w : World) (a : LexA) (ln : Int) (lt : Tok) : Obj :=
  dictOf [⟨PyData.keyHash w.params (Str.ofString "lineno"), .str (Str.ofString "lineno") a.k1, .int ln lt⟩, ⟨PyData.keyHash w.params (Str.ofString "instream"), .str (Str.ofString "instream") a.k2, .ref a.f1⟩,
    ⟨PyData.keyHash w.params (Str.ofString "whitespace"), .str (Str.ofString "whitespace") a.k3, .str (Str.ofString "\n\t\r ") a.tw⟩, ⟨PyData.keyHash w.params (Str.ofString "pushback"), .str (Str.ofString "pushback") a.k4, .ref a.PB⟩] 4
noncomputable abbrev lexLed (w : World) (a : LexA) (sg : List Value) (sn : Nat) (ln : Int) (lt : Tok) (pb : List Value) (pn : Nat) (news : Led) : Led :=
  (a.PB, listOf pb.toArray pn) :: (a.LX, instObj 52 a.LD) :: (a.LD, lexDict w a ln lt) :: (a.D1, dictOf [⟨PyData.keyHash w.params (Str.ofString "read"), .str (Str.ofString "read") a.k5, .ref a.f2⟩] 1) ::
    (a.f2, a.oR) :: (a.c2, a.oc2) :: (a.f1, a.o1) :: (a.S, listOf sg.toArray sn) :: (a.CL, a.oCL) :: news
/-- a call of the stream's read takes one sign -/
noncomputable def ReadsSign (pT : Program) (lT : List Str) (w : World) (mean : ExcName → Option Value) (mg mb : Str → Option Value) (a : LexA) : Prop :=
  ∀ {dp un gd cn cs ac ccd cl outer A₀ base h₀ L m s} {Q E : Value → Shared → Prop} (rest : Led) (ys : List Value) (n : Nat) (ss : List Str) (t1 : Tok),
    Below A₀ base outer h₀ → Fr h₀ L s.heap m → (hd1.heap_1 w.params).In h₀ → News h₀ L s.heap ((a.f2, a.oR) :: (a.c2, a.oc2) :: (a.CL, a.oCL) :: (a.S, listOf ys.toArray n) :: rest) → Top pT lT mean mg mb h₀ → cs.kind = .function →
    StrsAre ys ss → ys.length ≤ 1000 → dp + 2 < recursionLimit → un + 12 < cLine → (∀ p ∈ rest, p.1 ≠ a.S) →
    (ss = [] → ∀ t h' tk', Fr h₀ L h' m → News h₀ L h' ((a.f2, a.oR) :: (a.c2, a.oc2) :: (a.CL, a.oCL) :: (a.S, listOf ys.toArray n) :: rest) → Q (.str (Str.ofString "") t) { s with heap := h', toks := tk' }) →
    (∀ y r, ss = y :: r → ∀ t ys' n' h' tk', StrsAre ys' r → Fr h₀ L h' m → News h₀ L h' ((a.f2, a.oR) :: (a.c2, a.oc2) :: (a.CL, a.oCL) :: (a.S, listOf ys'.toArray n') :: rest) → Q (.str y t) { s with heap := h', toks := tk' }) →
    wpAny (model PySem.Challenge.rw_kl0050_01.row.prog w) (ktrTop dp un gd cn cs L ac ccd cl outer) (call (.ref a.f2) [.int 1 t1]) Q E s
structure LexOk (pT : Program) (lT : List Str) (w : World) (mean : ExcName → Option Value) (mg mb : Str → Option Value) (a : LexA) (news : Led) : Prop where
  ord : a.CL < a.S ∧ a.S < a.f1 ∧ a.f1 < a.c2 ∧ a.c2 < a.f2 ∧ a.f2 < a.D1 ∧ a.D1 < a.LD ∧ a.LD < a.LX ∧ a.LX < a.PB
  off : ∀ p ∈ news, p.1 ≠ a.S ∧ p.1 ≠ a.LD ∧ p.1 ≠ a.PB
  cls : a.o1.cls = .type "function"
  dct : a.o1.dict = some a.D1
  dat : ∃ fd, a.o1.data = .func fd
  fR : ∃ oc od fd sl, a.oR = ⟨oc, od, .func fd, sl⟩
  rd : ReadsSign pT lT w mean mg mb a
theorem nmLx {h₀ h : Heap} {L f2 c2 f1 c1 S : Addr} {a b c d e : Obj} {r : Led} (_ : News h₀ L h ((f2, a) :: (c2, b) :: (f1, c) :: (c1, d) :: (S, e) :: r)) : ∃ x1 x2 x3 x4 x5 : Addr, x1 = f2 ∧ x2 = c2 ∧ x3 = f1 ∧ x4 = c1 ∧ x5 = S := ⟨_, _, _, _, _, rfl, rfl, rfl, rfl, rfl⟩
theorem lex_drop {h₀ h : Heap} {L : Addr} {p1 p2 p3 p4 p5 p6 p7 p8 p9 p10 : Addr × Obj} {r : Led} (N : News h₀ L h (p1 :: p2 :: p3 :: p4 :: p5 :: p6 :: p7 :: p8 :: p9 :: p10 :: r)) : News h₀ L h (p1 :: p2 :: p3 :: p4 :: p5 :: p6 :: p7 :: p9 :: p10 :: r) :=
  news_sub N (sub_cons (.head _) (sub_cons (.tail _ (.head _)) (sub_cons (.tail _ (.tail _ (.head _))) (sub_cons (.tail _ (.tail _ (.tail _ (.head _)))) (sub_cons (.tail _ (.tail _ (.tail _ (.tail _ (.head _))))) (sub_cons (.tail _ (.tail _ (.tail _ (.tail _ (.tail _ (.head _)))))) (sub_cons (.tail _ (.tail _ (.tail _ (.tail _ (.tail _ (.tail _ (.head _))))))) (sub_cons (.tail _ (.tail _ (.tail _ (.tail _ (.tail _ (.tail _ (.tail _ (.tail _ (.head _))))))))) (sub_cons (.tail _ (.tail _ (.tail _ (.tail _ (.tail _ (.tail _ (.tail _ (.tail _ (.tail _ (.head _)))))))))) (fun q hq => .tail _ (.tail _ (.tail _ (.tail _ (.tail _ (.tail _ (.tail _ (.tail _ (.tail _ (.tail _ (hq))))))))))))))))))))
theorem allLt_up {d : Addr} : ∀ {r : Led}, AllLt d r → AllLt (d + 1) r
  | [], _ => trivial
  | _ :: _, h => ⟨Nat.lt_succ_of_lt h.1, allLt_up h.2⟩
theorem al_succ {d : Addr} {o : Obj} {r : Led} (h : 206 < d ∧ AllLt d r) : AllLt (d + 1) ((206, o) :: r) := ⟨Nat.lt_succ_of_lt h.1, allLt_up h.2⟩
theorem lex_off {LX LD PB D1 f2 c2 f1 S CL : Addr} {news : Led} (h : CL < S ∧ S < f1 ∧ f1 < c2 ∧ c2 < f2 ∧ f2 < D1 ∧ D1 < LD ∧ LD < LX ∧ LX < PB) (hn : AllLt CL news) : ∀ p ∈ news, p.1 ≠ S ∧ p.1 ≠ LD ∧ p.1 ≠ PB := by
  obtain ⟨w1, w2, w3, w4, w5, w6, w7, w8⟩ := h
  intro p hp
  have e0 := allLt_lt hn p hp
  have e1 := Nat.lt_trans e0 w1
  have e2 := Nat.lt_trans e1 (Nat.lt_trans w2 (Nat.lt_trans w3 (Nat.lt_trans w4 (Nat.lt_trans w5 w6))))
  exact ⟨Nat.ne_of_lt e1, Nat.ne_of_lt e2, Nat.ne_of_lt (Nat.lt_trans e2 (Nat.lt_trans w7 w8))⟩
theorem nmLex {h₀ h : Heap} {L x1 x2 x3 x4 x5 x6 x7 x8 x9 x10 : Addr} {a b c d e f g i j k : Obj} {r : Led} (_ : News h₀ L h ((x1, a) :: (x2, b) :: (x3, c) :: (x4, d) :: (x5, e) :: (x6, f) :: (x7, g) :: (x8, i) :: (x9, j) :: (x10, k) :: r)) :
    ∃ y1 y2 y3 y4 y5 y6 y7 y8 y9 y10 : Addr, y1 = x1 ∧ y2 = x2 ∧ y3 = x3 ∧ y4 = x4 ∧ y5 = x5 ∧ y6 = x6 ∧ y7 = x7 ∧ y8 = x8 ∧ y9 = x9 ∧ y10 = x10 := ⟨_, _, _, _, _, _, _, _, _, _, rfl, rfl, rfl, rfl, rfl, rfl, rfl, rfl, rfl, rfl⟩
theorem lexer (w : World) (mean mg mb) (x : Str) (tx : Tok) {news : Led} {dp un gd cn cs a ccd cl outer A₀ base h₀ L m s} {Q E : Value → Shared → Prop}
   (B : Below A₀ base outer h₀) (F : Fr h₀ L s.heap m) (X : (hd1.heap_1 w.params).In h₀) (N : News h₀ L s.heap ((206, tabObj #[]) :: news)) (T : Top pT lT mean mg mb h₀) (C : CodeHd base 210 206) (hcs : cs.kind = .function) (h206 : ∀ p ∈ news, p.1 ≠ 206)
   (hxl : x.length ≤ 300) (hd : dp + 4 < recursionLimit) (hu : un + 16 < cLine)
   (hret : ∀ (a : LexA) (sg : List Value) (sn pn : Nat) (lt : Tok) h' tk' ps', LexOk pT lT w mean mg mb a ((206, tabObj ps') :: news) → StrsAre sg (signs x) → Fr h₀ L h' m → News h₀ L h' (lexLed w a sg sn 1 lt [] pn ((206, tabObj ps') :: news)) → Q (.ref a.LX) { s with heap := h', toks := tk' }) :
   wpAny (model PySem.Challenge.rw_kl0050_01.row.prog w) (ktrTop dp un gd cn cs L a ccd cl outer) (call (.ref 211) [.str x tx]) Q E s := by
  revert X; k_fill; intro X
  refine wpAny_call ?_
  k_dflt (((refine' code_defC ?k1 ?k2 ?k3 ?k4 ?k5 ?kA ?kF ?kK ?k6 ?k7 ?k8 ?k9 ?kB ?kD ?_ ?c2 ?c3 ?c4; (case kA => exact rfl); (case kF => exact rfl); (case kK => first | assumption | exact rfl); (case k1 => k_asm); (case k2 => k_asm); (case k3 => k_asm); (case k4 => k_asm); (case k5 => k_asm); (case k6 => k_is); (case k7 => k_is); (case k8 => ktr_room); (case k9 => exact BindsTo.of_eq rfl); (case kB => exact rfl); (case kD => decide +kernel); (case c2 => exact rfl); (case c3 => exact rfl); (case c4 => exact rfl); k_whole; intro g' L' h' tk' cells' FG' F' N' Y' B' X' T' l1; (try k_lt l1); k_cells Y'; (try simp only [List.cons_append, List.nil_append] at N'); (try dsimp only); (try k_lift B'); (try k_fold))))
  (repeat' (first | (k_unfold; (try dsimp only)) | (((fail_if_success (with_reducible refine Mine.stop_of (by constructor) ?_))); (fail_if_success (with_reducible show wpAny _ _ (call (Value.type _) _) _ _ _)); walk1) | (dsimp only; ((fail_if_success (with_reducible refine Mine.stop_of (by constructor) ?_))); (fail_if_success (with_reducible show wpAny _ _ (call (Value.type _) _) _ _ _)); walk1)))
  (refine' Mine.list_str_led ?qhh ?qF ?qN ?qz ?_; (case qhh => with_unfolding_all rfl); (case qF => k_asm); (case qN => k_asm); (case qz => (first | exact (by decide) | kl_room | ((try simp only [List.size_toArray, sizeLine]); first | assumption | omega))))
  intro S h' tk' ys' n' F' N' l1 hs'
  (try k_lt l1)
  (repeat' (first | (k_unfold; (try dsimp only)) | (((fail_if_success (with_reducible refine Mine.stop_of (by constructor) ?_))); walk1) | (dsimp only; ((fail_if_success (with_reducible refine Mine.stop_of (by constructor) ?_))); walk1)))
  rename News _ _ _ _ => N9
  rename_i _ _ _ f1 c1 _ _ _ _ _ _ _ _ _ _ _ _ _ f2 c2 _ _ _ _ _ _ _ _ _ _ _
  have l10 := ‹S < c1 ∧ _ ∧ 206 < c1 ∧ AllLt c1 news›
  have l11 : c1 < f1 := by assumption
  have l12 := ‹f1 < c2 ∧ c1 < c2 ∧ _›
  have l13 : c2 < f2 := by assumption
  have hnf1 : ∀ p ∈ news, p.1 ≠ f1 := fun p hp => Nat.ne_of_lt (Nat.lt_trans (allLt_lt l10.2.2.2 p hp) l11)
  have hn1 : f2 ≠ f1 := Nat.ne_of_gt (Nat.lt_trans l12.1 l13)
  have hn2 : c2 ≠ f1 := Nat.ne_of_gt l12.1
  have hn3 : c1 ≠ f1 := Nat.ne_of_lt l11
  have hn4 : S ≠ f1 := Nat.ne_of_lt (Nat.lt_trans l10.1 l11)
  have hn5 : 206 ≠ f1 := Nat.ne_of_lt (Nat.lt_trans l10.2.2.1 l11)
  refine' set_fn ?F ?N ?U ?c1 ?c2 ?c3 ?c4 fn_no_read ?_
  case F => k_asm
  case N => exact N9
  case U => exact .tail hn1 (.tail hn2 (.head (by k_all)))
  case c1 => rfl
  case c2 => rfl
  case c3 => rfl
  case c4 => exact fun _ => rfl
  intro D1 h1 F1 N1 l1
  clear N9
  (try dsimp only at N1)
  (try k_lt l1)
  (try dsimp only)
  (repeat' (first | (k_unfold; (try dsimp only)) | (((fail_if_success (with_reducible refine Mine.stop_of (by constructor) ?_))); walk1) | (dsimp only; ((fail_if_success (with_reducible refine Mine.stop_of (by constructor) ?_))); walk1)))
  refine' call_cls ?k1 ?k2 ?k3 ?k4 ?k5 ?k6 ?_
  case k1 => k_asm
  case k2 => k_asm
  case k3 => k_asm
  case k4 => k_is
  case k5 => k_is
  case k6 => k_is
  k_whole
  intro LX LD h' F' N' l1 l2
  (try k_lt l1)
  (try k_lt2 l2)
  (try k_sweep)
  refine' code_def ?k1 ?k2 ?k3 ?k4 ?k5 ?kA ?kF ?kK ?k6 ?k7 ?k8 ?k9 ?kB ?_ ?c2 ?c3 ?c4 ?c5
  case kA => exact rfl
  case kF => exact rfl
  case kK => exact rfl
  case k1 => k_asm
  case k2 => k_asm
  case k3 => k_asm
  case k4 => k_asm
  case k5 => k_asm
  case k6 => k_is
  case k7 => k_is
  case k8 => ktr_room
  case k9 => exact BindsTo.of_eq rfl
  case c5 => decide
  case kB => exact locs rfl
  case c2 => exact rfl
  case c3 => exact rfl
  case c4 => exact rfl
  k_whole
  intro g' L' h' FG' F' N' B' X' T'
  (try dsimp only)
  (try k_lift B')
  (try k_fold)
  (repeat' (first | (k_unfold; (try dsimp only)) | (((fail_if_success (with_reducible refine Mine.stop_of (by constructor) ?_))); walk1) | (dsimp only; ((fail_if_success (with_reducible refine Mine.stop_of (by constructor) ?_))); walk1)))
  rename News _ _ _ _ => N20
  rename Fr _ _ _ _ => F20
  rename_i _ _ _ _ _ _ _ _ _ _ _ _ PB _ _ _ _ _ _ _ _ _ _ _
  have N21 := lex_drop N20
  have ha1 := ‹_ ∧ 206 < S ∧ AllLt S news›
  have ha9 : S < f2 ∧ S < c2 := by
    have h3 : S < c2 := Nat.lt_trans l10.1 (Nat.lt_trans l11 l12.1)
    exact ⟨Nat.lt_trans h3 l13, h3⟩
  have ha3 := ‹_ ∧ _ ∧ _ ∧ _ ∧ _ ∧ _ ∧ _ ∧ AllLt D1 news›
  have ha4 := ‹D1 < LD ∧ _›
  have ha5 := ‹LX < PB ∧ _›
  refine hret ⟨LX, LD, PB, D1, f2, c2, f1, S, _, _, _, _, _, _, _, _, _, _, _⟩ _ _ _ _ _ _ _ ?ok ?sg F20 N21
  case sg => assumption
  case ok =>
    refine ⟨⟨ha1.1, Nat.lt_trans l10.1 l11, l12.1, l13, ha3.1, ha4.1, by assumption, ha5.1⟩, ?al, rfl, rfl, ⟨_, rfl⟩, ⟨_, _, _, _, rfl⟩, ?rd⟩
    case al => exact lex_off ⟨ha1.1, Nat.lt_trans l10.1 l11, l12.1, l13, ha3.1, ha4.1, by assumption, ha5.1⟩ (al_succ (by assumption))
    case rd =>
      intro dp2 un2 gd2 cn2 cs2 ac2 ccd2 cl2 outer2 A2 base2 h02 L2 m2 s2 Q2 E2 rest ys n ss t1 B2 F2 X2 N2 T2 hcs2 hss hyl hd2 hu2 hap k0 k1
      dsimp only at N2 k0 k1 hap ⊢
      have hS1 := Nat.ne_of_lt ha1.1
      have hS2 := Nat.ne_of_gt ha9.1
      have hS3 : c2 ≠ S := Nat.ne_of_gt ha9.2
      clear N20 N21 F20
      refine wpAny_call ?_
      (refine' kla_code ?k1 ?k2 ?k3 ?k4 ?k5 ?kA ?kF ?kK ?k6 ?k7 ?k8 ?k9 ?kB ?_ ?c2 ?c3 ?c4 ?c5; (case kA => exact rfl); (case kF => exact rfl); (case kK => exact hcs2); (case k1 => exact B2); (case k2 => exact F2); (case k3 => exact X2); (case k4 => exact N2); (case k5 => exact T2); (case k6 => exact .head _); (case k7 => exact codeRec_news N2 (.tail _ (.head _)) (by assumption) (by assumption)); (case k8 => ktr_room); (case k9 => exact rfl); (case c5 => decide); (case kB => exact locs rfl); (case c2 => exact rfl); (case c3 => exact rfl); (case c4 => exact rfl); k_whole; intro g9 L9 h9 FG9 F9 N9 B9 X9 T9; (try dsimp only); (try k_lift B9); (try k_fold))
      cases hss with
      | nil =>
        (repeat' (first | (k_unfold; (try dsimp only)) | (((fail_if_success (with_reducible refine Mine.stop_of (by constructor) ?_))); walk1) | (dsimp only; ((fail_if_success (with_reducible refine Mine.stop_of (by constructor) ?_))); walk1)))
        exact k0 rfl _ _ _ (by k_asm) (by k_asm)
      | @cons y ty ys r hss =>
        have hyl2 : ys.length + 1 ≤ 1000 := hyl
        (repeat' (first | (k_unfold; (try dsimp only)) | (((fail_if_success (with_reducible refine Mine.stop_of (by constructor) ?_))); (fail_if_success (with_reducible show wpAny _ _ (truthy (Value.ref _)) _ _ _)); walk1) | (dsimp only; ((fail_if_success (with_reducible refine Mine.stop_of (by constructor) ?_))); (fail_if_success (with_reducible show wpAny _ _ (truthy (Value.ref _)) _ _ _)); walk1)))
        refine wpAny_truthy_list (News.isList N9 (.tail _ (.tail _ (.tail _ (.head _))))) (by simp only [List.size_toArray, List.length_cons]; omega) ?_
        rw [show (!(Value.str y ty :: ys).toArray.isEmpty) = true from rfl]
        (repeat' (first | (k_unfold; (try dsimp only)) | (((fail_if_success (with_reducible refine Mine.stop_of (by constructor) ?_))); walk1) | (dsimp only; ((fail_if_success (with_reducible refine Mine.stop_of (by constructor) ?_))); walk1)))
        rename News _ _ _ _ => N10
        rename Fr _ _ _ _ => F10
        refine kl_popAt F10 N10 rfl (k := 0) (p := []) (q := ys) (y := .str y ty) ?hk rfl (.tail hS2 (.tail hS3 (.tail hS1 (.head hap)))) ?hz ?_
        case hk =>
          unfold seqIndex?
          simp
        case hz =>
          show ys.length + 1 ≤ _
          rw [sizeLine_eq]; omega
        intro h11 F11 N11
        (repeat' (first | (k_unfold; (try dsimp only)) | (((fail_if_success (with_reducible refine Mine.stop_of (by constructor) ?_))); walk1) | (dsimp only; ((fail_if_success (with_reducible refine Mine.stop_of (by constructor) ?_))); walk1)))
        exact k1 _ _ rfl _ _ _ _ _ hss (by k_asm) (by k_asm)
end
section
open PySem PySem.W PyProof.Rows PySem.Calls
set_option maxRecDepth 100000
set_option maxHeartbeats 1000000
theorem lex_turn {h₀ h : Heap} {L : Addr} {p1 p2 p3 p4 p5 p6 p7 p8 p9 : Addr × Obj} {r : Led} (N : News h₀ L h (p1 :: p2 :: p3 :: p4 :: p5 :: p6 :: p7 :: p8 :: p9 :: r)) : News h₀ L h (p5 :: p6 :: p9 :: p8 :: p1 :: p2 :: p3 :: p4 :: p7 :: r) :=
  news_sub N (sub_cons (.tail _ (.tail _ (.tail _ (.tail _ (.head _))))) (sub_cons (.tail _ (.tail _ (.tail _ (.tail _ (.tail _ (.head _)))))) (sub_cons (.tail _ (.tail _ (.tail _ (.tail _ (.tail _ (.tail _ (.tail _ (.tail _ (.head _))))))))) (sub_cons (.tail _ (.tail _ (.tail _ (.tail _ (.tail _ (.tail _ (.tail _ (.head _)))))))) (sub_cons (.head _) (sub_cons (.tail _ (.head _)) (sub_cons (.tail _ (.tail _ (.head _))) (sub_cons (.tail _ (.tail _ (.tail _ (.head _)))) (sub_cons (.tail _ (.tail _ (.tail _ (.tail _ (.tail _ (.tail _ (.head _))))))) (fun q hq => .tail _ (.tail _ (.tail _ (.tail _ (.tail _ (.tail _ (.tail _ (.tail _ (.tail _ (hq)))))))))))))))))))
theorem lex_back {h₀ h : Heap} {L : Addr} {p1 p2 p3 p4 p5 p6 p7 p8 p9 : Addr × Obj} {r : Led} (N : News h₀ L h (p5 :: p6 :: p9 :: p8 :: p1 :: p2 :: p3 :: p4 :: p7 :: r)) : News h₀ L h (p1 :: p2 :: p3 :: p4 :: p5 :: p6 :: p7 :: p8 :: p9 :: r) :=
  news_sub N (sub_cons (.tail _ (.tail _ (.tail _ (.tail _ (.head _))))) (sub_cons (.tail _ (.tail _ (.tail _ (.tail _ (.tail _ (.head _)))))) (sub_cons (.tail _ (.tail _ (.tail _ (.tail _ (.tail _ (.tail _ (.head _))))))) (sub_cons (.tail _ (.tail _ (.tail _ (.tail _ (.tail _ (.tail _ (.tail _ (.head _)))))))) (sub_cons (.head _) (sub_cons (.tail _ (.head _)) (sub_cons (.tail _ (.tail _ (.tail _ (.tail _ (.tail _ (.tail _ (.tail _ (.tail _ (.head _))))))))) (sub_cons (.tail _ (.tail _ (.tail _ (.head _)))) (sub_cons (.tail _ (.tail _ (.head _))) (fun q hq => .tail _ (.tail _ (.tail _ (.tail _ (.tail _ (.tail _ (.tail _ (.tail _ (.tail _ (hq)))))))))))))))))))
theorem lex_apS {LX LD PB D1 f2 c2 f1 S CL : Addr} {a b c d e : Obj} {news : Led} (h : CL < S ∧ S < f1 ∧ f1 < c2 ∧ c2 < f2 ∧ f2 < D1 ∧ D1 < LD ∧ LD < LX ∧ LX < PB) (hn : ∀ p ∈ news, p.1 ≠ S ∧ p.1 ≠ LD ∧ p.1 ≠ PB) :
    ∀ p ∈ ((PB, a) :: (LX, b) :: (LD, c) :: (D1, d) :: (f1, e) :: news : Led), p.1 ≠ S := by
  refine box fun zG => ?_
  obtain ⟨w1, w2, w3, w4, w5, w6, w7, w8⟩ := h
  refine zG ?_
  clear zG
  have e1 : S < c2 := Nat.lt_trans w2 w3
  have e2 : S < D1 := Nat.lt_trans e1 (Nat.lt_trans w4 w5)
  have e3 : S < LD := Nat.lt_trans e2 w6
  have e4 : S < LX := Nat.lt_trans e3 w7
  intro p hp
  rcases List.mem_cons.mp hp with rfl | hp
  · exact Nat.ne_of_gt (Nat.lt_trans e4 w8)
  rcases List.mem_cons.mp hp with rfl | hp
  · exact Nat.ne_of_gt e4
  rcases List.mem_cons.mp hp with rfl | hp
  · exact Nat.ne_of_gt e3
  rcases List.mem_cons.mp hp with rfl | hp
  · exact Nat.ne_of_gt e2
  rcases List.mem_cons.mp hp with rfl | hp
  · exact Nat.ne_of_gt w2
  · exact (hn p hp).1
theorem lex_LD {LX LD PB D1 f2 c2 f1 S CL : Addr} {news : Led} (h : CL < S ∧ S < f1 ∧ f1 < c2 ∧ c2 < f2 ∧ f2 < D1 ∧ D1 < LD ∧ LD < LX ∧ LX < PB) (hn : ∀ p ∈ news, p.1 ≠ S ∧ p.1 ≠ LD ∧ p.1 ≠ PB) :
    ∀ a b c d e f : Obj, ∀ p ∈ ((D1, a) :: (f2, b) :: (c2, c) :: (f1, d) :: (S, e) :: (CL, f) :: news : Led), p.1 ≠ LD := by
  refine box fun zG => ?_
  obtain ⟨w1, w2, w3, w4, w5, w6, w7, w8⟩ := h
  refine zG ?_
  clear zG
  have e5 := Nat.lt_trans w5 w6
  have e4 := Nat.lt_trans w4 e5
  have e3 := Nat.lt_trans w3 e4
  have e2 := Nat.lt_trans w2 e3
  have e1 := Nat.lt_trans w1 e2
  intro a b c d e f p hp
  rcases List.mem_cons.mp hp with rfl | hp
  · exact Nat.ne_of_lt w6
  rcases List.mem_cons.mp hp with rfl | hp
  · exact Nat.ne_of_lt e5
  rcases List.mem_cons.mp hp with rfl | hp
  · exact Nat.ne_of_lt e4
  rcases List.mem_cons.mp hp with rfl | hp
  · exact Nat.ne_of_lt e3
  rcases List.mem_cons.mp hp with rfl | hp
  · exact Nat.ne_of_lt e2
  rcases List.mem_cons.mp hp with rfl | hp
  · exact Nat.ne_of_lt e1
  · exact (hn p hp).2.1
set_option hygiene false in
local macro_rules | `(tactic| k_all) => `(tactic| exact hupd _ _ _ _ _ _)
set_option hygiene false in
local macro_rules | `(tactic| walk_at "getMethod ref") => `(tactic| ((with_reducible show wpAny _ _ (getMethod (Value.ref _) (PySem.Str.ofString "read") _) _ _ _); (with_unfolding_all refine hgm _ _ _ _ _ ?_)))
noncomputable abbrev nlF (y : Str) (ln : Int) : Int := if (y == Str.ofString "\n") = true then ln + 1 else ln
theorem readCharC (w : World) (mean mg mb) (a : LexA) (sg : List Value) (sn : Nat) (ss : List Str) (ln : Int) (lt : Tok) (pb : List Value) (pn : Nat) {news : Led} {dp un gd cn cs ac ccd cl outer A₀ base h₀ L m s} {Q E : Value → Shared → Prop}
   (B : Below A₀ base outer h₀) (F : Fr h₀ L s.heap m) (X : (hd1.heap_1 w.params).In h₀) (N : News h₀ L s.heap (lexLed w a sg sn ln lt pb pn news)) (T : Top pT lT mean mg mb h₀) (hcs : cs.kind = .function) (K : LexOk pT lT w mean mg mb a news)
   (hs : StrsAre sg ss) (hsl : sg.length ≤ 1000) (hss : ∀ y ∈ ss, y.length = 1) (hln : 0 ≤ ln ∧ ln ≤ 1000) (hd : dp + 6 < recursionLimit) (hu : un + 24 < cLine)
   (q0 : ss = [] → ∀ t h' tk', Fr h₀ L h' m → News h₀ L h' (lexLed w a sg sn ln lt pb pn news) → Q (.str (Str.ofString "") t) { s with heap := h', toks := tk' })
   (q1 : ∀ y r, ss = y :: r → ∀ t sg' sn' lt' h' tk', StrsAre sg' r → Fr h₀ L h' m → News h₀ L h' (lexLed w a sg' sn' (nlF y ln) lt' pb pn news) → Q (.str y t) { s with heap := h', toks := tk' }) :
   codeAny (model PySem.Challenge.rw_kl0050_01.row.prog w) (ktrTop dp un gd cn cs L ac ccd cl outer) (.call (.ref 35) ⟨[.ref a.LX], []⟩) (fun r s' => match r with | .ok (.ret v) => Q v s' | .ok _ => False | .error e => E e s') s := by
  revert X; k_fill; intro X
  refine box fun zG => ?_
  obtain ⟨ord, hall, hcls, hdct, ⟨fd, hdat⟩, ⟨rc, rd, rf, rs, hoR⟩, hrd⟩ := K
  refine zG ?_
  clear zG
  refine box fun zG => ?_
  obtain ⟨LX, LD, PB, D1, f2, c2, f1, S, CL, oR, oc2, o1, oCL, k1, k2, k3, k4, k5, tw⟩ := a
  refine zG ?_
  clear zG
  dsimp only [lexLed, lexDict] at N
  dsimp only at hoR
  subst hoR
  dsimp only at ord hall hcls hdct hdat q0 q1 ⊢
  refine box fun zG => ?_
  obtain ⟨w1, w2, w3, w4, w5, w6, w7, w8⟩ := ord
  refine zG ?_
  clear zG
  have w7' : @LT.lt Nat _ LD LX := w7
  have w8' : @LT.lt Nat _ LX PB := w8
  have hupd := lex_LD ⟨w1, w2, w3, w4, w5, w6, w7, w8⟩ hall
  k_dflt cell_enter
  rename News _ _ _ _ => N9
  rename Fr _ _ _ _ => F9
  have hgm := fun (A' : Around) (E' : Value → Shared → Prop) (tk : Nat) pl Q hq => getMethod_fn (prog := PySem.Challenge.rw_kl0050_01.row.prog) (w := w) (A := A') (E := E') (t := tk) (pl := pl) (Q := Q) (v := .ref f2) (g := s.gens) (d := s.drawn) (os := s.os) (N9 (f1, o1) (by k_mem)).1 hcls hdct hdat (N9 (D1, _) (by k_mem)).1 (by rfl) fn_no_read rfl hq
  (repeat' (first | (k_unfold; (try dsimp only)) | (((fail_if_success (with_reducible refine Mine.stop_of (by constructor) ?_))); walk1) | (dsimp only; ((fail_if_success (with_reducible refine Mine.stop_of (by constructor) ?_))); walk1)))
  dsimp only
  refine callWith_F (FnAt.of N9 (by k_mem)) ?_
  (repeat' (first | (k_unfold; (try dsimp only)) | (((fail_if_success (with_reducible refine Mine.stop_of (by constructor) ?_))); walk1) | (dsimp only; ((fail_if_success (with_reducible refine Mine.stop_of (by constructor) ?_))); walk1)))
  have N10 := lex_turn N9
  clear N9
  refine hrd _ sg sn ss _ (by k_asm) F9 (by k_asm) N10 (by k_asm) ?ck hs hsl (by ktr_room) (by ktr_units) ?ap ?e0 ?e1
  case ck => rfl
  case ap => exact lex_apS ⟨w1, w2, w3, w4, w5, w6, w7, w8⟩ hall
  case e0 =>
    intro hse t1 h1 tk1 F1 N1
    subst hse
    dsimp only at N1
    have N2 := lex_back N1
    clear N1
    (try dsimp only)
    (repeat' (first | (k_unfold; (try dsimp only)) | (((fail_if_success (with_reducible refine Mine.stop_of (by constructor) ?_))); walk1) | (dsimp only; ((fail_if_success (with_reducible refine Mine.stop_of (by constructor) ?_))); walk1)))
    exact q0 rfl _ _ _ (by k_asm) (by k_asm)
  case e1 =>
    intro y r hse t1 sg1 sn1 h1 tk1 hs1 F1 N1
    subst hse
    dsimp only at N1
    have N2 := lex_back N1
    clear N1
    have hy1 : y.length = 1 := hss y (.head _)
    (try dsimp only)
    (repeat' (first | (k_unfold; (try dsimp only)) | (((fail_if_success (with_reducible refine Mine.stop_of (by constructor) ?_))); walk1) | (dsimp only; ((fail_if_success (with_reducible refine Mine.stop_of (by constructor) ?_))); walk1)))
    · rename (y == Str.ofString "\n") = true => hy
      have e : nlF y ln = ln + 1 := if_pos hy
      exact q1 _ _ rfl _ _ _ _ _ _ hs1 (by k_asm) (by rw [e]; k_asm)
    · rename (y == Str.ofString "\n") = false => hy
      have e : nlF y ln = ln := if_neg (by rw [hy]; decide)
      exact q1 _ _ rfl _ _ _ _ _ _ hs1 (by k_asm) (by rw [e]; k_asm)
end
section
open PySem PySem.W PyProof.Rows PySem.Calls
set_option maxRecDepth 100000
set_option maxHeartbeats 1000000
theorem fr_ext {h₀ h h' : Heap} {L it : Addr} {m : Map} {o : Obj} (F : Fr h₀ L h m) (n0 : h₀.get? it = none) (nL : it ≠ L) (e : Heap.ExtBut it h h') : Fr h₀ L h' m :=
  ⟨F.ns.at' fun o q => e L o (Ne.symm nL) q, fun b o q => e b o (fun z => by rw [z, n0] at q; cases q) (F.keep b o q), F.above⟩
theorem lex_it {h₀ h h' : Heap} {L it : Addr} {o o' : Obj} {p1 p2 p3 p4 p5 p6 p7 p8 p9 : Addr × Obj} {r : Led} (N : News h₀ L h (p1 :: p2 :: p3 :: p4 :: p5 :: p6 :: p7 :: p8 :: p9 :: (it, o) :: r)) (e : Heap.ExtBut it h h') (g : h'.get? it = some o')
    (a : (p1.1 ≠ it ∧ p2.1 ≠ it ∧ p3.1 ≠ it ∧ p4.1 ≠ it ∧ p5.1 ≠ it ∧ p6.1 ≠ it ∧ p7.1 ≠ it ∧ p8.1 ≠ it ∧ p9.1 ≠ it) ∧ ∀ p ∈ r, p.1 ≠ it) : News h₀ L h' (p1 :: p2 :: p3 :: p4 :: p5 :: p6 :: p7 :: p8 :: p9 :: (it, o') :: r) := by
  refine box fun zG => ?_
  obtain ⟨⟨a1, a2, a3, a4, a5, a6, a7, a8, a9⟩, ar⟩ := a
  refine zG ?_
  clear zG
  have nit := N (it, o) (by first | k_mem | simp)
  have keep : ∀ p : Addr × Obj, p.1 ≠ it → p ∈ p1 :: p2 :: p3 :: p4 :: p5 :: p6 :: p7 :: p8 :: p9 :: (it, o) :: r → h'.get? p.1 = some p.2 ∧ p.1 ≠ L ∧ h₀.get? p.1 = none := fun p hp hm => ⟨e p.1 p.2 hp (N p hm).1, (N p hm).2⟩
  intro p hp
  simp only [List.mem_cons] at hp
  rcases hp with rfl | rfl | rfl | rfl | rfl | rfl | rfl | rfl | rfl | rfl | hp
  · exact keep _ a1 (by first | k_mem | simp)
  · exact keep _ a2 (by first | k_mem | simp)
  · exact keep _ a3 (by first | k_mem | simp)
  · exact keep _ a4 (by first | k_mem | simp)
  · exact keep _ a5 (by first | k_mem | simp)
  · exact keep _ a6 (by first | k_mem | simp)
  · exact keep _ a7 (by first | k_mem | simp)
  · exact keep _ a8 (by first | k_mem | simp)
  · exact keep _ a9 (by first | k_mem | simp)
  · exact ⟨g, nit.2⟩
  · exact keep p (ar p hp) (by simp [hp])
theorem fn35 (w : World) {h₀ : Heap} (X : (hd1.heap_1 w.params).In h₀) : FnAt 35 h₀ := by
  have h := X 35 _ (by with_unfolding_all rfl)
  exact ⟨_, _, _, _, h⟩
noncomputable abbrev liveCi (bm : Addr) (te : Tok) : Obj := ciObj (.ref bm) (.str (Str.ofString "") te) false
theorem one_ne_empty {y : Str} (h : y.length = 1) : y ≠ Str.ofString "" := fun e => by rw [e] at h; revert h; decide
/-- one step of iter(self._read_char, '') -/
theorem nextCi (w : World) (mean mg mb) (a : LexA) (it bm : Addr) (te : Tok) (sg : List Value) (sn : Nat) (ss : List Str) (ln : Int) (lt : Tok) (pb : List Value) (pn : Nat) {news : Led} {dp un gd cn cs ac ccd cl outer A₀ base h₀ L m s} {Q : Option Value → Shared → Prop} {E : Value → Shared → Prop}
   (B : Below A₀ base outer h₀) (F : Fr h₀ L s.heap m) (X : (hd1.heap_1 w.params).In h₀) (N : News h₀ L s.heap (lexLed w a sg sn ln lt pb pn ((it, liveCi bm te) :: (bm, methodObj (.ref 35) (.ref a.LX)) :: news))) (T : Top pT lT mean mg mb h₀) (hcs : cs.kind = .function)
   (K : LexOk pT lT w mean mg mb a ((it, liveCi bm te) :: (bm, methodObj (.ref 35) (.ref a.LX)) :: news))
   (hap : (a.PB ≠ it ∧ a.LX ≠ it ∧ a.LD ≠ it ∧ a.D1 ≠ it ∧ a.f2 ≠ it ∧ a.c2 ≠ it ∧ a.f1 ≠ it ∧ a.S ≠ it ∧ a.CL ≠ it) ∧ ∀ p ∈ (bm, methodObj (.ref 35) (.ref a.LX)) :: news, p.1 ≠ it)
   (hs : StrsAre sg ss) (hsl : sg.length ≤ 1000) (hss : ∀ y ∈ ss, y.length = 1) (hln : 0 ≤ ln ∧ ln ≤ 1000) (hd : dp + 6 < recursionLimit) (hu : un + 30 < cLine)
   (q0 : ss = [] → ∀ h' tk', Fr h₀ L h' m → News h₀ L h' (lexLed w a sg sn ln lt pb pn ((it, ciObj .none .none true) :: (bm, methodObj (.ref 35) (.ref a.LX)) :: news)) → Q none { s with heap := h', toks := tk' })
   (q1 : ∀ y r, ss = y :: r → ∀ t sg' sn' lt' h' tk', StrsAre sg' r → Fr h₀ L h' m → News h₀ L h' (lexLed w a sg' sn' (nlF y ln) lt' pb pn ((it, liveCi bm te) :: (bm, methodObj (.ref 35) (.ref a.LX)) :: news)) → Q (some (.str y t)) { s with heap := h', toks := tk' }) :
   wpAny (model PySem.Challenge.rw_kl0050_01.row.prog w) (ktrTop dp un gd cn cs L ac ccd cl outer) (pyNext (.ref it)) Q E s := by
  have hit := N (it, liveCi bm te) (by first | k_mem | simp)
  have hfn : ∀ h : Heap, (∀ b o, h₀.get? b = some o → h.get? b = some o) → FnAt 35 h := fun h k => let ⟨oc, od, fd, sl, e⟩ := fn35 w X; ⟨oc, od, fd, sl, k _ _ e⟩
  refine pyNext_ci (x := .ref a.LX) (f := 35) (bm := bm) rfl hit.1 (N (bm, methodObj (.ref 35) (.ref a.LX)) (by first | k_mem | simp)).1 (hfn _ F.keep) ?_
  refine codeAny_mono (R := fun r s' => match r with | .ok (.ret v) => (fun v s' => ∃ z tz, v = .str z tz ∧ s'.heap.get? it = some (ciObj (.ref bm) (.str (Str.ofString "") te) false) ∧ s'.heap.get? bm = some (methodObj (.ref 35) (.ref a.LX)) ∧ FnAt 35 s'.heap ∧ (z ≠ Str.ofString "" → Q (some v) s') ∧
          (z = Str.ofString "" → ∀ h', Heap.ExtBut it s'.heap h' → h'.get? it = some (ciObj .none .none true) → Q none { s' with heap := h' })) v s' | .ok _ => False | .error e => (fun _ _ => False) e s') ?_ (fun r s' h => by rcases r with e | (v | _ | _ | _) <;> first | exact h | exact h.elim)
  refine' readCharC w mean mg mb a sg sn ss ln lt pb pn B F X N T hcs K hs hsl hss hln hd ?u ?e0 ?e1
  case u => exact Nat.lt_of_le_of_lt (Nat.add_le_add_left (by decide : 1 + 24 ≤ 30) un) hu
  case e0 =>
    intro he t h' tk' F' N'
    refine ⟨_, _, rfl, (N' (it, liveCi bm te) (by first | k_mem | simp)).1, (N' (bm, methodObj (.ref 35) (.ref a.LX)) (by first | k_mem | simp)).1, hfn _ F'.keep, fun z => absurd rfl z, fun _ h'' e g => ?_⟩
    exact q0 he h'' tk' (fr_ext (o := liveCi bm te) F' hit.2.2 hit.2.1 e) (lex_it N' e g hap)
  case e1 =>
    intro y r he t sg' sn' lt' h' tk' hs' F' N'
    refine ⟨_, _, rfl, (N' (it, liveCi bm te) (by first | k_mem | simp)).1, (N' (bm, methodObj (.ref 35) (.ref a.LX)) (by first | k_mem | simp)).1, hfn _ F'.keep, fun _ => ?_, fun z => ?_⟩
    · exact q1 y r he t sg' sn' lt' h' tk' hs' F' N'
    · exact absurd z (one_ne_empty (hss y (by rw [he]; exact .head _)))
end
section
open PySem PySem.W PyProof.Rows PySem.Calls
set_option maxRecDepth 100000
set_option maxHeartbeats 1000000
noncomputable abbrev meth35 (a : LexA) : Obj := methodObj (.ref 35) (.ref a.LX)
noncomputable abbrev lexIt (w : World) (a : LexA) (it bm : Addr) (o : Obj) (sg : List Value) (sn : Nat) (ln : Int) (lt : Tok) (pb : List Value) (pn : Nat) (news : Led) : Led := lexLed w a sg sn ln lt pb pn ((it, o) :: (bm, meth35 a) :: news)
noncomputable def TurnCi {σ : Type} (w : World) (a : LexA) (it bm : Addr) (te : Tok) (pb : List Value) (pn : Nat) (news : Led) (h₀ : Heap) (L : Addr) (xs : List Str) (mp : σ → Map) (J : σ → Prop) (s : Shared) (Q : Flow → Shared → Prop) (r : List Str) (ln : Int) (f : Flow) (s₂ : Shared) : Prop :=
  match f with
  | .ret v => Q (.ret v) s₂
  | .brk => Q .next s₂
  | _ => ∃ (c' : σ) (h' : Heap) (tk : Nat) (m' : Map) (sg' : List Value) (sn' : Nat) (lt' : Tok), s₂ = { s with heap := h', toks := tk } ∧ J c' ∧ StrsAre sg' r ∧ Fr h₀ L h' m' ∧ (∀ y, ksHas xs y = false → m' y = mp c' y) ∧ News h₀ L h' (lexIt w a it bm (liveCi bm te) sg' sn' ln lt' pb pn news)
theorem turnCi_end {σ : Type} {w : World} {a : LexA} {it bm : Addr} {te : Tok} {pb : List Value} {pn : Nat} {news : Led} {h₀ : Heap} {L : Addr} {xs : List Str} {mp : σ → Map} {J : σ → Prop} {s : Shared} {Q : Flow → Shared → Prop} {r : List Str} {ln : Int} (c' : σ) {h' : Heap} {tk : Nat} {m' : Map} {sg' : List Value} {sn' : Nat} {lt' : Tok}
    (F : Fr h₀ L h' m') (N : News h₀ L h' (lexIt w a it bm (liveCi bm te) sg' sn' ln lt' pb pn news)) (hj : J c') (hs : StrsAre sg' r) (hm : ∀ y, ksHas xs y = false → m' y = mp c' y) : TurnCi w a it bm te pb pn news h₀ L xs mp J s Q r ln .next { s with heap := h', toks := tk } :=
  ⟨c', h', tk, m', sg', sn', lt', rfl, hj, hs, F, hm, N⟩
theorem strsAre_len {vs : List Value} {ss : List Str} (h : StrsAre vs ss) : vs.length = ss.length := by
  induction h with
  | nil => rfl
  | cons _ _ _ ih => simp [ih]
theorem ciFor {σ : Type} (xs : List Str) (w : World) (mean mg mb) (a : LexA) (it bm : Addr) (te : Tok) (sg : List Value) (sn : Nat) (ss : List Str) (ln : Int) (lt : Tok) (pb : List Value) (pn : Nat) {news : Led} {dp un gd cn cs ac ccd cl outer A₀ base h₀ L m₀ s} {Q : Flow → Shared → Prop} {E : Value → Shared → Prop} {x : Str} {px : PySem.Pos} {body : List Stmt}
   (ps : σ → List (Str × Option Value)) (J : List Str → Int → σ → Prop) (c₀ : σ)
   (B : Below A₀ base outer h₀) (F : Fr h₀ L s.heap m₀) (X : (hd1.heap_1 w.params).In h₀) (N : News h₀ L s.heap (lexIt w a it bm (liveCi bm te) sg sn ln lt pb pn news)) (T : Top pT lT mean mg mb h₀) (hcs : cs.kind = .function)
   (K : LexOk pT lT w mean mg mb a ((it, liveCi bm te) :: (bm, meth35 a) :: news))
   (hap : (a.PB ≠ it ∧ a.LX ≠ it ∧ a.LD ≠ it ∧ a.D1 ≠ it ∧ a.f2 ≠ it ∧ a.c2 ≠ it ∧ a.f1 ≠ it ∧ a.S ≠ it ∧ a.CL ≠ it) ∧ ∀ p ∈ (bm, meth35 a) :: news, p.1 ≠ it)
   (hs : StrsAre sg ss) (hJ : ∀ ss ln c, J ss ln c → ss.length ≤ 1000 ∧ (∀ y ∈ ss, y.length = 1) ∧ 0 ≤ ln ∧ ln ≤ 1000) (hd : dp + 6 < recursionLimit) (hu : un + 30 < cLine)
   (hx : (envX cn cs L ac ccd cl).kindOf x = some .local) (hp : ((envX cn cs L ac ccd cl).scope.kind == .class || ((envX cn cs L ac ccd cl).scope.kind == .module && (envX cn cs L ac ccd cl).locals != (envX cn cs L ac ccd cl).globals)) = false)
   (hm : ∀ y, ksHas xs y = false → m₀ y = bindP m₀ (ps c₀) y) (hj : J ss ln c₀)
   (turn : ∀ y r ln c (u : Map) t sg sn lt h tk, J (y :: r) ln c → StrsAre sg r → Fr h₀ L h (fun z => if z = x then some (.str y t) else if ksHas xs z = true then u z else bindP m₀ (ps c) z) → News h₀ L h (lexIt w a it bm (liveCi bm te) sg sn (nlF y ln) lt pb pn news) →
      wpAny (model PySem.Challenge.rw_kl0050_01.row.prog w) (ktrTop dp un gd cn cs L ac ccd cl outer) (execs body (envX cn cs L ac ccd cl)) (TurnCi w a it bm te pb pn news h₀ L xs (fun c => bindP m₀ (ps c)) (J r (nlF y ln)) s Q r (nlF y ln)) E { s with heap := h, toks := tk })
   (done : ∀ ln c (u : Map) sg sn lt h tk, J [] ln c → StrsAre sg [] → Fr h₀ L h (fun z => if ksHas xs z = true then u z else bindP m₀ (ps c) z) → News h₀ L h (lexIt w a it bm (ciObj .none .none true) sg sn ln lt pb pn news) → Q .next { s with heap := h, toks := tk }) :
   ForAt PySem.Challenge.rw_kl0050_01.row.prog w (ktrTop dp un gd cn cs L ac ccd cl outer) (envX cn cs L ac ccd cl) (.Name x px) body Q E (.ref it) s := by
  refine ⟨fun n s₁ => ∃ (ss : List Str) (ln : Int) (c : σ) (u : Map) (sg : List Value) (sn : Nat) (lt : Tok) (h : Heap) (tk : Nat), n = ss.length ∧ s₁ = { s with heap := h, toks := tk } ∧ StrsAre sg ss ∧ J ss ln c ∧ Fr h₀ L h (fun y => if ksHas xs y = true then u y else bindP m₀ (ps c) y) ∧ News h₀ L h (lexIt w a it bm (liveCi bm te) sg sn ln lt pb pn news),
    ss.length, ⟨ss, ln, c₀, m₀, sg, sn, lt, s.heap, s.toks, rfl, rfl, hs, hj, fr_anys hm F, N⟩, ?_⟩
  intro n s₁ zH1
  refine box fun zG => ?_
  obtain ⟨ss, ln, c, u, sg, sn, lt, h, tk, rfl, rfl, hs, hj, F1, N1⟩ := zH1
  refine zG ?_
  clear zG
  refine box fun zG => ?_
  obtain ⟨hb1, hb2, hb3, hb4⟩ := hJ _ _ _ hj
  refine zG ?_
  clear zG
  refine nextCi w mean mg mb a it bm te sg sn ss ln lt pb pn B F1 X N1 T hcs K hap hs (by rw [strsAre_len hs]; exact hb1) hb2 ⟨hb3, hb4⟩ hd hu ?q0 ?q1
  case q0 =>
    intro he h' tk' F' N'
    subst he
    exact done ln c u sg sn lt h' tk' hj hs F' N'
  case q1 =>
    intro y r he t sg' sn' lt' h' tk' hs' F' N'
    subst he
    dsimp only
    refine wpAny_assign_Name (wpAny_storeName_local hx F'.ns (fun h2 hn2 hs2 => ?_) hp)
    have h0L : ∀ b o, h₀.get? b = some o → b ≠ L := fun b o e q => Nat.lt_irrefl _ (Nat.lt_of_lt_of_le (q ▸ Heap.lt_size e) F'.above)
    have F2 : Fr h₀ L h2 _ := ⟨hn2, fun b o e => hs2.extBut b o (h0L b o e) (F'.keep b o e), F'.above⟩
    have N2 : News h₀ L h2 _ := fun p hp => ⟨hs2.extBut _ _ (N' p hp).2.1 (N' p hp).1, (N' p hp).2⟩
    refine wpAny_mono (turn y r ln c u t sg' sn' lt' h2 _ hj hs' F2 N2) (fun f s₃ hf => ?_) fun _ _ e => e
    have fin : (∃ (c' : σ) (h' : Heap) (tk : Nat) (m' : Map) (sg' : List Value) (sn' : Nat) (lt' : Tok), s₃ = { s with heap := h', toks := tk } ∧ J r (nlF y ln) c' ∧ StrsAre sg' r ∧ Fr h₀ L h' m' ∧ (∀ z, ksHas xs z = false → m' z = bindP m₀ (ps c') z) ∧ News h₀ L h' (lexIt w a it bm (liveCi bm te) sg' sn' (nlF y ln) lt' pb pn news)) →
        ∃ m, m < (y :: r).length ∧ ∃ (ss : List Str) (ln : Int) (c : σ) (u : Map) (sg : List Value) (sn : Nat) (lt : Tok) (h : Heap) (tk : Nat), m = ss.length ∧ s₃ = { s with heap := h, toks := tk } ∧ StrsAre sg ss ∧ J ss ln c ∧ Fr h₀ L h (fun y => if ksHas xs y = true then u y else bindP m₀ (ps c) y) ∧ News h₀ L h (lexIt w a it bm (liveCi bm te) sg sn ln lt pb pn news) := by
      intro zH1
      refine box fun zG => ?_
      obtain ⟨c', h', tk', m', sg2, sn2, lt2, rfl, hj', hs2', F3, hm', N3⟩ := zH1
      refine zG ?_
      clear zG
      exact ⟨r.length, Nat.lt_succ_self _, r, nlF y ln, c', m', sg2, sn2, lt2, h', tk', rfl, rfl, hs2', hj', fr_anys hm' F3, N3⟩
    cases f with
    | ret v => exact hf
    | brk => exact hf
    | next => exact fin hf
    | cont => exact fin hf
noncomputable def EndTok (w : World) (a : LexA) (it bm : Addr) (pb : List Value) (pn : Nat) (news : Led) (h₀ : Heap) (L : Addr) (m₀ : Map) (tok : Str) (ln : Int) (P : Prop) (s s₁ : Shared) : Prop :=
  P ∧ ∃ (u : Map) (tt : Tok) (sg : List Value) (sn : Nat) (lt : Tok) (h : Heap) (tk : Nat), s₁ = { s with heap := h, toks := tk } ∧ StrsAre sg [] ∧
    Fr h₀ L h (fun z => if ksHas [Str.ofString "ch"] z = true then u z else bindP m₀ [(Str.ofString "token", some (.str tok tt))] z) ∧ News h₀ L h (lexIt w a it bm (ciObj .none .none true) sg sn ln lt pb pn news)
noncomputable def TurnOut (w : World) (a : LexA) (it bm : Addr) (pb : List Value) (pn : Nat) (news : Led) (h₀ : Heap) (L : Addr) (m₀ : Map) (tok : Str) (ln : Int) (P : Prop) (s : Shared) (Q : Flow → Shared → Prop) (f : Flow) (s₁ : Shared) : Prop :=
  match f with
  | .ret v => Q (.ret v) s₁
  | .brk => Q .next s₁
  | _ => EndTok w a it bm pb pn news h₀ L m₀ tok ln P s s₁
theorem endTok_of {w : World} {a : LexA} {it bm : Addr} {pb : List Value} {pn : Nat} {news : Led} {h₀ : Heap} {L : Addr} {m₀ m' : Map} {tok : Str} {tt : Tok} {ln : Int} {P : Prop} {s : Shared} {h : Heap} {tk : Nat} {sg : List Value} {sn : Nat} {lt : Tok} {Q : Flow → Shared → Prop} (hP : P) (hs : StrsAre sg []) (F : Fr h₀ L h m')
    (hm : ∀ y, ksHas [Str.ofString "ch"] y = false → m' y = bindP m₀ [(Str.ofString "token", some (.str tok tt))] y) (N : News h₀ L h (lexIt w a it bm (ciObj .none .none true) sg sn ln lt pb pn news)) : TurnOut w a it bm pb pn news h₀ L m₀ tok ln P s Q .next { s with heap := h, toks := tk } :=
  ⟨hP, m', tt, sg, sn, lt, h, tk, rfl, hs, fr_anys hm F, N⟩
theorem outerCi (w : World) (mean mg mb) (a : LexA) (it bm : Addr) (te : Tok) (sg : List Value) (sn : Nat) (ss : List Str) (ln : Int) (lt : Tok) (pb : List Value) (pn : Nat) (tok : Str) (lnE : Int) (P : Prop) {news : Led} {dp un gd cn cs ac ccd cl outer A₀ base h₀ L m₀ s} {Q : Flow → Shared → Prop} {E : Value → Shared → Prop} {px : PySem.Pos} {body : List Stmt}
   (B : Below A₀ base outer h₀) (F : Fr h₀ L s.heap m₀) (X : (hd1.heap_1 w.params).In h₀) (N : News h₀ L s.heap (lexIt w a it bm (liveCi bm te) sg sn ln lt pb pn news)) (T : Top pT lT mean mg mb h₀) (hcs : cs.kind = .function)
   (K : LexOk pT lT w mean mg mb a ((it, liveCi bm te) :: (bm, meth35 a) :: news))
   (hap : (a.PB ≠ it ∧ a.LX ≠ it ∧ a.LD ≠ it ∧ a.D1 ≠ it ∧ a.f2 ≠ it ∧ a.c2 ≠ it ∧ a.f1 ≠ it ∧ a.S ≠ it ∧ a.CL ≠ it) ∧ ∀ p ∈ (bm, meth35 a) :: news, p.1 ≠ it)
   (hs : StrsAre sg ss) (hsl : sg.length ≤ 1000) (hss : ∀ y ∈ ss, y.length = 1) (hln : 0 ≤ ln ∧ ln ≤ 1000) (hd : dp + 6 < recursionLimit) (hu : un + 30 < cLine)
   (hx : (envX cn cs L ac ccd cl).kindOf (Str.ofString "ch") = some .local) (hp : ((envX cn cs L ac ccd cl).scope.kind == .class || ((envX cn cs L ac ccd cl).scope.kind == .module && (envX cn cs L ac ccd cl).locals != (envX cn cs L ac ccd cl).globals)) = false)
   (none_ : ss = [] → ∀ h tk, Fr h₀ L h m₀ → News h₀ L h (lexIt w a it bm (ciObj .none .none true) sg sn ln lt pb pn news) → Q .next { s with heap := h, toks := tk })
   (turn : ∀ y r t sg' sn' lt' h tk, ss = y :: r → StrsAre sg' r → Fr h₀ L h (fun z => if z = Str.ofString "ch" then some (.str y t) else m₀ z) → News h₀ L h (lexIt w a it bm (liveCi bm te) sg' sn' (nlF y ln) lt' pb pn news) →
      wpAny (model PySem.Challenge.rw_kl0050_01.row.prog w) (ktrTop dp un gd cn cs L ac ccd cl outer) (execs body (envX cn cs L ac ccd cl)) (TurnOut w a it bm pb pn news h₀ L m₀ tok lnE P s Q) E { s with heap := h, toks := tk })
   (done : ∀ (u : Map) (tt : Tok) sg sn lt h tk, P → StrsAre sg [] → Fr h₀ L h (fun z => if ksHas [Str.ofString "ch"] z = true then u z else bindP m₀ [(Str.ofString "token", some (.str tok tt))] z) → News h₀ L h (lexIt w a it bm (ciObj .none .none true) sg sn lnE lt pb pn news) → Q .next { s with heap := h, toks := tk }) :
   ForAt PySem.Challenge.rw_kl0050_01.row.prog w (ktrTop dp un gd cn cs L ac ccd cl outer) (envX cn cs L ac ccd cl) (.Name (Str.ofString "ch") px) body Q E (.ref it) s := by
  refine ⟨fun n s₁ => (n = 1 ∧ s₁ = s) ∨ (n = 0 ∧ EndTok w a it bm pb pn news h₀ L m₀ tok lnE P s s₁), 1, .inl ⟨rfl, rfl⟩, ?_⟩
  rintro n s₁ (⟨rfl, rfl⟩ | ⟨rfl, he⟩)
  · refine nextCi w mean mg mb a it bm te sg sn ss ln lt pb pn B F X N T hcs K hap hs hsl hss hln hd hu ?q0 ?q1
    case q0 => exact fun he h' tk' F' N' => none_ he h' tk' F' N'
    case q1 =>
      intro y r he t sg' sn' lt' h' tk' hs' F' N'
      dsimp only
      refine wpAny_assign_Name (wpAny_storeName_local hx F'.ns (fun h2 hn2 hs2 => ?_) hp)
      have h0L : ∀ b o, h₀.get? b = some o → b ≠ L := fun b o e q => Nat.lt_irrefl _ (Nat.lt_of_lt_of_le (q ▸ Heap.lt_size e) F'.above)
      have F2 : Fr h₀ L h2 _ := ⟨hn2, fun b o e => hs2.extBut b o (h0L b o e) (F'.keep b o e), F'.above⟩
      have N2 : News h₀ L h2 _ := fun p hp => ⟨hs2.extBut _ _ (N' p hp).2.1 (N' p hp).1, (N' p hp).2⟩
      refine wpAny_mono (turn y r t sg' sn' lt' h2 _ he hs' F2 N2) (fun f s₃ hf => ?_) fun _ _ e => e
      cases f with
      | ret v => exact hf
      | brk => exact hf
      | next => exact ⟨0, Nat.zero_lt_one, .inr ⟨rfl, hf⟩⟩
      | cont => exact ⟨0, Nat.zero_lt_one, .inr ⟨rfl, hf⟩⟩
  · refine box fun zG => ?_
    obtain ⟨hP, u, tt, sg', sn', lt', h, tk, rfl, hs', F', N'⟩ := he
    refine zG ?_
    clear zG
    refine pyNext_ci_end rfl (N' (it, ciObj .none .none true) (by first | k_mem | simp)).1 fun h' hk => ?_
    exact done u tt sg' sn' lt' h' tk hP hs' ⟨F'.ns.at' fun o e => hk _ o e, fun b o e => hk b o (F'.keep b o e), F'.above⟩ (fun p hp => ⟨hk _ _ (N' p hp).1, (N' p hp).2⟩)
end
section
open PySem PySem.W PyProof.Rows PySem.Calls
set_option maxRecDepth 100000
set_option maxHeartbeats 1000000
noncomputable def catS : List Str → Str → Str
  | [], t => t
  | y :: r, t => catS r (t ++ y)
noncomputable abbrev wsS : Str := Str.ofString "\n\t\r "
structure PlainC (y : Str) : Prop where
  len : y.length = 1
  ws : (Builtin.Str.occurrences wsS y 0 wsS.length 1).isEmpty = true
  q : (y == Str.ofString "\"") = false
  b : (y == Str.ofString "\\") = false
  nl : (y == Str.ofString "\n") = false
theorem call_iter_led {prog : Program} {w : World} {A : Around} {E : Value → Shared → Prop} {s : Shared} {h₀ : Heap} {L bm : Addr} {m : Map} {news : Led} {f x y : Value} {Q : Value → Shared → Prop} (F : Fr h₀ L s.heap m) (N : News h₀ L s.heap news) (hbm : (bm, methodObj f x) ∈ news)
    (h : ∀ it h', Fr h₀ L h' m → News h₀ L h' ((it, ciObj (.ref bm) y false) :: news) → (∀ p ∈ news, p.1 < it) → Q (.ref it) { s with heap := h' }) : wpAny (model prog w) A (call (.builtin "iter") [.ref bm, y]) Q E s :=
  call_iter_two (N _ hbm).1 (h _ _ (F.push _) (News.push F N _) fun p hp => Heap.lt_size (N p hp).1)
theorem it_front {h₀ h : Heap} {L : Addr} {p1 p2 p3 p4 p5 p6 p7 p8 p9 q1 q2 : Addr × Obj} {r : Led} (N : News h₀ L h (q1 :: q2 :: p1 :: p2 :: p3 :: p4 :: p5 :: p6 :: p7 :: p8 :: p9 :: r)) : News h₀ L h (p1 :: p2 :: p3 :: p4 :: p5 :: p6 :: p7 :: p8 :: p9 :: q1 :: q2 :: r) :=
  news_sub N (sub_cons (.tail _ (.tail _ (.head _))) (sub_cons (.tail _ (.tail _ (.tail _ (.head _)))) (sub_cons (.tail _ (.tail _ (.tail _ (.tail _ (.head _))))) (sub_cons (.tail _ (.tail _ (.tail _ (.tail _ (.tail _ (.head _)))))) (sub_cons (.tail _ (.tail _ (.tail _ (.tail _ (.tail _ (.tail _ (.head _))))))) (sub_cons (.tail _ (.tail _ (.tail _ (.tail _ (.tail _ (.tail _ (.tail _ (.head _)))))))) (sub_cons (.tail _ (.tail _ (.tail _ (.tail _ (.tail _ (.tail _ (.tail _ (.tail _ (.head _))))))))) (sub_cons (.tail _ (.tail _ (.tail _ (.tail _ (.tail _ (.tail _ (.tail _ (.tail _ (.tail _ (.head _)))))))))) (sub_cons (.tail _ (.tail _ (.tail _ (.tail _ (.tail _ (.tail _ (.tail _ (.tail _ (.tail _ (.tail _ (.head _))))))))))) (sub_cons (.head _) (sub_cons (.tail _ (.head _)) (fun q hq => .tail _ (.tail _ (.tail _ (.tail _ (.tail _ (.tail _ (.tail _ (.tail _ (.tail _ (.tail _ (.tail _ (hq)))))))))))))))))))))))
theorem it_drop {h₀ h : Heap} {L : Addr} {p1 p2 p3 p4 p5 p6 p7 p8 p9 q1 q2 : Addr × Obj} {r : Led} (N : News h₀ L h (p1 :: p2 :: p3 :: p4 :: p5 :: p6 :: p7 :: p8 :: p9 :: q1 :: q2 :: r)) : News h₀ L h (p1 :: p2 :: p3 :: p4 :: p5 :: p6 :: p7 :: p8 :: p9 :: r) :=
  news_sub N (sub_cons (.head _) (sub_cons (.tail _ (.head _)) (sub_cons (.tail _ (.tail _ (.head _))) (sub_cons (.tail _ (.tail _ (.tail _ (.head _)))) (sub_cons (.tail _ (.tail _ (.tail _ (.tail _ (.head _))))) (sub_cons (.tail _ (.tail _ (.tail _ (.tail _ (.tail _ (.head _)))))) (sub_cons (.tail _ (.tail _ (.tail _ (.tail _ (.tail _ (.tail _ (.head _))))))) (sub_cons (.tail _ (.tail _ (.tail _ (.tail _ (.tail _ (.tail _ (.tail _ (.head _)))))))) (sub_cons (.tail _ (.tail _ (.tail _ (.tail _ (.tail _ (.tail _ (.tail _ (.tail _ (.head _))))))))) (fun q hq => .tail _ (.tail _ (.tail _ (.tail _ (.tail _ (.tail _ (.tail _ (.tail _ (.tail _ (.tail _ (.tail _ (hq)))))))))))))))))))))
theorem to_it {h₀ h : Heap} {L it bm : Addr} {te : Tok} {w : World} {a : LexA} {sg : List Value} {sn : Nat} {ln : Int} {lt : Tok} {pb : List Value} {pn : Nat} {news : Led} {LX LD PB D1 f2 c2 f1 S CL : Addr} {oR oc2 o1 oCL : Obj} {k1 k2 k3 k4 k5 tw : Tok}
    (ha : a = ⟨LX, LD, PB, D1, f2, c2, f1, S, CL, oR, oc2, o1, oCL, k1, k2, k3, k4, k5, tw⟩) (N : News h₀ L h ((it, liveCi bm te) :: (bm, methodObj (.ref 35) (.ref LX)) :: lexLed w ⟨LX, LD, PB, D1, f2, c2, f1, S, CL, oR, oc2, o1, oCL, k1, k2, k3, k4, k5, tw⟩ sg sn ln lt pb pn news)) :
    News h₀ L h (lexIt w a it bm (liveCi bm te) sg sn ln lt pb pn news) := by subst ha; exact it_front N
theorem lexOk_it {pT : Program} {lT : List Str} {w : World} {mean mg mb} {a : LexA} {news : Led} {it bm : Addr} {o1 o2 : Obj} (K : LexOk pT lT w mean mg mb a news) (h1 : a.PB < bm) (h2 : bm < it) : LexOk pT lT w mean mg mb a ((it, o1) :: (bm, o2) :: news) := by
  obtain ⟨w1, w2, w3, w4, w5, w6, w7, w8⟩ := K.ord
  have e1 := Nat.lt_trans w7 w8
  have e2 : a.S < a.PB := Nat.lt_trans w2 (Nat.lt_trans w3 (Nat.lt_trans w4 (Nat.lt_trans w5 (Nat.lt_trans w6 e1))))
  have f : ∀ b : Addr, a.PB < b → b ≠ a.S ∧ b ≠ a.LD ∧ b ≠ a.PB := fun b hb => ⟨Nat.ne_of_gt (Nat.lt_trans e2 hb), Nat.ne_of_gt (Nat.lt_trans e1 hb), Nat.ne_of_gt hb⟩
  refine ⟨K.ord, fun p hp => ?_, K.cls, K.dct, K.dat, K.fR, K.rd⟩
  rcases List.mem_cons.mp hp with rfl | hp
  · exact f _ (Nat.lt_trans h1 h2)
  rcases List.mem_cons.mp hp with rfl | hp
  · exact f _ h1
  · exact K.off p hp
theorem lex_hap {pT : Program} {lT : List Str} {w : World} {mean mg mb} {a : LexA} {news : Led} {it bm : Addr} (K : LexOk pT lT w mean mg mb a news) (h1 : a.PB < bm) (h2 : bm < it) (h3 : ∀ p ∈ news, p.1 ≠ it) :
    (a.PB ≠ it ∧ a.LX ≠ it ∧ a.LD ≠ it ∧ a.D1 ≠ it ∧ a.f2 ≠ it ∧ a.c2 ≠ it ∧ a.f1 ≠ it ∧ a.S ≠ it ∧ a.CL ≠ it) ∧ ∀ p ∈ (bm, meth35 a) :: news, p.1 ≠ it := by
  obtain ⟨w1, w2, w3, w4, w5, w6, w7, w8⟩ := K.ord
  have e9 := Nat.lt_trans h1 h2
  have e8 := Nat.lt_trans w8 e9
  have e7 := Nat.lt_trans w7 e8
  have e6 := Nat.lt_trans w6 e7
  have e5 := Nat.lt_trans w5 e6
  have e4 := Nat.lt_trans w4 e5
  have e3 := Nat.lt_trans w3 e4
  have e2 := Nat.lt_trans w2 e3
  have e1 := Nat.lt_trans w1 e2
  refine ⟨⟨Nat.ne_of_lt e9, Nat.ne_of_lt e8, Nat.ne_of_lt e7, Nat.ne_of_lt e6, Nat.ne_of_lt e5, Nat.ne_of_lt e4, Nat.ne_of_lt e3, Nat.ne_of_lt e2, Nat.ne_of_lt e1⟩, fun p hp => ?_⟩
  rcases List.mem_cons.mp hp with rfl | hp
  · exact Nat.ne_of_lt h2
  · exact h3 p hp
theorem to_it2 {h₀ h : Heap} {L it bm : Addr} {o : Obj} {w : World} {a a' : LexA} {sg : List Value} {sn : Nat} {ln : Int} {lt : Tok} {pb : List Value} {pn : Nat} {news : Led} (ha : a = a') (N : News h₀ L h (lexIt w a' it bm o sg sn ln lt pb pn news)) : News h₀ L h (lexIt w a it bm o sg sn ln lt pb pn news) := by subst ha; exact N
theorem nmTokX {h₀ h : Heap} {L : Addr} {k x : Str} {t : Tok} {r : Map} (_ : Fr h₀ L h (fun y => if y = k then some (.str x t) else r y)) : ∃ u : Tok, u = t := ⟨t, rfl⟩
theorem nmTe {h₀ h : Heap} {L it bm : Addr} {e : Str} {te : Tok} {r : Led} (_ : News h₀ L h ((it, ciObj (.ref bm) (.str e te) false) :: r)) : ∃ t : Tok, t = te := ⟨_, rfl⟩
theorem getTok (w : World) (mean mg mb) (a : LexA) (sg : List Value) (sn : Nat) (wd r : List Str) (ln : Int) (lt : Tok) (pn : Nat) {news : Led} {dp un gd cn cs ac ccd cl outer A₀ base h₀ L m s} {Q E : Value → Shared → Prop}
   (B : Below A₀ base outer h₀) (F : Fr h₀ L s.heap m) (X : (hd1.heap_1 w.params).In h₀) (N : News h₀ L s.heap (lexLed w a sg sn ln lt [] pn news)) (T : Top pT lT mean mg mb h₀) (hcs : cs.kind = .function) (K : LexOk pT lT w mean mg mb a news)
   (hs : StrsAre sg (wd ++ r)) (hsl : sg.length ≤ 900) (hpl : ∀ y ∈ wd, PlainC y) (hrl : ∀ y ∈ r, y.length = 1) (hr : r = [] ∨ (wd ≠ [] ∧ ∃ r', r = Str.ofString "\n" :: r')) (hln : 0 ≤ ln ∧ ln ≤ 900) (hd : dp + 8 < recursionLimit) (hu : un + 50 < cLine)
   (q : ∀ t sg' sn' lt' h' tk', StrsAre sg' r.tail → Fr h₀ L h' m → News h₀ L h' (lexLed w a sg' sn' (if r = [] then ln else ln + 1) lt' [] pn news) → Q (.str (catS wd (Str.ofString "")) t) { s with heap := h', toks := tk' }) :
   wpAny (model PySem.Challenge.rw_kl0050_01.row.prog w) (ktrTop dp un gd cn cs L ac ccd cl outer) (call (.ref 42) [.ref a.LX]) Q E s := by
  revert X; k_fill; intro X
  have K0 := K
  obtain ⟨ord, hall, hcls, hdct, ⟨fd, hdat⟩, ⟨rc, rd, rf, rs, hoR⟩, hrd⟩ := K
  obtain ⟨LX, LD, PB, D1, f2, c2, f1, S, CL, oR, oc2, o1, oCL, k1, k2, k3, k4, k5, tw⟩ := a
  obtain ⟨a, ha⟩ : ∃ a : LexA, a = ⟨LX, LD, PB, D1, f2, c2, f1, S, CL, oR, oc2, o1, oCL, k1, k2, k3, k4, k5, tw⟩ := ⟨_, rfl⟩
  rw [← ha] at K0 q
  dsimp only [lexLed, lexDict] at N
  dsimp only at ord hall ⊢
  obtain ⟨w1, w2, w3, w4, w5, w6, w7, w8⟩ := ord
  have w7' : @LT.lt Nat _ LD LX := w7
  have w8' : @LT.lt Nat _ LX PB := w8
  refine wpAny_call ?_
  k_dflt cell_enter
  (repeat' (first | (k_unfold; (try dsimp only)) | (((fail_if_success (with_reducible refine Mine.stop_of (by constructor) ?_))); walk1) | (dsimp only; ((fail_if_success (with_reducible refine Mine.stop_of (by constructor) ?_))); walk1)))
  rename News _ _ _ _ => N9
  rename Fr _ _ _ _ => F9
  rename_i bm _ _
  have hbl := ‹PB < bm ∧ _›
  refine call_iter_led F9 N9 (.head _) ?_
  intro it h10 F10 N10 l10
  clear F9 N9
  obtain ⟨te, hte⟩ := nmTe N10
  rw [← hte] at N10
  (repeat' (first | (k_unfold; (try dsimp only)) | (((fail_if_success (with_reducible refine Mine.stop_of (by constructor) ?_))); walk1) | (dsimp only; ((fail_if_success (with_reducible refine Mine.stop_of (by constructor) ?_))); walk1)))
  refine forI ?_ (fun _ _ => rfl) (fun _ => rfl)
  (repeat' (first | (k_unfold; (try dsimp only)) | (((fail_if_success (with_reducible refine Mine.stop_of (by constructor) ?_))); walk1) | (dsimp only; ((fail_if_success (with_reducible refine Mine.stop_of (by constructor) ?_))); walk1)))
  rename News _ _ _ _ => N11
  rename Fr _ _ _ _ => F11
  refine wpAny_pyIter_ci (N11 _ (.head _)).1 ?_
  have N12 := to_it ha N11
  clear N11
  have hPB : a.PB < bm := by rw [ha]; exact hbl.1
  have hbi : bm < it := l10 _ (.head _)
  have hni : ∀ p ∈ news, p.1 ≠ it := fun p hp => Nat.ne_of_lt (l10 p (by iterate 10 apply List.Mem.tail
                                                                         exact hp))
  have K1 := lexOk_it (o1 := liveCi bm te) (o2 := meth35 a) K0 hPB hbi
  have hap := lex_hap K0 hPB hbi hni
  have hlen : wd.length + r.length ≤ 900 := by rw [strsAre_len hs, List.length_append] at hsl; exact hsl
  have hone : ∀ y ∈ wd ++ r, y.length = 1 := fun y hy => (List.mem_append.mp hy).elim (fun h => (hpl y h).len) (hrl y)
  refine' outerCi w mean mg mb a it bm te sg sn (wd ++ r) ln lt [] pn (catS wd (Str.ofString "")) ln (r = []) ?k1 F11 ?k3 N12 ?k5 ?kK K1 hap hs (Nat.le_trans hsl (by decide)) hone ⟨hln.1, by omega⟩ ?kd ?ku ?hx ?hp ?none_ ?turn ?done
  case k1 => k_asm
  case k3 => k_asm
  case k5 => k_asm
  case kK => rfl
  case kd => ktr_room
  case ku => ktr_units
  case hx => with_unfolding_all rfl
  case hp => with_unfolding_all rfl
  case none_ =>
    intro he h12 tk12 F13 N13
    have hw := (List.append_eq_nil_iff.mp he).1
    have hr0 := (List.append_eq_nil_iff.mp he).2
    rw [hw] at q
    (repeat' (first | (k_unfold; (try dsimp only)) | (((fail_if_success (with_reducible refine Mine.stop_of (by constructor) ?_))); walk1) | (dsimp only; ((fail_if_success (with_reducible refine Mine.stop_of (by constructor) ?_))); walk1)))
    refine q _ sg sn lt _ _ (by rw [he] at hs; rw [hr0]; exact hs) (by k_asm) ?_
    rw [if_pos hr0]
    exact it_drop (by k_asm)
  case done =>
    intro u tt sg1 sn1 lt1 h12 tk12 hr0 hs1 F13 N13
    (repeat' (first | (k_unfold; (try dsimp only)) | (((fail_if_success (with_reducible refine Mine.stop_of (by constructor) ?_))); walk1) | (dsimp only; ((fail_if_success (with_reducible refine Mine.stop_of (by constructor) ?_))); walk1)))
    refine q _ sg1 sn1 lt1 _ _ (by rw [hr0]; exact hs1) (by k_asm) ?_
    rw [if_pos hr0]
    exact it_drop (by k_asm)
  case turn =>
    intro y rr t sg1 sn1 lt1 h12 tk12 he hs1 F13 N13
    refine box fun zG => ?_
    obtain ⟨wd', hw, hrr⟩ : ∃ wd', wd = y :: wd' ∧ rr = wd' ++ r := by
      cases wd with
      | nil =>
        rcases hr with h | ⟨h, _⟩
        · rw [h] at he; cases he
        · exact absurd rfl h
      | cons z wd' => cases he; exact ⟨wd', rfl, rfl⟩
    subst hw hrr
    refine zG ?_
    clear zG
    have hy := hpl y (.head _)
    have hyl := hy.len
    have hyw := hy.ws
    have hyq := hy.q
    have hyb := hy.b
    have hln2 : nlF y ln = ln := if_neg (by rw [hy.nl]; decide)
    rw [hln2, ha] at N13
    dsimp only [lexIt, lexLed, lexDict] at N13
    (repeat' (first | (k_unfold; (try dsimp only)) | (((fail_if_success (with_reducible refine Mine.stop_of (by constructor) ?_))); walk1) | (dsimp only; ((fail_if_success (with_reducible refine Mine.stop_of (by constructor) ?_))); walk1)))
    refine forI ?_ (fun _ _ => rfl) (fun _ => rfl)
    (repeat' (first | (k_unfold; (try dsimp only)) | (((fail_if_success (with_reducible refine Mine.stop_of (by constructor) ?_))); walk1) | (dsimp only; ((fail_if_success (with_reducible refine Mine.stop_of (by constructor) ?_))); walk1)))
    rename News _ _ _ _ => N14
    rename Fr _ _ _ _ => F14
    refine wpAny_pyIter_ci (N14 (it, liveCi bm te) (by first | k_mem | simp)).1 ?_
    have N15 := to_it2 ha N14
    clear N14
    obtain ⟨tt, htt⟩ := nmTokX F14
    rw [← htt] at F14
    have hlen2 : wd'.length + r.length ≤ 899 := by simp only [List.length_cons] at hlen; omega
    refine' ciFor [Str.ofString "ch"] w mean mg mb a it bm te sg1 sn1 (wd' ++ r) ln lt1 [] pn (σ := Str × Tok) (fun c => [(Str.ofString "token", some (.str c.1 c.2))])
      (fun ss l c => ∃ wd2, ss = wd2 ++ r ∧ (∀ z ∈ wd2, PlainC z) ∧ catS wd2 c.1 = catS (y :: wd') (Str.ofString "") ∧ l = ln ∧ wd2.length ≤ wd'.length ∧ c.1.length + wd2.length ≤ 901) ⟨Str.ofString "" ++ y, tt⟩ ?m1 F14 ?m3 N15 ?m5 ?mK K1 hap hs1 ?mJ ?md ?mu ?mx ?mp ?mm ?mj ?turn2 ?done2
    case m1 => k_asm
    case m3 => k_asm
    case m5 => k_asm
    case mK => rfl
    case md => ktr_room
    case mu => ktr_units
    case mx => with_unfolding_all rfl
    case mp => with_unfolding_all rfl
    case mm => ((exact Mine.mpL (by repeat' (first | exact True.intro | refine And.intro rfl ?_)) (by (((intro y9 hy9); repeat (first | (with_reducible rfl) | (refine Mine.off_bind hy9 rfl ?_) | (refine Mine.off_step (Mine.off_ne hy9 rfl) ?_) | (refine Mine.off_step2 hy9 rfl ?_)))))))
    case mj =>
      refine ⟨wd', rfl, fun z hz => hpl z (.tail _ hz), rfl, rfl, Nat.le_refl _, ?_⟩
      show (Str.ofString "" ++ y).length + wd'.length ≤ 901
      rw [Str.length_append, hyl, show (Str.ofString "").length = 0 by decide +kernel]
      omega
    case mJ =>
      rintro ss l c ⟨wd2, rfl, g1, g2, rfl, g4, g5⟩
      exact ⟨by rw [List.length_append]; omega, fun z hz => (List.mem_append.mp hz).elim (fun h => (g1 z h).len) (hrl z), hln.1, by omega⟩
    case done2 =>
      intro l c u2 sg2 sn2 lt2 h14 tk14 hJ2 hs2 F16 N16
      refine box fun zG => ?_
      obtain ⟨wd2, g0, g1, g2, gl, g4, g5⟩ := hJ2
      obtain rfl : ln = l := gl.symm
      obtain ⟨hw2, hr0⟩ := List.append_eq_nil_iff.mp g0.symm
      subst hw2
      obtain ⟨ct, ctt⟩ := c
      refine zG ?_
      clear zG
      have g3 : ct = catS (y :: wd') (Str.ofString "") := g2
      rw [← g3]
      dsimp only at F16
      (repeat' (first | (k_unfold; (try dsimp only)) | (((fail_if_success (with_reducible refine Mine.stop_of (by constructor) ?_))); walk1) | (dsimp only; ((fail_if_success (with_reducible refine Mine.stop_of (by constructor) ?_))); walk1)))
      exact endTok_of hr0 hs2 F16 (by ((exact Mine.mpL (by repeat' (first | exact True.intro | refine And.intro rfl ?_)) (by (((intro y9 hy9); repeat (first | (with_reducible rfl) | (refine Mine.off_bind hy9 rfl ?_) | (refine Mine.off_step (Mine.off_ne hy9 rfl) ?_) | (refine Mine.off_step2 hy9 rfl ?_)))))))) N16
    case turn2 =>
      intro y2 rr2 l
      refine pr2 ?_
      intro ct ctt u2 t2 sg2 sn2 lt2 h14 tk14 hJ2 hs2 F16 N16
      dsimp only at F16
      refine box fun zG => ?_
      obtain ⟨wd2, g0, g1, g2, gl, g4, g5⟩ := hJ2
      dsimp only at g2 g5
      obtain rfl : ln = l := gl.symm
      cases wd2 with
      | nil =>
        obtain ⟨r', hr'⟩ : ∃ r', r = Str.ofString "\n" :: r' := by
          rcases hr with h | ⟨_, h⟩
          · rw [h] at g0; cases g0
          · exact h
        obtain ⟨rfl, rfl⟩ : y2 = Str.ofString "\n" ∧ rr2 = r' := by rw [hr'] at g0; cases g0; exact ⟨rfl, rfl⟩
        refine zG ?_
        clear zG
        have hnl : nlF (Str.ofString "\n") ln = ln + 1 := if_pos (by decide +kernel)
        have hnw : (Builtin.Str.occurrences wsS (Str.ofString "\n") 0 wsS.length 1).isEmpty = false := by decide +kernel
        rw [hnl, ha] at N16
        dsimp only [lexIt, lexLed, lexDict] at N16
        (repeat' (first | (k_unfold; (try dsimp only)) | (((fail_if_success (with_reducible refine Mine.stop_of (by constructor) ?_))); walk1) | (dsimp only; ((fail_if_success (with_reducible refine Mine.stop_of (by constructor) ?_))); walk1)))
        · exact absurd (hnw.symm.trans (by assumption : (Builtin.Str.occurrences wsS (Str.ofString "\n") 0 wsS.length 1).isEmpty = true)) (by decide)
        unfold TurnCi
        dsimp only
        unfold TurnOut
        dsimp only
        (repeat' (first | (k_unfold; (try dsimp only)) | (((fail_if_success (with_reducible refine Mine.stop_of (by constructor) ?_))); walk1) | (dsimp only; ((fail_if_success (with_reducible refine Mine.stop_of (by constructor) ?_))); walk1)))
        have g3 : ct = catS (y :: wd') (Str.ofString "") := g2
        rw [← g3] at q
        refine q _ sg2 sn2 lt2 _ _ (by rw [hr']; exact hs2) (by k_asm) ?_
        rw [hr', if_neg (by simp), ha]
        exact it_drop (by k_asm)
      | cons z wd3 =>
        obtain ⟨rfl, rfl⟩ : y2 = z ∧ rr2 = wd3 ++ r := by cases g0; exact ⟨rfl, rfl⟩
        refine zG ?_
        clear zG
        have hz := g1 y2 (.head _)
        have hzl := hz.len
        have hzw := hz.ws
        have hzb := hz.b
        have hln3 : nlF y2 ln = ln := if_neg (by rw [hz.nl]; decide)
        rw [hln3, ha] at N16
        dsimp only [lexIt, lexLed, lexDict] at N16
        have g6 : ct.length ≤ 901 := by omega
        (repeat' (first | (k_unfold; (try dsimp only)) | (((fail_if_success (with_reducible refine Mine.stop_of (by constructor) ?_))); walk1) | (dsimp only; ((fail_if_success (with_reducible refine Mine.stop_of (by constructor) ?_))); walk1)))
        rename News _ _ _ _ => N17
        rename Fr _ _ _ _ => F17
        have N18 := to_it2 ha N17
        obtain ⟨tt2, htt2⟩ := nmTokX F17
        rw [← htt2] at F17
        rw [hln3]
        refine turnCi_end (ct ++ y2, tt2) F17 N18 ⟨wd3, rfl, fun z hz => g1 z (.tail _ hz), g2, rfl, ?_, ?_⟩ hs2 (by ((exact Mine.mpL (by repeat' (first | exact True.intro | refine And.intro rfl ?_)) (by (((intro y9 hy9); repeat (first | (with_reducible rfl) | (refine Mine.off_bind hy9 rfl ?_) | (refine Mine.off_step (Mine.off_ne hy9 rfl) ?_) | (refine Mine.off_step2 hy9 rfl ?_))))))))
        · simp only [List.length_cons] at g4; omega
        · show (ct ++ y2).length + wd3.length ≤ 901
          rw [Str.length_append, hzl]; simp only [List.length_cons] at g5; omega
end
section
open PySem PySem.W PyProof.Rows PySem.Calls
set_option maxRecDepth 100000
set_option maxHeartbeats 1000000
theorem lex_PB {LX LD PB D1 f2 c2 f1 S CL : Addr} {news : Led} (h : CL < S ∧ S < f1 ∧ f1 < c2 ∧ c2 < f2 ∧ f2 < D1 ∧ D1 < LD ∧ LD < LX ∧ LX < PB) (hn : ∀ p ∈ news, p.1 ≠ S ∧ p.1 ≠ LD ∧ p.1 ≠ PB) :
    ∀ x a b c d e f g : Obj, ∀ p ∈ ((LX, x) :: (LD, a) :: (D1, b) :: (f2, c) :: (c2, d) :: (f1, e) :: (S, f) :: (CL, g) :: news : Led), p.1 ≠ PB := by
  refine box fun zG => ?_
  obtain ⟨w1, w2, w3, w4, w5, w6, w7, w8⟩ := h
  refine zG ?_
  clear zG
  have e7 := Nat.lt_trans w7 w8
  have e6 := Nat.lt_trans w6 e7
  have e5 := Nat.lt_trans w5 e6
  have e4 := Nat.lt_trans w4 e5
  have e3 := Nat.lt_trans w3 e4
  have e2 := Nat.lt_trans w2 e3
  have e1 := Nat.lt_trans w1 e2
  intro x a b c d e f g p hp
  rcases List.mem_cons.mp hp with rfl | hp
  · exact Nat.ne_of_lt w8
  rcases List.mem_cons.mp hp with rfl | hp
  · exact Nat.ne_of_lt e7
  rcases List.mem_cons.mp hp with rfl | hp
  · exact Nat.ne_of_lt e6
  rcases List.mem_cons.mp hp with rfl | hp
  · exact Nat.ne_of_lt e5
  rcases List.mem_cons.mp hp with rfl | hp
  · exact Nat.ne_of_lt e4
  rcases List.mem_cons.mp hp with rfl | hp
  · exact Nat.ne_of_lt e3
  rcases List.mem_cons.mp hp with rfl | hp
  · exact Nat.ne_of_lt e2
  rcases List.mem_cons.mp hp with rfl | hp
  · exact Nat.ne_of_lt e1
  · exact (hn p hp).2.2
set_option hygiene false in
local macro_rules | `(tactic| k_all) => `(tactic| exact hupP _ _ _ _ _ _ _ _)
/-- get_token with a token pushed back -/
theorem getPushed (w : World) (mean mg mb) (a : LexA) (sg : List Value) (sn : Nat) (ln : Int) (lt : Tok) (y : Str) (ty : Tok) (pb : List Value) (pn : Nat) {news : Led} {dp un gd cn cs ac ccd cl outer A₀ base h₀ L m s} {Q E : Value → Shared → Prop}
   (B : Below A₀ base outer h₀) (F : Fr h₀ L s.heap m) (X : (hd1.heap_1 w.params).In h₀) (N : News h₀ L s.heap (lexLed w a sg sn ln lt (.str y ty :: pb) pn news)) (T : Top pT lT mean mg mb h₀) (hcs : cs.kind = .function) (K : LexOk pT lT w mean mg mb a news)
   (hpb : pb.length ≤ 900) (hd : dp + 8 < recursionLimit) (hu : un + 50 < cLine)
   (q : ∀ pn' h' tk', Fr h₀ L h' m → News h₀ L h' (lexLed w a sg sn ln lt pb pn' news) → Q (.str y ty) { s with heap := h', toks := tk' }) :
   wpAny (model PySem.Challenge.rw_kl0050_01.row.prog w) (ktrTop dp un gd cn cs L ac ccd cl outer) (call (.ref 42) [.ref a.LX]) Q E s := by
  revert X; k_fill; intro X
  refine box fun zG => ?_
  obtain ⟨ord, hall, hcls, hdct, ⟨fd, hdat⟩, ⟨rc, rd, rf, rs, hoR⟩, hrd⟩ := K
  refine zG ?_
  clear zG
  refine box fun zG => ?_
  obtain ⟨LX, LD, PB, D1, f2, c2, f1, S, CL, oR, oc2, o1, oCL, k1, k2, k3, k4, k5, tw⟩ := a
  refine zG ?_
  clear zG
  dsimp only [lexLed, lexDict] at N
  dsimp only at ord hall q ⊢
  refine wpAny_call ?_
  k_dflt cell_enter
  (repeat' (first | (k_unfold; (try dsimp only)) | (((fail_if_success (with_reducible refine Mine.stop_of (by constructor) ?_))); walk1) | (dsimp only; ((fail_if_success (with_reducible refine Mine.stop_of (by constructor) ?_))); walk1)))
  rename News _ _ _ _ => N9
  rename Fr _ _ _ _ => F9
  refine kl_popAt F9 N9 rfl (k := 0) (p := []) (q := pb) (y := .str y ty) ?hk rfl (.head (lex_PB ord hall _ _ _ _ _ _ _ _)) ?hz ?_
  case hk => unfold seqIndex?; simp
  case hz =>
    show pb.length + 1 ≤ _
    rw [sizeLine_eq]; omega
  intro h11 F11 N11
  (repeat' (first | (k_unfold; (try dsimp only)) | (((fail_if_success (with_reducible refine Mine.stop_of (by constructor) ?_))); walk1) | (dsimp only; ((fail_if_success (with_reducible refine Mine.stop_of (by constructor) ?_))); walk1)))
  exact q _ _ _ (by k_asm) (by k_asm)
theorem pushTok (w : World) (mean mg mb) (a : LexA) (sg : List Value) (sn : Nat) (ln : Int) (lt : Tok) (y : Str) (ty : Tok) (pb : List Value) (pn : Nat) {news : Led} {dp un gd cn cs ac ccd cl outer A₀ base h₀ L m s} {Q E : Value → Shared → Prop}
   (B : Below A₀ base outer h₀) (F : Fr h₀ L s.heap m) (X : (hd1.heap_1 w.params).In h₀) (N : News h₀ L s.heap (lexLed w a sg sn ln lt pb pn news)) (T : Top pT lT mean mg mb h₀) (hcs : cs.kind = .function) (K : LexOk pT lT w mean mg mb a news)
   (hpb : pb.length ≤ 900) (hd : dp + 8 < recursionLimit) (hu : un + 50 < cLine)
   (q : ∀ pn' h' tk', Fr h₀ L h' m → News h₀ L h' (lexLed w a sg sn ln lt (pb ++ [.str y ty]) pn' news) → Q .none { s with heap := h', toks := tk' }) :
   wpAny (model PySem.Challenge.rw_kl0050_01.row.prog w) (ktrTop dp un gd cn cs L ac ccd cl outer) (call (.ref 49) [.ref a.LX, .str y ty]) Q E s := by
  revert X; k_fill; intro X
  refine box fun zG => ?_
  obtain ⟨ord, hall, hcls, hdct, ⟨fd, hdat⟩, ⟨rc, rd, rf, rs, hoR⟩, hrd⟩ := K
  refine zG ?_
  clear zG
  refine box fun zG => ?_
  obtain ⟨LX, LD, PB, D1, f2, c2, f1, S, CL, oR, oc2, o1, oCL, k1, k2, k3, k4, k5, tw⟩ := a
  refine zG ?_
  clear zG
  dsimp only [lexLed, lexDict] at N
  dsimp only at ord hall q ⊢
  have hupP := lex_PB ord hall
  refine wpAny_call ?_
  k_dflt cell_enter
  (repeat' (first | (k_unfold; (try dsimp only)) | (((fail_if_success (with_reducible refine Mine.stop_of (by constructor) ?_))); walk1) | (dsimp only; ((fail_if_success (with_reducible refine Mine.stop_of (by constructor) ?_))); walk1)))
  refine q (pn + 1) _ _ (by k_asm) ?_
  dsimp only [lexLed, lexDict]
  rw [show (pb ++ [Value.str y ty]).toArray = pb.toArray.push (Value.str y ty) by simp]
  k_asm
end
section
open PySem PySem.W PyProof.Rows PySem.Calls
set_option maxRecDepth 100000
set_option maxHeartbeats 1000000
noncomputable abbrev genObj (g : Nat) (nm qn : Value) : Obj := { cls := .type "generator", dict := none, data := .fields #[.int g 0, nm, qn], slots := #[] }
section
variable {prog : Program} {w : World} {A₀ A : Around} {s : Shared} {base h₀ : Heap} {L : Addr} {m : Str → Option Value} {env : Env} {news : Led} {K : Frag} {p : Program} {loose : List Str} {mean : ExcName → Option Value} {mg mb : Str → Option Value}
    {R : Result → Shared → Prop} {name qual : Str} {params : Arguments} {body : List Stmt} {scope : Scope} {dV kV doc pm cdv ct oc : Value} {an od : Option Addr} {osl : Array (Option Value)} {f : Addr} {args : Args} {binds : List (Str × Value)}
/-- a def that yields, called: the generator stands ready -/
theorem code_gen (F : Fr h₀ L s.heap m) (X₀ : K.In h₀) (N : News h₀ L s.heap news) (T : Top p loose mean mg mb h₀)
    (ho : K.lookup f = some ⟨oc, od, .func (fnOf name qual params body scope dV kV doc pm an cdv ct), osl⟩) (hcd : codeIn K cdv qual = true) (hroom : A.depth < recursionLimit)
    (hbind : BindsTo s (fnOf name qual params body scope dV kV doc pm an cdv ct) args binds) (hloc : ∀ y ∈ binds, scope.names.lookup y.1 = some .local)
    (h : ∀ G a oG h' tk nm qn, Fr h₀ L h' m → News h₀ L h' ((a, genObj s.gens.size nm qn) :: (G, oG) :: news) → h'.Ns G (fun y => binds.reverse.lookup y) → (∀ p ∈ news, p.1 < G) → L < G → G < a → (∀ b o, h₀.get? b = some o → b < G) →
      R (.ok (.ret (.ref a))) { s with gens := s.gens.push (.fresh (.func body (envOf qual scope G f cdv))), toks := tk, heap := h' })
    (hco : scope.isCoroutine = false) (hgen : scope.isGenerator = true) (hk : scope.kind = .function)
    (hcell : ∀ x ∈ scope.names, x.2 ≠ .cell) : codeAny (model prog w) A (.call (.ref f) args) R s := by
  have X := X₀.keeps F.keep
  refine codeAny_call_generator hroom (X _ _ ho) rfl hco hgen rfl (codeRec_of X hcd) (hbind _ _ _ _ ?_)
  refine wpAny_newFunctionEnv hcell hloc (fun h₁ hns hsb => ⟨(T.nolimit.keeps F.keep).fresh _ hsb, ?_⟩) hk
  have hz : h₁.objs.size = s.heap.objs.size + 1 := by rw [hsb.1, Heap.size_push]
  have hk₁ : ∀ b o, s.heap.get? b = some o → h₁.get? b = some o := fun b o e => hsb.extBut b o (Nat.ne_of_lt (Heap.lt_size e)) (Heap.get?_push_of_some _ e)
  refine box fun zG => ?_
  obtain ⟨oG, es, ep, hG, hGd, hGk, hGf⟩ := id hns
  refine zG ?_
  clear zG
  have hLt := F.ns.lt
  have hno : ∀ b, s.heap.objs.size ≤ b → h₀.get? b = none := fun b hb => by
    cases q : h₀.get? b with
    | none => rfl
    | some o => exact absurd (Nat.lt_of_le_of_lt hb (Heap.lt_size (F.keep _ _ q))) (Nat.lt_irrefl _)
  have F₁ : Fr h₀ L h₁ m := F.keeps hk₁
  refine h s.heap.objs.size h₁.objs.size oG (h₁.push (genObj s.gens.size (.str name (s.toks + binds.length)) (.str qual (s.toks + binds.length + 1)))) (s.toks + binds.length + 1 + 1) (.str name (s.toks + binds.length)) (.str qual (s.toks + binds.length + 1)) (F₁.push _) (fun p hp => ?_) (hns.push _) (fun p hp => Heap.lt_size (N p hp).1) hLt (by rw [hz]; exact Nat.lt_succ_self _) fun b o e => Heap.lt_size (F.keep _ _ e)
  rcases List.mem_cons.mp hp with rfl | hp
  · exact ⟨Heap.get?_push_size _ rfl, Nat.ne_of_gt (Nat.lt_trans hLt (by rw [hz]; exact Nat.lt_succ_self _)), hno _ (by show _ ≤ h₁.objs.size; rw [hz]; exact Nat.le_succ _)⟩
  rcases List.mem_cons.mp hp with rfl | hp
  · exact ⟨Heap.get?_push_of_some _ hG, Nat.ne_of_gt hLt, hno _ (Nat.le_refl _)⟩
  · exact ⟨Heap.get?_push_of_some _ (hk₁ _ _ (N p hp).1), (N p hp).2⟩
end

section
variable {prog : Program} {w : World} {A : Around} {E : Value → Shared → Prop} {s : Shared}
theorem next_gen {a : Addr} {g n : Nat} {gs : GenState} {P : Nat → Shared → Shared → Prop} {Y : Protocol} {Q : Option Value → Shared → Prop} (hh : A.handled = none)
    (hl : s.heap.NoLimit) (hroom : A.depth < recursionLimit) (hg : s.heap.IsGen a g) (hgs : s.gens[g]? = some gs)
    (hgo : gs.Goes (model prog w) A.in1 (fun n s₀ r s₁ => r = .ok (.ret .none) ∧ P n s₀ s₁) Y n (.send .none) (s.setGen g .running))
    (hY : ∀ v s₁ gs', gs'.bare = true → Y (n - 1) (s.setGen g .running) v s₁ (fun r' s'' => match n with
        | 0 => False
        | m + 1 => gs'.Goes (model prog w) A.in1 (fun n s₀ r s₁ => r = .ok (.ret .none) ∧ P n s₀ s₁) Y m r' s'') → Q (some v) (s₁.setGen g gs'))
    (hP : ∀ s₁, P n (s.setGen g .running) s₁ → ∀ h', (∀ b o, s₁.heap.get? b = some o → h'.get? b = some o) → Q none { s₁.setGen g .finished with heap := h' }) :
    wpAny (model prog w) A (pyNext (.ref a)) Q E s := by
  unfold pyNext
  refine wpAny_bind (wpAny_attempt (wpAny_callSpecial?_slot (name := Str.ofString "__next__") hg.typeIs slot_gen_next
    (wpAny_call_entry slot_gen_next hg.typeIs entry_gen_next ?_ (args_gen_next _))))
  show wpAny _ A.in1 (Builtin.Generator.genWake (.ref a) (.send .none)) _ _ s
  unfold Builtin.Generator.genWake
  refine wpAny_bind (wpAny_holding (wpAny_genNumber hg (wpAny_bind (wpAny_genState hgs ?_))))
  have key : ∀ (hne : gs.status = .fresh ∨ gs.status = .suspended), wpAny (model prog w) A.in1 (.resume g (.send .none) [] fun r => (Sem.pure r : Sem GenResult) >>= fun r => match r with
      | .yielded v => pure (Fin.done (.ret v))
      | r => unsupported "x") (fun _ _ => True) (fun _ _ => True) s → True := fun _ _ => trivial
  clear key
  cases gs with
  | running => exact hgo.elim
  | finished => exact hgo.elim
  | _ =>
    refine wpAny_bind (wpAny_roomToWake hl hroom ?_)
    show wpAny _ A.in1 (.resume g (.send .none) [] _) _ _ s
    refine wpAny_resumeQ hgs hgo (fun x s₁ hx => ?_) (fun v s₁ gs' hb hv => ?_)
    · obtain ⟨rfl, hp⟩ := hx
      show wpAny _ A.in1 (newExc (.type "StopIteration") [] >>= _) _ _ _
      refine wpAny_bind ?_
      simp only [newExc, newTuple]
      refine wpAny_bind (wpAny_newObj_type ?_ (by size_fits))
      refine wpAny_bind (m := firstArgMember _ _) (wpAny_of_eq (a := Value.none) (by first | rfl | (simp only [firstArgMember]; rfl)) ?_)
      refine wpAny_newObj_type ?_ (by size_fits)
      simp only [raiseNew]
      refine wpAny_bind (wpAny_bind (wpAny_handled ?_))
      first | rw [show A.in1.handled = none from hh] | rw [hh]
      refine wpAny_throw ?_
      refine wpAny_bind (wpAny_isInstance (T := "StopIteration") (b := true) ⟨_, Heap.get?_push_size _ rfl, rfl⟩ isSubtype_stop ?_)
      exact wpAny_pure (hP s₁ hp _ fun b o hb => Heap.get?_push_of_some _ (Heap.get?_push_of_some _ hb))
    · exact wpAny_pure ⟨v, rfl, wpAny_pure (hY v s₁ gs' hb hv)⟩
end

section
variable {M : Model} {A : Around} {R : GenEnd} {Y : Protocol} {n : Nat} {s₀ : Shared} {c : Code} {fs : List Frame} {s : Shared} {env : Env}
  {K : Flow → Sem Fin} {H : Value → Sem Fin} {gd : Bool → Bool} {lv : List Value → List Value}
noncomputable abbrev ownFrame (K : Flow → Sem Fin) (H : Value → Sem Fin) (gd : Bool → Bool) (lv : List Value → List Value) (c : Code) (env : Env) (p : PySem.Pos) : Frame :=
  .ret (fun r => ((match r with | .ok f => (.pure f : Sem Flow) | .error e => .raise e).onRaise fun (x : Value) => do
        if (← field x 1) == Value.none then unsupported "frame.own-activation:exception-without-traceback"
        setFlight x env.frame).wrap K H gd lv) none (gd false) (lv []) c p []
theorem seg_For {target iter : Expr} {body orelse : List Stmt} {pos : PySem.Pos}
    (h : wpAny M (A.over c fs) (eval iter env) (fun x s₁ => wpAny M (A.over c fs) (foldedSetIterable iter env x) (fun x s₂ => wpAny M (A.over c fs) (pyIter x) (fun it s₃ =>
      ∀ p, Seg M A R Y n s₀ (.forLoop target it body orelse env) (M.den (.forLoop target it body orelse env)) (ownFrame K H gd lv c env p :: fs) s₃)
      (fun x s' => Seg M A R Y n s₀ c (H x) fs s') s₂) (fun x s' => Seg M A R Y n s₀ c (H x) fs s') s₁) (fun x s' => Seg M A R Y n s₀ c (H x) fs s') s) :
    Seg M A R Y n s₀ c ((exec (.For target iter body orelse pos) env).wrap K H gd lv) fs s := by
  rw [exec_For]
  refine seg_bind_wrap (wpAny_standAt ?_)
  refine seg_bind_wrap (wpAny_mono h (fun x s₁ h₁ => ?_) fun _ _ e => e)
  refine seg_bind_wrap (wpAny_mono h₁ (fun x s₂ h₂ => ?_) fun _ _ e => e)
  refine seg_bind_wrap (wpAny_standAt ?_)
  refine seg_bind_wrap (wpAny_holding (wpAny_mono h₂ (fun it s₃ h₃ => ?_) fun _ _ e => e))
  exact seg_call h₃
end
section
variable {prog : Program} {w : World} {A : Around} {R : GenEnd} {Y : Protocol} {n : Nat} {s₀ : Shared} {fs : List Frame} {s : Shared} {env : Env}
/-- how a loop's turn goes wrong -/
noncomputable abbrev segFails (env : Env) : Value → Sem Fin := fun e => (do noteFrame e env; theTreesLotGoes e : Sem Unit).wrap (fun _ => .raise e) .raise id id
noncomputable abbrev segTurn (target : Expr) (it : Value) (body orelse : List Stmt) (env : Env) : Flow → Sem Fin := fun f => match f with
  | .next | .cont => .pure (.again (.forLoop target it body orelse env))
  | .brk => .pure (.done .next)
  | .ret v => .pure (.done (.ret v))
theorem seg_forLoop {target : Expr} {it : Value} {body orelse : List Stmt}
    (h : wpAny (model prog w) (A.over (.forLoop target it body orelse env) fs) (pyNext it) (fun r s₁ => match r with
        | none => Seg (model prog w) A R Y n s₀ (.forLoop target it body orelse env) (.pure (.again (.block orelse env))) fs s₁
        | some v => wpAny (model prog w) (A.over (.forLoop target it body orelse env) fs) (letOwnedTupleGo target it v) (fun _ s₂ =>
            wpAny (model prog w) (A.over (.forLoop target it body orelse env) fs) (assign target env v) (fun _ s₃ =>
              Seg (model prog w) A R Y n s₀ (.forLoop target it body orelse env) ((execs body env).wrap (segTurn target it body orelse env) (segFails env) id id) fs s₃)
              (fun x s' => Seg (model prog w) A R Y n s₀ (.forLoop target it body orelse env) (segFails env x) fs s') s₂)
            (fun x s' => Seg (model prog w) A R Y n s₀ (.forLoop target it body orelse env) (segFails env x) fs s') s₁)
      (fun x s' => Seg (model prog w) A R Y n s₀ (.forLoop target it body orelse env) (segFails env x) fs s') s) :
    Seg (model prog w) A R Y n s₀ (.forLoop target it body orelse env) ((model prog w).den (.forLoop target it body orelse env)) fs s := by
  show Seg _ A R Y n s₀ _ ((forTurn target it body orelse env).onRaise (fun x => do noteFrame x env; theTreesLotGoes x)) fs s
  have eH : (fun e => ((do noteFrame e env; theTreesLotGoes e : Sem Unit).bind fun _ => (.raise e : Sem Fin))) = segFails env := funext fun e => Sem.bind_eq_wrap _ _
  rw [Sem.onRaise_eq_wrap]
  show Seg _ A R Y n s₀ _ (Sem.wrap Sem.pure (fun e => ((do noteFrame e env; theTreesLotGoes e : Sem Unit).bind fun _ => (.raise e : Sem Fin))) id id (forTurn target it body orelse env)) fs s
  rw [eH]
  unfold forTurn
  refine seg_bind_wrap (wpAny_standAt ?_)
  refine seg_bind_wrap (wpAny_onRaise (wpAny_mono h (fun r s₁ h₁ => ?_) fun _ _ h' => wpAny_standAt h'))
  cases r with
  | none => exact h₁
  | some v =>
    refine seg_bind_wrap (wpAny_mono h₁ (fun _ s₂ h₂ => ?_) fun _ _ e => e)
    refine seg_bind_wrap (wpAny_mono h₂ (fun _ s₃ h₃ => ?_) fun _ _ e => e)
    show Seg _ A R Y n s₀ _ (Sem.wrap _ _ _ _ (execs body env >>= _)) fs s₃
    rw [Sem.bind_eq_wrap', Sem.wrap_wrap]
    suffices hs : ∀ (K : Flow → Sem Fin) (H : Value → Sem Fin), (∀ a, K a = segTurn target it body orelse env a) → (∀ e, H e = segFails env e) →
        Seg (model prog w) A R Y n s₀ (.forLoop target it body orelse env) (Sem.wrap K H (fun g => id (id g)) (fun l => id (id l)) (execs body env)) fs s₃ from hs _ _ (fun f => by cases f <;> rfl) (fun _ => rfl)
    intro K H hK hH
    rw [Sem.wrap_congr _ _ _ hK hH]
    exact h₃
theorem seg_block_nil (hQ : Seg (model prog w) A R Y n s₀ (.block [] env) (.pure (.done .next)) fs s) :
    Seg (model prog w) A R Y n s₀ (.block [] env) ((model prog w).den (.block [] env)) fs s := by
  show Seg _ A R Y n s₀ _ ((execs [] env).onRaise (fun x => do noteFrame x env; theTreesLotGoes x) >>= _) fs s
  rw [Sem.onRaise_eq_wrap]
  exact hQ
end
section
variable {prog : Program} {w : World} {A : Around} {E : Value → Shared → Prop} {s : Shared} {env : Env} {Q : Flow → Shared → Prop}
noncomputable def ForAtG (prog : Program) (w : World) (A : Around) (env : Env) (target : Expr) (body : List Stmt) (Q : Flow → Shared → Prop) (E : Value → Shared → Prop) (it : Value) (s : Shared) : Prop :=
  ∃ (I : Nat → Shared → Prop) (n : Nat), I n s ∧ ∀ n s, I n s → wpAny (model prog w) A (pyNext it) (fun r s₁ => match r with
    | none => Q .next s₁
    | some v => wpAny (model prog w) A (letOwnedTupleGo target it v) (fun _ s₂ => wpAny (model prog w) A (assign target env v) (fun _ s₃ => wpAny (model prog w) A (execs body env) (fun f s₄ => match f with
      | .next | .cont => ∃ m, m < n ∧ I m s₄
      | .brk => Q .next s₄
      | .ret v => Q (.ret v) s₄) E s₃) E s₂) E s₁) E s
theorem forG {target iter : Expr} {body : List Stmt} {pos : PySem.Pos}
    (h : wpAny (model prog w) A (eval iter env) (fun xv s₁ => wpAny (model prog w) A (pyIter xv) (fun it s₂ => ForAtG prog w A env target body Q E it s₂) E s₁) E s)
    (hs : ∀ x, foldedSetIterable iter env x = pure x) (hE : PassesOwn (model prog w) A env E := by passes_own) :
    wpAny (model prog w) A (exec (.For target iter body [] pos) env) Q E s := by
  refine wpAny_For (wpAny_mono h (fun xv s₁ h₁ => wpAny_mono h₁ (fun it s₂ h₂ => ?_) fun _ _ e => e) fun _ _ e => e) hs
  refine box fun zG => ?_
  obtain ⟨I, n, hI, turn⟩ := h₂
  refine zG ?_
  clear zG
  refine codeAny_forLoop_any (R := fun r s' => match r with | .ok f => Q f s' | .error e => cameBackBy (model prog w) A env E e s') I (fun n s hI => ?_) n hI
  refine wpAny_passesOwn hE (wpAny_mono (turn n s hI) (fun r s₁ h₁ => ?_) fun _ _ e => e)
  cases r with
  | none => exact wpAny_execs_nil h₁
  | some v =>
    refine wpAny_passesOwn hE (wpAny_mono h₁ (fun _ s₂ h₂ => ?_) fun _ _ e => e)
    refine wpAny_passesOwn hE (wpAny_mono h₂ (fun _ s₃ h₃ => ?_) fun _ _ e => e)
    exact wpAny_passesOwn hE (wpAny_mono h₃ (fun f s₄ h₄ => by cases f <;> exact h₄) fun _ _ e => e)
theorem letGo_gen {elts : List Expr} {x1} {pos : PySem.Pos} {a T : Addr} {g : Nat} {Q : Unit → Shared → Prop} (hg : s.heap.IsGen a g) (hQ : Q () s) :
    wpAny (model prog w) A (letOwnedTupleGo (.Tuple elts x1 pos) (.ref a) (.ref T)) Q E s := by
  refine box fun zG => ?_
  obtain ⟨o, nm, qn, ho, hc, hd, _⟩ := hg
  refine zG ?_
  clear zG
  unfold letOwnedTupleGo
  refine wpAny_bind (wpAny_load ho ?_)
  rw [hc, hd]
  show wpAny _ A (if (["enumerate", "zip", "dict_itemiterator", "dict_reverseitemiterator", "odict_iterator", "itertools.zip_longest", "itertools.pairwise"].contains "generator" && _) = true then _ else _) Q E s
  rw [if_neg (by
    intro h
    rw [show (["enumerate", "zip", "dict_itemiterator", "dict_reverseitemiterator", "odict_iterator", "itertools.zip_longest", "itertools.pairwise"].contains "generator") = false from by decide, Bool.false_and] at h
    cases h)]
  exact wpAny_pure hQ
end
end
section
open PySem PySem.W PyProof.Rows PySem.Calls
set_option maxRecDepth 100000
set_option maxHeartbeats 1000000
/-- every object of a heap that neither `own` nor an older heap holds -/
theorem all_led (g h : Heap) (own : List Addr) : ∃ cl : Led, (∀ p ∈ cl, h.get? p.1 = some p.2 ∧ p.1 ∉ own ∧ g.get? p.1 = none) ∧ ∀ b o, h.get? b = some o → b ∉ own → g.get? b = none → (b, o) ∈ cl := by
  refine ⟨(List.range h.objs.size).filterMap fun b => if b ∈ own then none else match g.get? b, h.get? b with | none, some o => some (b, o) | _, _ => none, fun p hp => ?_, fun b o e hb hg => ?_⟩
  · obtain ⟨b, _, hb⟩ := List.mem_filterMap.mp hp
    by_cases h1 : b ∈ own
    · rw [if_pos h1] at hb; cases hb
    · rw [if_neg h1] at hb
      split at hb
      · rename_i h2 h3
        cases hb
        exact ⟨h3, h1, h2⟩
      · cases hb
  · refine List.mem_filterMap.mpr ⟨b, List.mem_range.mpr (Heap.lt_size e), ?_⟩
    rw [if_neg hb, hg, e]
/-- what a generator's own steps leave: all but its own objects -/
noncomputable def GSince (G ga : Addr) (s₀ s : Shared) : Prop := ∃ h' tk, s = { s₀ with heap := h', toks := tk } ∧ ∀ b o, b < G ∨ b = ga → s₀.heap.get? b = some o → h'.get? b = some o
noncomputable abbrev GR (G ga : Addr) : GenEnd := fun n s₀ r s₁ => r = .ok (.ret .none) ∧ (n = 0 ∧ GSince G ga s₀ s₁)
noncomputable def GY (g : Heap) (G ga : Addr) (x : Str) : Protocol := fun m s₀ v s kap =>
  ∃ (own : Led) (T : Addr) (i c : Nat) (t u : Tok), x.cps[i]? = some c ∧ i + m + 1 = x.cps.size ∧ v = .ref T ∧ s.heap.IsTuple T #[.int i t, .str ⟨#[c]⟩ u] ∧ GSince G ga s₀ s ∧
    (∀ p ∈ own, s.heap.get? p.1 = some p.2 ∧ G ≤ p.1 ∧ p.1 ≠ ga) ∧ ∀ s'' : Shared, (∀ p ∈ own, s''.heap.get? p.1 = some p.2) → (∀ b o, g.get? b = some o → s''.heap.get? b = some o) → kap (.send .none) s''
theorem seg_ind {M : Model} {A : Around} {R : GenEnd} {Y : Protocol} {c : Code} {t : Sem Fin} {fs : List Frame} (Nn : Nat) (I : Nat → Shared → Shared → Prop)
    (step : ∀ i s₀ s k, Nn - i = k → i ≤ Nn → I i s₀ s → (∀ k', k = k' + 1 → ∀ s₁ s₂, I (i + 1) s₁ s₂ → Seg M A R Y k' s₁ c t fs s₂) → Seg M A R Y k s₀ c t fs s) :
    ∀ i s₀ s, i ≤ Nn → I i s₀ s → Seg M A R Y (Nn - i) s₀ c t fs s := by
  have key : ∀ k i s₀ s, Nn - i = k → i ≤ Nn → I i s₀ s → Seg M A R Y k s₀ c t fs s := by
    intro k
    induction k with
    | zero => exact fun i s₀ s h1 h2 h3 => step i s₀ s 0 h1 h2 h3 fun k' e => absurd e (Nat.succ_ne_zero k').symm
    | succ k ih =>
      intro i s₀ s h1 h2 h3
      refine step i s₀ s (k + 1) h1 h2 h3 fun k' e s₁ s₂ h => ?_
      obtain rfl := Nat.succ.inj e
      exact ih (i + 1) s₁ s₂ (by omega) (by omega) h
  exact fun i s₀ s h1 h2 => key _ i s₀ s rfl h1 h2
noncomputable abbrev enumObj (it : Addr) (i : Int) (old : Value) : Obj := { cls := .type "enumerate", dict := none, data := .fields #[.none, .bool false, .ref it, rawInt i, .none, old], slots := #[] }
theorem str_draws {prog : Program} {w : World} {x : Str} {t : Tok} {it : Addr} {h : Heap} (hit : h.IsStrIter it (strIterType x) x t 0) :
    ∃ St : Nat → Heap → Prop, (∀ A : Around, A.handled = none → Draws prog w A it [it] x.cps.size (fun i v => ∃ c u, x.cps[i]? = some c ∧ v = .str ⟨#[c]⟩ u) St) ∧ St 0 h := by
  cases ha : x.cps.all (· < 128)
  · exact ⟨_, fun A hA => Draws.strWide hA it x t, by simpa [strIterType, ha] using hit⟩
  · exact ⟨_, fun A hA => Draws.strAscii hA it x t, by simpa [strIterType, ha] using hit⟩
theorem gsince {g : Heap} {G ga : Addr} {s₀ s : Shared} {cl : Led} {own : List Addr} {m : Map} {h' : Heap} {tk : Nat} (S : GSince G ga s₀ s) (hk : ∀ b o, g.get? b = some o → s.heap.get? b = some o)
    (hc2 : ∀ b o, s.heap.get? b = some o → b ∉ own → g.get? b = none → (b, o) ∈ cl) (ho : ∀ b ∈ own, G ≤ b ∧ b ≠ ga) (F : Fr g G h' m) (N : News g G h' cl) : GSince G ga s₀ { s with heap := h', toks := tk } := by
  refine box fun zG => ?_
  obtain ⟨h₁, tk₁, rfl, k⟩ := S
  refine zG ?_
  clear zG
  refine ⟨h', tk, rfl, fun b o hb e => ?_⟩
  have e1 := k b o hb e
  cases q : g.get? b with
  | some o' =>
    have e2 := hk b o' q
    rw [e1] at e2
    cases e2
    exact F.keep _ _ q
  | none =>
    refine (N _ (hc2 b o e1 (fun hm => ?_) q)).1
    rcases hb with hb | hb
    · exact absurd (Nat.lt_of_lt_of_le hb (ho b hm).1) (Nat.lt_irrefl _)
    · exact (ho b hm).2 hb
theorem seg_If {M : Model} {A : Around} {R : GenEnd} {Y : Protocol} {n : Nat} {s₀ : Shared} {c : Code} {fs : List Frame} {s : Shared} {env : Env} {K : Flow → Sem PySem.Fin} {H : Value → Sem PySem.Fin} {gd : Bool → Bool} {lv : List Value → List Value}
    {test : PySem.Expr} {body orelse : List Stmt} {pos : PySem.Pos}
    (h : wpAny M (A.over c fs) (isTrue test env (eval test env)) (fun b s' => if b = true then Seg M A R Y n s₀ c ((execs body env).wrap K H gd lv) fs s' else Seg M A R Y n s₀ c ((execs orelse env).wrap K H gd lv) fs s') (fun x s' => Seg M A R Y n s₀ c (H x) fs s') s) :
    Seg M A R Y n s₀ c ((exec (.If test body orelse pos) env).wrap K H gd lv) fs s := by
  rw [arm_exec_If]
  refine seg_bind_wrap (wpAny_standAt ?_)
  refine seg_bind_wrap (wpAny_mono h (fun b s' hb => ?_) fun _ _ e => e)
  cases b
  · simpa using hb
  · simpa using hb
theorem gen_goes (w : World) (mean mg mb) (x : Str) (tx : Tok) {dp un : Nat} {gd : Option (List Code)} {fr : Option (List Env)} {g : Heap} {G ga : Addr} {s : Shared}
    {name qual : Str} {params : Arguments} {body : List Stmt} {scope : Scope} {dV kV doc pm cdv ct oc : Value} {an od : Option Addr} {osl : Array (Option Value)}
    (ho : (hd1.heap_1 w.params).lookup 100 = some ⟨oc, od, .func (fnOf name qual params body scope dV kV doc pm an cdv ct), osl⟩)
    (X : (hd1.heap_1 w.params).In g) (T : Top pT lT mean mg mb g) (hG : g.objs.size ≤ G) (hga : G < ga)
    (hx : ∀ c ∈ x.cps.toList, c ≠ 92) (hd : dp + 4 < recursionLimit) (hu : un + 16 < cLine)
    (hk : ∀ b o, g.get? b = some o → s.heap.get? b = some o) (hns : s.heap.Ns G (fun y => if y = Str.ofString "addr" then some (.str x tx) else none)) (hgs : ∃ o, s.heap.get? ga = some o) :
    Seg (model PySem.Challenge.rw_kl0050_01.row.prog w) (Around.in1 ⟨none, dp, fr, gd, un⟩) (GR G ga) (GY g G ga x) x.cps.size s (.func body (envOf qual scope G 100 cdv)) ((model PySem.Challenge.rw_kl0050_01.row.prog w).den (.func body (envOf qual scope G 100 cdv))) [] s := by
  revert X; k_fill; intro X
  have S0 : GSince G ga s s := ⟨_, _, rfl, fun _ _ _ e => e⟩
  have e1 : (some _ : Option Obj) = _ := ((rfl : (hd1.heap_1 w.params).lookup 100 = some _).symm.trans ho)
  injection e1 with e1
  injection e1 with e2 e3 e4 e5
  injection e4 with e6
  injection e6 with f1 f2 f3 f4 f5 f6 f7 f8 f9 f10 f11 f12 f13
  injection f4 with f4
  subst f2 f4 f5 f13
  obtain ⟨cl, hc1, hc2⟩ := all_led g s.heap [G]
  have F : Fr g G s.heap _ := ⟨hns, hk, hG⟩
  have N : News g G s.heap cl := fun p hp => ⟨(hc1 p hp).1, fun e => (hc1 p hp).2.1 (List.mem_singleton.mpr e), (hc1 p hp).2.2⟩
  refine seg_func (seg_execs_cons (seg_wrap ?_))
  (repeat' (first | (k_unfold; (try dsimp only)) | (((fail_if_success (with_reducible refine Mine.stop_of (by constructor) ?_))); walk1) | (dsimp only; ((fail_if_success (with_reducible refine Mine.stop_of (by constructor) ?_))); walk1)))
  refine seg_execs_cons (seg_wrap ?_)
  (repeat' (first | (k_unfold; (try dsimp only)) | (((fail_if_success (with_reducible refine Mine.stop_of (by constructor) ?_))); walk1) | (dsimp only; ((fail_if_success (with_reducible refine Mine.stop_of (by constructor) ?_))); walk1)))
  refine seg_execs_cons (seg_For ?_)
  (repeat' (first | (k_unfold; (try dsimp only)) | (((fail_if_success (with_reducible refine Mine.stop_of (by constructor) ?_))); (fail_if_success (with_reducible show wpAny _ _ (call (Value.type _) _) _ _ _)); walk1) | (dsimp only; ((fail_if_success (with_reducible refine Mine.stop_of (by constructor) ?_))); (fail_if_success (with_reducible show wpAny _ _ (call (Value.type _) _) _ _ _)); walk1)))
  refine call_enumerate_str ?_
  intro h3 heE hitE hszE hkE
  (try dsimp only at heE hitE hszE hkE)
  (repeat' (first | (k_unfold; (try dsimp only)) | (((fail_if_success (with_reducible refine Mine.stop_of (by constructor) ?_))); walk1) | (dsimp only; ((fail_if_success (with_reducible refine Mine.stop_of (by constructor) ?_))); walk1)))
  rename Heap.IsStrIter _ _ _ _ _ _ => hit
  rename IsEnum _ _ _ _ _ => hen
  rename Fr _ _ _ _ => F2
  rename News _ _ _ _ => N2
  rename (∀ b o, _ → _) => hkE
  rename_i h2
  have hGlt : G < h2.objs.size := F2.ns.lt
  obtain ⟨oga, hoga⟩ := hgs
  have hgn : ∀ b, G ≤ b → g.get? b = none := fun b hb => Heap.get?_none_of_le (Nat.le_trans hG hb)
  have hgaG : ga ∉ [G] := fun h => absurd (List.mem_singleton.mp h) (Nat.ne_of_gt hga)
  have hgalt : ga < h2.objs.size := Heap.lt_size (N2 _ (hc2 _ _ hoga hgaG (hgn _ (Nat.le_of_lt hga)))).1
  have F3 : Fr g G h3 _ := F2.keeps hkE
  have N3 : News g G h3 cl := fun p hp => ⟨hkE _ _ (N2 p hp).1, (N2 p hp).2⟩
  obtain ⟨St, D, hst⟩ := str_draws (prog := PySem.Challenge.rw_kl0050_01.row.prog) (w := w) hit
  refine wpAny_of_eq (rfl : foldedSetIterable _ _ _ = pure _) ?_
  refine wpAny_pyIter_enum hen ?_
  intro p
  dsimp only
  have it0 : G ≤ h2.objs.size := Nat.le_of_lt hGlt
  have itg : h2.objs.size ≠ ga := Nat.ne_of_gt hgalt
  have e0 : G ≤ h2.objs.size + 1 := Nat.le_succ_of_le it0
  have eg : h2.objs.size + 1 ≠ ga := Nat.ne_of_gt (Nat.lt_succ_of_lt hgalt)
  have Ge : G ≠ h2.objs.size + 1 := Nat.ne_of_lt (Nat.lt_succ_of_lt hGlt)
  have Gi : G ≠ h2.objs.size := Nat.ne_of_lt hGlt
  have ei : h2.objs.size + 1 ≠ h2.objs.size := Nat.succ_ne_self _
  have S3 : GSince G ga s { s with heap := h3, toks := s.toks + 1 + 1 + 1 } := gsince (own := [G]) S0 hk hc2 (fun b hb => by rw [List.mem_singleton.mp hb]; exact ⟨Nat.le_refl _, Nat.ne_of_lt hga⟩) F3 N3
  clear hgalt hGlt N2 N3 F2 hit hc1 hc2 S0 hk hkE
  generalize h2.objs.size + 1 = e at *
  generalize h2.objs.size = it at *
  have W := fun (A' : Around) (hA : A'.handled = none) => WalksT.enumerateD (D A'.in1 hA) e ei (fun h => ei (List.mem_singleton.mp h)) (List.mem_singleton.mpr rfl)
  refine (show Seg _ _ _ _ (x.cps.size - 0) _ _ _ _ _ from ?_)
  refine seg_ind x.cps.size (fun i s₀ s₁ => ∃ m, Fr g G s₁.heap m ∧ m (Str.ofString "escape") = some (.bool false) ∧ (∃ old, IsEnum s₁.heap e it i old) ∧ St i s₁.heap ∧ GSince G ga s₀ s₁) ?step 0 s _ (Nat.zero_le _) ⟨_, F3, rfl, ⟨_, hen⟩, hst, S3⟩
  clear S3 F3 hst hen
  intro i s₀ s₁ k hk hi ⟨m, F4, hm, ⟨old, he⟩, hs4, hS4⟩ IH
  refine seg_forLoop ?_
  rcases Nat.lt_or_ge i x.cps.size with hlt | hge
  · obtain ⟨k', rfl⟩ : ∃ k', k = k' + 1 := ⟨k - 1, by omega⟩
    refine (W _ ?hA1).item i s₁ _ _ hlt ⟨⟨old, he⟩, hs4⟩ fun Tp vals h5 tk5 hP hsz hT hMid hk5 => ?_
    case hA1 => rfl
    dsimp only
    have hTw := (W ⟨none, 0, none, none, 0⟩ rfl).apart i Tp _ hMid
    refine box fun zG => ?_
    obtain ⟨t5, xv, ⟨c, u, hc, rfl⟩, rfl⟩ := hP
    refine zG ?_
    clear zG
    refine (W _ ?hA2).go _ _ _ i Tp _ _ _ hMid fun h6 hst6 hk6 => ?_
    case hA2 => rfl
    have hk4 := F4.keep
    have hGi : G ∉ [e, it] := fun h => by
      rcases List.mem_cons.mp h with h | h
      · exact Ge h
      · exact Gi (List.mem_singleton.mp h)
    have up6 : ∀ b o, b ∉ [e, it] → s₁.heap.get? b = some o → h6.get? b = some o := fun b o hb q => hk6 b o hb (hk5 b o hb q)
    have hn6 : h6.Ns G m := F4.ns.at' fun o q => up6 _ o hGi q
    refine box fun zG => ?_
    obtain ⟨oT, hoT, hcT, nT, hdT⟩ := hT
    refine zG ?_
    clear zG
    refine kcp_assign rfl ⟨oT, hk6 _ _ hTw hoT, hcT, nT, hdT⟩ rfl rfl rfl hn6 fun h7 tk7 hn7 hk7 => ?_
    dsimp only
    have hgi : ∀ b o, g.get? b = some o → b ≠ G ∧ b ∉ [e, it] := fun b o q => ⟨fun h => (by rw [h, hgn _ (Nat.le_refl _)] at q; cases q), fun h => (List.mem_cons.mp h).elim (fun h => (by rw [h, hgn _ e0] at q; cases q)) fun h => (by rw [List.mem_singleton.mp h, hgn _ it0] at q; cases q)⟩
    have F7 : Fr g G h7 _ := ⟨hn7, fun b o q => hk7 b o (hgi b o q).1 (up6 b o (hgi b o q).2 (F4.keep b o q)), hG⟩
    obtain ⟨cl, hc1, hc2⟩ := all_led g s₁.heap [G, e, it]
    refine box fun zG => ?_
    obtain ⟨⟨old', he6⟩, hst6'⟩ := hst6
    refine zG ?_
    clear zG
    obtain ⟨oit, hoit⟩ := (D ⟨none, 0, none, none, 0⟩ rfl).live _ _ hst6'
    have N7 : News g G h7 ((e, enumObj it ((i + 1 : Nat) : Int) old') :: (it, oit) :: cl) := by
      intro p hp
      rcases List.mem_cons.mp hp with rfl | hp
      · exact ⟨hk7 _ _ (Ne.symm Ge) he6, Ne.symm Ge, hgn _ e0⟩
      rcases List.mem_cons.mp hp with rfl | hp
      · exact ⟨hk7 _ _ (Ne.symm Gi) hoit, Ne.symm Gi, hgn _ it0⟩
      obtain ⟨q1, q2, q3⟩ := hc1 p hp
      exact ⟨hk7 _ _ (fun h => q2 (by rw [h]; exact .head _)) (up6 _ _ (fun h => q2 (.tail _ h)) q1), fun h => q2 (by rw [h]; exact .head _), q3⟩
    have hm7 : ∀ (v v' : Value), (fun z => if z = Str.ofString "ch" then some v else if z = Str.ofString "pos" then some v' else m z) = (fun z => if z = Str.ofString "ch" then some v else if z = Str.ofString "pos" then some v' else if z = Str.ofString "escape" then some (.bool false) else m z) := fun v v' => by
      funext z
      by_cases h : z = Str.ofString "escape"
      · rw [h, hm]; rfl
      · rw [if_neg h]
    rw [hm7] at F7
    refine seg_execs_cons (seg_If ?_)
    (repeat' (first | (k_unfold; (try dsimp only)) | (((fail_if_success (with_reducible refine Mine.stop_of (by constructor) ?_))); walk1) | (dsimp only; ((fail_if_success (with_reducible refine Mine.stop_of (by constructor) ?_))); walk1)))
    refine seg_execs_cons (seg_If ?_)
    (repeat' (first | (k_unfold; (try dsimp only)) | (((fail_if_success (with_reducible refine Mine.stop_of (by constructor) ?_))); walk1) | (dsimp only; ((fail_if_success (with_reducible refine Mine.stop_of (by constructor) ?_))); walk1)))
    · exfalso
      have e9 : (Str.ofString "\\" : Str) = ⟨#[92]⟩ := by decide +kernel
      have e8 := eq_of_beq (by assumption : ((⟨#[c]⟩ : Str) == Str.ofString "\\") = true)
      rw [e9] at e8
      injection e8 with e8
      have e7 : c = 92 := by simpa using e8
      exact hx c (List.mem_of_getElem? (i := i) (by simpa using hc)) e7
    · refine seg_execs_cons (seg_Expr_Yield rfl rfl rfl ?_)
      (repeat' (first | (k_unfold; (try dsimp only)) | (((fail_if_success (with_reducible refine Mine.stop_of (by constructor) ?_))); walk1) | (dsimp only; ((fail_if_success (with_reducible refine Mine.stop_of (by constructor) ?_))); walk1)))
      rename_i D8 h8 F8 N8 l8 kap hkap
      have F9 := F8
      refine box fun zG => ?_
      obtain ⟨oG, es, ep, hoG, hGd, hGk, hGf⟩ := F8.ns
      refine zG ?_
      clear zG
      refine ⟨[(G, oG), (e, enumObj it ((i + 1 : Nat) : Int) old'), (it, oit)], D8, i, c, t5, u, hc, by omega, rfl, ⟨_, (N8 _ (.head _)).1, rfl, _, rfl⟩, ?_, ?_, fun s'' h1 h2 => hkap .none s'' ?_⟩
      · refine gsince (s := s₁) (own := [G, e, it]) hS4 hk4 hc2 (fun b hb => ?_) F9 (news_sub N8 fun p hp => .tail _ (.tail _ (.tail _ hp)))
        rcases List.mem_cons.mp hb with rfl | hb
        · exact ⟨Nat.le_refl _, Nat.ne_of_lt hga⟩
        rcases List.mem_cons.mp hb with rfl | hb
        · exact ⟨e0, eg⟩
        rw [List.mem_singleton.mp hb]
        exact ⟨it0, itg⟩
      · intro p hp
        rcases List.mem_cons.mp hp with rfl | hp
        · exact ⟨hoG, Nat.le_refl _, Nat.ne_of_lt hga⟩
        rcases List.mem_cons.mp hp with rfl | hp
        · exact ⟨(N8 _ (.tail _ (.head _))).1, e0, eg⟩
        rw [List.mem_singleton.mp hp]
        exact ⟨(N8 _ (.tail _ (.tail _ (.head _)))).1, it0, itg⟩
      · refine seg_again rfl (IH k' rfl s'' s'' ⟨_, ⟨⟨oG, es, ep, h1 _ (.head _), hGd, hGk, hGf⟩, h2, hG⟩, rfl, ⟨old', h1 _ (.tail _ (.head _))⟩, (D ⟨none, 0, none, none, 0⟩ rfl).frame _ _ _ hst6' (fun b hb o q => ?_), ⟨_, _, rfl, fun _ _ _ q => q⟩⟩)
        rw [List.mem_singleton.mp hb] at q ⊢
        rw [hoit] at q
        cases q
        exact h1 _ (.tail _ (.tail _ (.head _)))
  · have hie : i = x.cps.size := Nat.le_antisymm hi hge
    subst hie
    have hk0 : k = 0 := by omega
    subst hk0
    refine (W _ ?hA3).done s₁ _ _ ⟨⟨old, he⟩, hs4⟩ fun h5 tk5 hk5 => ?_
    case hA3 => rfl
    dsimp only
    have hk4 := F4.keep
    have hGi : G ∉ [e, it] := fun h => by
      rcases List.mem_cons.mp h with h | h
      · exact Ge h
      · exact Gi (List.mem_singleton.mp h)
    have hgi : ∀ b o, g.get? b = some o → b ≠ G ∧ b ∉ [e, it] := fun b o q => ⟨fun h => (by rw [h, hgn _ (Nat.le_refl _)] at q; cases q), fun h => (List.mem_cons.mp h).elim (fun h => (by rw [h, hgn _ e0] at q; cases q)) fun h => (by rw [List.mem_singleton.mp h, hgn _ it0] at q; cases q)⟩
    have F5 : Fr g G h5 m := ⟨F4.ns.at' fun o q => hk5 _ o hGi q, fun b o q => hk5 b o (hgi b o q).2 (F4.keep b o q), hG⟩
    obtain ⟨cl, hc1, hc2⟩ := all_led g s₁.heap [G, e, it]
    have N5 : News g G h5 cl := fun p hp => by
      obtain ⟨q1, q2, q3⟩ := hc1 p hp
      exact ⟨hk5 _ _ (fun h => q2 (.tail _ h)) q1, fun h => q2 (by rw [h]; exact .head _), q3⟩
    have hm5 : m = (fun z => if z = Str.ofString "escape" then some (.bool false) else m z) := by
      funext z
      by_cases h : z = Str.ofString "escape"
      · rw [h, hm]; rfl
      · rw [if_neg h]
    rw [hm5] at F5
    refine seg_again rfl (seg_block_nil (seg_leaf (.ok .next) ?_))
    refine seg_execs_cons (seg_If ?_)
    (repeat' (first | (k_unfold; (try dsimp only)) | (((fail_if_success (with_reducible refine Mine.stop_of (by constructor) ?_))); walk1) | (dsimp only; ((fail_if_success (with_reducible refine Mine.stop_of (by constructor) ?_))); walk1)))
    rename Fr _ _ _ _ => F8
    rename News _ _ _ _ => N8
    refine seg_execs_nil (seg_execs_nil (seg_end (.ok (.ret .none)) ⟨rfl, rfl, gsince (s := s₁) (own := [G, e, it]) hS4 hk4 hc2 (fun b hb => ?_) F8 N8⟩))
    rcases List.mem_cons.mp hb with rfl | hb
    · exact ⟨Nat.le_refl _, Nat.ne_of_lt hga⟩
    rcases List.mem_cons.mp hb with rfl | hb
    · exact ⟨e0, eg⟩
    rw [List.mem_singleton.mp hb]
    exact ⟨it0, itg⟩
end
section
open PySem PySem.W PyProof.Rows PySem.Calls
set_option maxRecDepth 100000
set_option maxHeartbeats 1000000
noncomputable def chkL : List Nat → Int → Option Int
  | [], k => some k
  | c :: r, k => if c = 40 then chkL r (k + 1) else if k - 1 < 0 then none else chkL r (k - 1)
noncomputable def checkF (x : Str) : Bool := match chkL x.cps.toList 0 with | some k => decide (k = 0) | none => false
theorem allBare_set {a : Array GenState} {g : Nat} {y : GenState} (x : AllBare a) (hy : y.bare = true) : AllBare (a.setIfInBounds g y) := by
  intro z hz
  obtain ⟨i, hi, rfl⟩ := Array.mem_iff_getElem.mp hz
  rw [Array.getElem_setIfInBounds]
  split
  · exact hy
  · exact x _ (Array.getElem_mem _)
  · simpa using hi
noncomputable def GTurnEnd {σ : Type} (g : Heap) (L : Addr) (xs : List Str) (mp : σ → Map) (led : Led) (J : σ → Prop) (s : Shared) (g' : Array GenState) (Q : Flow → Shared → Prop) (f : Flow) (s₂ : Shared) : Prop :=
  match f with
  | .ret v => Q (.ret v) s₂
  | .brk => Q .next s₂
  | _ => ∃ (c' : σ) (h' : Heap) (tk : Nat) (m' : Map), s₂ = { s with heap := h', toks := tk, gens := g' } ∧ J c' ∧ Fr g L h' m' ∧ (∀ y, ksHas xs y = false → m' y = mp c' y) ∧ News g L h' led
theorem gturn_end {σ : Type} {g : Heap} {L : Addr} {xs : List Str} {mp : σ → Map} {led : Led} {J : σ → Prop} {s : Shared} {g' : Array GenState} {Q : Flow → Shared → Prop} (c' : σ) {h' : Heap} {tk : Nat} {m' : Map} (F : Fr g L h' m') {N' : Led} (N : News g L h' N') (hj : J c')
    (hm : ∀ y, ksHas xs y = false → m' y = mp c' y) (hN : ∀ p ∈ led, p ∈ N') : GTurnEnd g L xs mp led J s g' Q .next { s with heap := h', toks := tk, gens := g' } :=
  ⟨c', h', tk, m', rfl, hj, F, hm, news_sub N hN⟩
/-- a loop over a generator, whose names but one stay -/
theorem for_gen {prog : Program} {w : World} {A : Around} (hh : A.handled = none) {g : Heap} {env : Env} {G ga gn : Nat} {x : Str} {s : Shared} {m₀ : Map} {news : Led} {nm qn : Value} {oG : Obj} {gs : GenState}
    {a b : Str} {pa pb tp : PySem.Pos} {kk : Nat} {body : List Stmt} {Q : Flow → Shared → Prop} {E : Value → Shared → Prop} {σ : Type} (ps : σ → List (Str × Option Value)) (J : Nat → σ → Prop) (c₀ : σ)
    (hl : ∀ h : Heap, (∀ b o, g.get? b = some o → h.get? b = some o) → h.NoLimit) (hroom : A.depth < recursionLimit)
    (ha : env.kindOf a = some .local) (hb : env.kindOf b = some .local) (hp : (env.scope.kind == .class || (env.scope.kind == .module && env.locals != env.globals)) = false)
    (F : Fr g env.locals s.heap m₀) (N : News g env.locals s.heap ((ga, genObj gn nm qn) :: (G, oG) :: news)) (hlt : ∀ p ∈ news, p.1 < G) (hLG : env.locals < G) (hga : G < ga) (hgs : s.gens[gn]? = some gs)
    (hgo : ∀ s'' : Shared, s''.heap.get? G = some oG → (∃ o, s''.heap.get? ga = some o) → (∀ b o, g.get? b = some o → s''.heap.get? b = some o) → gs.Goes (model prog w) A.in1 (GR G ga) (GY g G ga x) x.cps.size (.send .none) s'')
    (hm : ∀ y, ksHas [a, b] y = false → m₀ y = bindP m₀ (ps c₀) y) (hj : J 0 c₀)
    (turn : ∀ i c cd (u : Map) t1 t2 h tk g' rest, x.cps[i]? = some cd → J i c → (∀ p ∈ rest, ∀ q ∈ news, p.1 ≠ q.1) → Fr g env.locals h (fun y => if y = b then some (.str ⟨#[cd]⟩ t2) else if y = a then some (.int i t1) else if ksHas [a, b] y = true then u y else bindP m₀ (ps c) y) → News g env.locals h (rest ++ news) → (AllBare s.gens → AllBare g') →
      wpAny (model prog w) A (execs body env) (GTurnEnd g env.locals [a, b] (fun c => bindP m₀ (ps c)) (rest ++ news) (J (i + 1)) s g' Q) E { s with heap := h, toks := tk, gens := g' })
    (done : ∀ c (u : Map) h tk g', J x.cps.size c → Fr g env.locals h (fun y => if ksHas [a, b] y = true then u y else bindP m₀ (ps c) y) → News g env.locals h news → (AllBare s.gens → AllBare g') → Q .next { s with heap := h, toks := tk, gens := g' }) :
    ForAtG prog w A env (.Tuple [.Name a pa, .Name b pb] kk tp) body Q E (.ref ga) s := by
  have hgn : ∀ b, G ≤ b → g.get? b = none := fun b hb => Heap.get?_none_of_le (Nat.le_trans F.above (Nat.le_trans (Nat.le_of_lt hLG) hb))
  refine ⟨fun n s₁ => ∃ (own : Led) (c : σ) (u : Map) (h : Heap) (tk : Nat) (g' : Array GenState) (gs : GenState), s₁ = { s with heap := h, toks := tk, gens := g' } ∧ n ≤ x.cps.size ∧ J (x.cps.size - n) c ∧
      Fr g env.locals h (fun y => if ksHas [a, b] y = true then u y else bindP m₀ (ps c) y) ∧ News g env.locals h (((ga, genObj gn nm qn) :: own) ++ news) ∧ (∀ p ∈ own, G ≤ p.1 ∧ p.1 ≠ ga) ∧ g'[gn]? = some gs ∧ (AllBare s.gens → AllBare g') ∧
      ∀ s'' : Shared, (∀ p ∈ own, s''.heap.get? p.1 = some p.2) → (∃ o, s''.heap.get? ga = some o) → (∀ b o, g.get? b = some o → s''.heap.get? b = some o) → gs.Goes (model prog w) A.in1 (GR G ga) (GY g G ga x) n (.send .none) s'',
    x.cps.size, ⟨[(G, oG)], c₀, m₀, s.heap, s.toks, s.gens, gs, rfl, Nat.le_refl _, by rw [Nat.sub_self]; exact hj, fr_anys hm F, N, fun p hp => ?_, hgs, id, fun s'' h1 h2 h3 => hgo s'' (h1 _ (.head _)) h2 h3⟩, ?_⟩
  · rw [List.mem_singleton.mp hp]; exact ⟨Nat.le_refl _, Nat.ne_of_lt hga⟩
  intro n s₁ zH1
  refine box fun zG => ?_
  obtain ⟨own, c, u, h, tk, g', gs', rfl, hn, hJ, F1, N1, ho, hg1, hb1, hgo1⟩ := zH1
  refine zG ?_
  clear zG
  have hgen : Heap.IsGen h ga gn := ⟨_, _, _, (N1 _ (.head _)).1, rfl, rfl, rfl⟩
  refine next_gen (P := fun n s₀ s₁ => n = 0 ∧ GSince G ga s₀ s₁) hh (hl _ F1.keep) hroom hgen hg1 (hgo1 _ (fun p hp => (N1 _ (List.mem_append.mpr (.inl (.tail _ hp)))).1) ⟨_, (N1 _ (.head _)).1⟩ F1.keep) (fun v s₂ gs₂ hbare hv => ?_) (fun s₂ hp' h' hk => ?_)
  · refine box fun zG => ?_
    obtain ⟨own', T, i, cd, t1, t2, hc, hi, rfl, hT, ⟨h2, tk2, rfl, hk2⟩, ho', hkap⟩ := hv
    refine zG ?_
    clear zG
    cases n with
    | zero => exact (hkap _ (fun p hp => (ho' p hp).1) fun b o q => hk2 b o (.inl (Nat.lt_of_lt_of_le (Heap.lt_size q) (Nat.le_trans F.above (Nat.le_of_lt hLG)))) (F1.keep b o q)).elim
    | succ n =>
      have hiN : x.cps.size - (n + 1) = i := by omega
      rw [hiN] at hJ
      have hgen2 : Heap.IsGen h2 ga gn := ⟨_, _, _, hk2 _ _ (.inr rfl) (N1 _ (.head _)).1, rfl, rfl, rfl⟩
      refine letGo_gen hgen2 ?_
      have F2 : Fr g env.locals h2 _ := ⟨F1.ns.at' fun o q => hk2 _ o (.inl hLG) q, fun b o q => hk2 b o (.inl (Nat.lt_of_lt_of_le (Heap.lt_size q) (Nat.le_trans F.above (Nat.le_of_lt hLG)))) (F1.keep b o q), F1.above⟩
      refine kcp_assign hh hT ha hb hp F2.ns fun h3 tk3 hn3 hk3 => ?_
      have F3 : Fr g env.locals h3 _ := ⟨hn3, fun b o q => hk3 b o (fun e => by
        have := Heap.lt_size q
        rw [e] at this
        exact absurd (Nat.lt_of_lt_of_le this F1.above) (Nat.lt_irrefl _)) (F2.keep b o q), F1.above⟩
      have keep3 : ∀ b o, b < G ∨ b = ga → b ≠ env.locals → h.get? b = some o → h3.get? b = some o := fun b o hb hL q => hk3 b o hL (hk2 b o hb q)
      have N3 : News g env.locals h3 (((ga, genObj gn nm qn) :: own') ++ news) := by
        intro p hp
        rcases List.mem_append.mp hp with hp | hp
        · rcases List.mem_cons.mp hp with rfl | hp
          · exact ⟨keep3 _ _ (.inr rfl) (N1 _ (.head _)).2.1 (N1 _ (.head _)).1, (N1 _ (.head _)).2⟩
          · obtain ⟨q1, q2, q3⟩ := ho' p hp
            have hpl : p.1 ≠ env.locals := Nat.ne_of_gt (Nat.lt_of_lt_of_le hLG q2)
            exact ⟨hk3 _ _ hpl q1, hpl, hgn _ q2⟩
        · have q := N1 p (List.mem_append.mpr (.inr hp))
          exact ⟨keep3 _ _ (.inl (hlt p hp)) q.2.1 q.1, q.2⟩
      refine wpAny_mono (turn i c cd u t1 t2 h3 tk3 _ _ hc hJ (fun p hp q hq e => ?_) F3 N3 fun hb0 => allBare_set (allBare_set (hb1 hb0) rfl) hbare) (fun f s₄ hf => ?_) fun _ _ e => e
      · rcases List.mem_cons.mp hp with rfl | hp
        · exact absurd (Nat.lt_trans (hlt q hq) hga) (by rw [← e]; exact Nat.lt_irrefl _)
        · exact absurd (Nat.lt_of_lt_of_le (hlt q hq) (ho' p hp).2.1) (by rw [e]; exact Nat.lt_irrefl _)
      · cases f with
        | ret v => exact hf
        | brk => exact hf
        | next =>
          refine box fun zG => ?_
          obtain ⟨c', h5, tk5, m5, rfl, hj5, F5, hm5, N5⟩ := hf
          refine zG ?_
          clear zG
          exact ⟨n, Nat.lt_succ_self _, own', c', m5, h5, tk5, _, gs₂, rfl, by omega, (by rw [show x.cps.size - n = i + 1 by omega]; exact hj5), fr_anys hm5 F5, N5, fun p hp => (ho' p hp).2, setGen_self (gs := .running) (setGen_self hg1), fun hb0 => allBare_set (allBare_set (hb1 hb0) rfl) hbare, fun s'' h1 _ h3 => hkap s'' h1 h3⟩
        | cont =>
          refine box fun zG => ?_
          obtain ⟨c', h5, tk5, m5, rfl, hj5, F5, hm5, N5⟩ := hf
          refine zG ?_
          clear zG
          exact ⟨n, Nat.lt_succ_self _, own', c', m5, h5, tk5, _, gs₂, rfl, by omega, (by rw [show x.cps.size - n = i + 1 by omega]; exact hj5), fr_anys hm5 F5, N5, fun p hp => (ho' p hp).2, setGen_self (gs := .running) (setGen_self hg1), fun hb0 => allBare_set (allBare_set (hb1 hb0) rfl) hbare, fun s'' h1 _ h3 => hkap s'' h1 h3⟩
  · refine box fun zG => ?_
    obtain ⟨rfl, h2, tk2, rfl, hk2⟩ := hp'
    refine zG ?_
    clear zG
    refine done c u h' tk2 _ (by simpa using hJ) ⟨F1.ns.at' fun o q => hk _ o (hk2 _ o (.inl hLG) q), fun b o q => hk _ _ (hk2 b o (.inl (Nat.lt_of_lt_of_le (Heap.lt_size q) (Nat.le_trans F.above (Nat.le_of_lt hLG)))) (F1.keep b o q)), F1.above⟩ (fun p hp => ?_) fun hb0 => allBare_set (allBare_set (hb1 hb0) rfl) rfl
    have q := N1 p (List.mem_append.mpr (.inr hp))
    exact ⟨hk _ _ (hk2 _ _ (.inl (hlt p hp)) q.1), q.2⟩
theorem chkL_cons {c : Nat} {r : List Nat} {k : Int} : chkL (c :: r) k = if c = 40 then chkL r (k + 1) else if k - 1 < 0 then none else chkL r (k - 1) := rfl
theorem look1 {k : Str} {v : Value} : (fun y => List.lookup y [(k, v)]) = fun y => if y = k then some v else none := by
  funext y
  by_cases h : y = k
  · rw [if_pos h, h]; simp [List.lookup]
  · rw [if_neg h]; simp only [List.lookup]; rw [beq_eq_false_iff_ne.mpr h]
theorem check (w : World) (mean mg mb) (x : Str) (tx : Tok) {news : Led} {dp un gd cn cs a ccd cl outer A₀ base h₀ L m s} {Q E : Value → Shared → Prop}
   (B : Below A₀ base outer h₀) (F : Fr h₀ L s.heap m) (X : (hd1.heap_1 w.params).In h₀) (N : News h₀ L s.heap news) (T : Top pT lT mean mg mb h₀) (hcs : cs.kind = .function)
   (hx : x.length ≤ 100 ∧ ∀ c ∈ x.cps.toList, c = 40 ∨ c = 41) (hd : dp + 8 < recursionLimit) (hu : un + 32 < cLine)
   (hret : ∀ h' tk' g', (AllBare s.gens → AllBare g') → Fr h₀ L h' m → News h₀ L h' news → Q (.bool (checkF x)) { s with heap := h', toks := tk', gens := g' }) :
   wpAny (model PySem.Challenge.rw_kl0050_01.row.prog w) (ktrTop dp un gd cn cs L a ccd cl outer) (call (.ref 114) [.str x tx]) Q E s := by
  revert X; k_fill; intro X
  refine wpAny_call ?_
  k_dflt cell_enter
  (repeat' (first | (k_unfold; (try dsimp only)) | (((fail_if_success (with_reducible refine Mine.stop_of (by constructor) ?_))); walk1) | (dsimp only; ((fail_if_success (with_reducible refine Mine.stop_of (by constructor) ?_))); walk1)))
  refine' strip w mean mg mb x _ ?k1 ?k2 ?k3 ?k4 ?k5 ?kK hx.1 ?hq ?kd ?ku ?kR
  (((case k1 => k_asm); (case k2 => k_asm); (case k3 => k_asm); (case k4 => k_asm); (case k5 => k_asm); (case kK => first | exact rfl | assumption); (case kd => ktr_room); (case ku => ktr_units)))
  case hq => intro h; have := hx.2 _ h; omega
  intro t1 h1 tk1 F1 N1
  (repeat' (first | (k_unfold; (try dsimp only)) | (((fail_if_success (with_reducible refine Mine.stop_of (by constructor) ?_))); walk1) | (dsimp only; ((fail_if_success (with_reducible refine Mine.stop_of (by constructor) ?_))); walk1)))
  refine forG ?_ (fun _ => rfl)
  (repeat' (first | (k_unfold; (try dsimp only)) | (((fail_if_success (with_reducible refine Mine.stop_of (by constructor) ?_))); walk1) | (dsimp only; ((fail_if_success (with_reducible refine Mine.stop_of (by constructor) ?_))); walk1)))
  refine wpAny_call ?_
  k_dflt (refine' code_gen ?k2 ?k3 ?k4 ?k5 ?k6 ?k7 ?k8 ?k9 ?kB ?_ ?c2 ?c3 ?c4 ?c5; (case k2 => k_asm); (case k3 => k_asm); (case k4 => k_asm); (case k5 => k_asm); (case k6 => k_is); (case k7 => k_is); (case k8 => ktr_room); (case k9 => exact BindsTo.of_eq rfl); (case c5 => decide); (case kB => exact locs rfl); (case c2 => exact rfl); (case c3 => exact rfl); (case c4 => exact rfl))
  intro G ga oG h2 tk2 nm qn F2 N2 hns hlt hLG hGa hh0
  dsimp only
  refine wpAny_pyIter_gen (g := s.gens.size) ?hg ?_
  case hg => exact ⟨_, _, _, (N2 _ (.head _)).1, rfl, rfl, rfl⟩
  rename Top _ _ _ _ _ _ => Tg
  rename (hd1.heap_1 w.params).In _ => Xg
  refine for_gen (σ := Int × Tok) (x := x) rfl (fun c => [(Str.ofString "opens", some (.int c.1 c.2))]) (fun i c => chkL (x.cps.toList.drop i) c.1 = chkL x.cps.toList 0 ∧ 0 ≤ c.1 ∧ c.1 ≤ i) ⟨0, _⟩ (fun h hk => Tg.nolimit.keeps hk) (by ktr_room) rfl rfl rfl F2 N2 hlt hLG hGa (Array.getElem?_push_size ..) ?hgo (by ((exact Mine.mpL (by repeat' (first | exact True.intro | refine And.intro rfl ?_)) (by (((intro y9 hy9); repeat (first | (with_reducible rfl) | (refine Mine.off_bind hy9 rfl ?_) | (refine Mine.off_step (Mine.off_ne hy9 rfl) ?_) | (refine Mine.off_step2 hy9 rfl ?_)))))))) ⟨rfl, Int.le_refl _, Int.le_refl _⟩ ?turn ?done
  case hgo =>
    intro s'' h3 h4 h5
    have hns' : h2.Ns G (fun y => List.lookup y [(Str.ofString "addr", Value.str x t1)]) := hns
    rw [look1] at hns'
    have hoG := (N2 _ (.tail _ (.head _))).1
    refine ⟨rfl, gen_goes w mean mg mb x t1 rfl Xg Tg (Nat.le_trans F2.above (Nat.le_of_lt hLG)) hGa (fun c hc => ?_) ?_ ?_ h5 (hns'.at' fun o q => ?_) h4⟩
    · have := hx.2 c hc; omega
    · show dp + 1 + 4 < _; omega
    · show un + 3 + 16 < _; omega
    · rw [hoG] at q; cases q; exact h3
  case turn =>
    intro i c cd u t3 t4 h tk g1 rest hc hJ hr F3 N3 hb
    obtain ⟨k, tk5⟩ := c
    obtain ⟨hJ1, hJ2, hJ3⟩ := hJ
    dsimp only at hJ1 hJ2 hJ3 F3
    have hc' : x.cps.toList[i]? = some cd := by simpa using hc
    have hcd := hx.2 cd (List.mem_of_getElem? hc')
    have hil : i < x.cps.toList.length := (List.getElem?_eq_some_iff.mp hc').1
    have hsz : x.cps.toList.length = x.length := by simp [Str.length]
    have hdr : x.cps.toList.drop i = cd :: x.cps.toList.drop (i + 1) := by
      rw [List.drop_eq_getElem_cons hil, (List.getElem?_eq_some_iff.mp hc').2]
    rw [hdr] at hJ1
    have e40 : (Str.ofString "(" : Str) = ⟨#[40]⟩ := by decide +kernel
    have e41 : (Str.ofString ")" : Str) = ⟨#[41]⟩ := by decide +kernel
    have k40 : ((⟨#[cd]⟩ : Str) == Str.ofString "(") = decide (cd = 40) := by
      rw [e40]; rcases hcd with rfl | rfl <;> decide +kernel
    have k41 : ((⟨#[cd]⟩ : Str) == Str.ofString ")") = decide (cd = 41) := by
      rw [e41]; rcases hcd with rfl | rfl <;> decide +kernel
    rw [chkL_cons] at hJ1
    (repeat' (first | (k_unfold; (try dsimp only)) | (((fail_if_success (with_reducible refine Mine.stop_of (by constructor) ?_))); walk1) | (dsimp only; ((fail_if_success (with_reducible refine Mine.stop_of (by constructor) ?_))); walk1)))
    · have hc1 : cd = 40 := of_decide_eq_true (k40.symm.trans (by assumption))
      rw [if_pos hc1] at hJ1
      rename Fr _ _ _ _ => F9
      rename News _ _ _ _ => N9
      exact gturn_end (k + 1, _) F9 N9 ⟨hJ1, by show 0 ≤ k + 1; omega, by show k + 1 ≤ ((i + 1 : Nat) : Int); omega⟩ (by ((exact Mine.mpL (by repeat' (first | exact True.intro | refine And.intro rfl ?_)) (by (((intro y9 hy9); repeat (first | (with_reducible rfl) | (refine Mine.off_bind hy9 rfl ?_) | (refine Mine.off_step (Mine.off_ne hy9 rfl) ?_) | (refine Mine.off_step2 hy9 rfl ?_)))))))) (fun p hp => hp)
    · have hc1 : ¬ cd = 40 := of_decide_eq_false (k40.symm.trans (by assumption))
      rw [if_neg hc1, if_pos (by assumption)] at hJ1
      unfold GTurnEnd
      dsimp only
      (repeat' (first | (k_unfold; (try dsimp only)) | (((fail_if_success (with_reducible refine Mine.stop_of (by constructor) ?_))); walk1) | (dsimp only; ((fail_if_success (with_reducible refine Mine.stop_of (by constructor) ?_))); walk1)))
      have e9 : checkF x = false := by unfold checkF; rw [← hJ1]
      rw [← e9]
      rename News _ _ _ _ => N9
      exact hret _ _ _ (fun h => hb (h.push rfl)) (by (first | k_asm | assumption)) (news_sub N9 fun p hp => List.mem_append.mpr (.inr hp))
    · have hc1 : ¬ cd = 40 := of_decide_eq_false (k40.symm.trans (by assumption))
      rw [if_neg hc1, if_neg (by assumption)] at hJ1
      rename Fr _ _ _ _ => F9
      rename News _ _ _ _ => N9
      exact gturn_end (k - 1, _) F9 N9 ⟨hJ1, by show 0 ≤ k - 1; omega, by show k - 1 ≤ ((i + 1 : Nat) : Int); omega⟩ (by ((exact Mine.mpL (by repeat' (first | exact True.intro | refine And.intro rfl ?_)) (by (((intro y9 hy9); repeat (first | (with_reducible rfl) | (refine Mine.off_bind hy9 rfl ?_) | (refine Mine.off_step (Mine.off_ne hy9 rfl) ?_) | (refine Mine.off_step2 hy9 rfl ?_)))))))) (fun p hp => hp)
    · exfalso
      have hc1 : ¬ cd = 40 := of_decide_eq_false (k40.symm.trans (by assumption))
      have hc2 : ¬ cd = 41 := of_decide_eq_false (k41.symm.trans (by assumption))
      omega
  case done =>
    intro c u h tk g1 hJ F3 N3 hb
    obtain ⟨k, tk5⟩ := c
    obtain ⟨hJ1, hJ2, hJ3⟩ := hJ
    dsimp only at hJ1 hJ2 hJ3 F3
    have hdr : x.cps.toList.drop x.cps.size = [] := List.drop_of_length_le (by simp)
    rw [hdr] at hJ1
    replace hJ1 : some k = chkL x.cps.toList 0 := hJ1
    have hsz : x.cps.size = x.length := rfl
    (repeat' (first | (k_unfold; (try dsimp only)) | (((fail_if_success (with_reducible refine Mine.stop_of (by constructor) ?_))); walk1) | (dsimp only; ((fail_if_success (with_reducible refine Mine.stop_of (by constructor) ?_))); walk1)))
    have e9 : checkF x = (k == 0) := by unfold checkF; rw [← hJ1]; rfl
    rw [← e9]
    exact hret _ _ _ (fun h => hb (h.push rfl)) (by (first | k_asm | assumption)) (by (first | k_asm | assumption))
end
section
open PySem PySem.W PyProof.Rows PySem.Calls
set_option maxRecDepth 100000
set_option maxHeartbeats 1000000
/-- the end of a turn that may change the generators -/
noncomputable def TurnG {σ : Type} (h₀ : Heap) (L : Addr) (xs : List Str) (mp : σ → Map) (led : σ → Led) (rest : Led) (adr : List Addr) (J : σ → Prop) (s : Shared) (Q : Flow → Shared → Prop) (f : Flow) (s₂ : Shared) : Prop :=
  match f with
  | .ret v => Q (.ret v) s₂
  | .brk => Q .next s₂
  | _ => ∃ (c' : σ) (h' : Heap) (tk : Nat) (g' : Array GenState) (m' : Map), s₂ = { s with heap := h', toks := tk, gens := g' } ∧ (AllBare s.gens → AllBare g') ∧ J c' ∧ Fr h₀ L h' m' ∧ (∀ y, ksHas xs y = false → m' y = mp c' y) ∧ News h₀ L h' (led c' ++ rest) ∧ (led c').map (·.1) = adr
theorem turnG_end {σ : Type} {h₀ : Heap} {L : Addr} {xs : List Str} {mp : σ → Map} {led : σ → Led} {rest : Led} {adr : List Addr} {J : σ → Prop} {s : Shared} {Q : Flow → Shared → Prop} (c' : σ) {h' : Heap} {tk : Nat} {g' : Array GenState} {m' : Map} (F : Fr h₀ L h' m') {N' : Led} (N : News h₀ L h' N') (hb : AllBare s.gens → AllBare g') (hj : J c')
    (hm : ∀ y, ksHas xs y = false → m' y = mp c' y) (hN : ∀ p ∈ led c' ++ rest, p ∈ N') (ha : (led c').map (·.1) = adr) : TurnG h₀ L xs mp led rest adr J s Q .next { s with heap := h', toks := tk, gens := g' } :=
  ⟨c', h', tk, g', m', rfl, hb, hj, F, hm, news_sub N hN, ha⟩
section
variable {prog : Program} {w : World} {A : Around} {E : Value → Shared → Prop} {s : Shared} {env : Env} {h₀ : Heap} {x : Str} {body : List Stmt} {Q : Flow → Shared → Prop}
theorem walksG {σ : Type} (xs : List Str) {I : Addr} {n : Nat} {P : Nat → Value → Prop} {St : Nat → Heap → Prop} {m₀ : Map} {news : Led} {px : PySem.Pos} (ps : σ → List (Str × Option Value)) (led : σ → Led) (J : Nat → σ → Prop) (c₀ : σ)
    (W : Walks prog w A I [I] [I] n P St) (live : ∀ i h, St i h → ∃ o, h.get? I = some o) (hst : St 0 s.heap) (hIL : I ≠ env.locals) (hI0 : h₀.get? I = none) (hIn : ∀ p ∈ news, p.1 ≠ I)
    (hx : env.kindOf x = some .local) (hp : (env.scope.kind == .class || (env.scope.kind == .module && env.locals != env.globals)) = false)
    (F : Fr h₀ env.locals s.heap m₀) (N : News h₀ env.locals s.heap news)
    (hl : led c₀ = news) (hm : ∀ y, ksHas xs y = false → m₀ y = bindP m₀ (ps c₀) y) (hj : J 0 c₀)
    (turn : ∀ i v c (u : Map) h tk g' rest, i < n → P i v → J i c → (led c).map (·.1) = news.map (·.1) → (∀ p ∈ rest, ∀ q ∈ led c, p.1 ≠ q.1) → (AllBare s.gens → AllBare g') → Fr h₀ env.locals h (fun y => if y = x then some v else if ksHas xs y = true then u y else bindP m₀ (ps c) y) → News h₀ env.locals h (led c ++ rest) →
      wpAny (model prog w) A (execs body env) (TurnG h₀ env.locals xs (fun c => bindP m₀ (ps c)) led rest (news.map (·.1)) (J (i + 1)) s Q) E { s with heap := h, toks := tk, gens := g' })
    (done : ∀ c (u : Map) h tk g', J n c → (led c).map (·.1) = news.map (·.1) → (AllBare s.gens → AllBare g') → Fr h₀ env.locals h (fun y => if ksHas xs y = true then u y else bindP m₀ (ps c) y) → News h₀ env.locals h (led c) → Q .next { s with heap := h, toks := tk, gens := g' }) :
    ForAt prog w A env (.Name x px) body Q E (.ref I) s := by
  refine ⟨fun k s₁ => ∃ (i : Nat) (c : σ) (u : Map) (h : Heap) (tk : Nat) (g' : Array GenState), k = n - i ∧ i ≤ n ∧ s₁ = { s with heap := h, toks := tk, gens := g' } ∧ St i h ∧ J i c ∧ (led c).map (·.1) = news.map (·.1) ∧ (AllBare s.gens → AllBare g') ∧
      Fr h₀ env.locals h (fun y => if ksHas xs y = true then u y else bindP m₀ (ps c) y) ∧ News h₀ env.locals h (led c), n,
    ⟨0, c₀, m₀, s.heap, s.toks, s.gens, rfl, Nat.zero_le _, rfl, hst, hj, by rw [hl], id, fr_anys hm F, hl ▸ N⟩, ?_⟩
  intro k s₁ zH1
  refine box fun zG => ?_
  obtain ⟨i, c, u, h, tk, g', rfl, hi, rfl, st, hJ, ha, hb, F1, N1⟩ := zH1
  refine zG ?_
  clear zG
  have hIc : ∀ q ∈ led c, q.1 ≠ I := fun q hq e => by
    have h1 : q.1 ∈ (led c).map (·.1) := List.mem_map.mpr ⟨q, hq, rfl⟩
    rw [ha] at h1
    obtain ⟨q', hq', e'⟩ := List.mem_map.mp h1
    exact hIn q' hq' (e'.trans e)
  have hnI : ∀ b, b ≠ I → b ∉ [I] := fun b hb hm => hb (List.mem_singleton.mp hm)
  have h0I : ∀ b o, h₀.get? b = some o → b ≠ I := fun b o e q => by rw [q, hI0] at e; cases e
  have h0L : ∀ b o, h₀.get? b = some o → b ≠ env.locals := fun b o e q => Nat.lt_irrefl _ (Nat.lt_of_lt_of_le (q ▸ Heap.lt_size e) F.above)
  rcases Nat.lt_or_ge i n with hlt | hge
  · refine W.item i _ _ _ hlt st fun v h1 tk1 hP st1 hk1 => ?_
    dsimp only
    refine wpAny_assign_Name (wpAny_storeName_local hx (F1.ns.at' fun o e => hk1 _ o (hnI _ (Ne.symm hIL)) e) (fun h2 hn2 hs2 => ?_) hp)
    obtain ⟨oI, hoI⟩ := live _ _ st1
    have up : ∀ b o, b ≠ I → b ≠ env.locals → h.get? b = some o → h2.get? b = some o := fun b o hb hL e => (hs2.2 b hL).trans (hk1 b o (hnI b hb) e)
    have F2 : Fr h₀ env.locals h2 _ := ⟨hn2, fun b o e => up b o (h0I b o e) (h0L b o e) (F1.keep b o e), F.above⟩
    have hI2 : h2.get? I = some oI := (hs2.2 I hIL).trans hoI
    have N2 : News h₀ env.locals h2 (led c ++ [(I, oI)]) := fun p hp => by
      rcases List.mem_append.mp hp with hp | hp
      · exact ⟨up _ _ (hIc p hp) (N1 p hp).2.1 (N1 p hp).1, (N1 p hp).2⟩
      · rw [List.mem_singleton.mp hp]; exact ⟨hI2, hIL, hI0⟩
    have st2 : St (i + 1) h2 := W.frame _ _ _ st1 fun b hb o e => by rw [List.mem_singleton.mp hb] at e ⊢; exact (hs2.2 I hIL).trans e
    refine wpAny_mono (turn i v c u h2 _ g' _ hlt hP hJ ha (fun p hp q hq e => hIc q hq (by rw [← e, List.mem_singleton.mp hp])) hb F2 N2) (fun f s₃ hf => ?_) fun _ _ e => e
    have fin : ∀ f, (f = .next ∨ f = .cont) → TurnG h₀ env.locals xs (fun c => bindP m₀ (ps c)) led [(I, oI)] (news.map (·.1)) (J (i + 1)) s Q f s₃ → ∃ m, m < n - i ∧ ∃ (i : Nat) (c : σ) (u : Map) (h : Heap) (tk : Nat) (g' : Array GenState), m = n - i ∧ i ≤ n ∧ s₃ = { s with heap := h, toks := tk, gens := g' } ∧ St i h ∧ J i c ∧ (led c).map (·.1) = news.map (·.1) ∧ (AllBare s.gens → AllBare g') ∧
        Fr h₀ env.locals h (fun y => if ksHas xs y = true then u y else bindP m₀ (ps c) y) ∧ News h₀ env.locals h (led c) := by
      intro f hf0 hf
      have hf' : ∃ (c' : σ) (h' : Heap) (tk : Nat) (g' : Array GenState) (m' : Map), s₃ = { s with heap := h', toks := tk, gens := g' } ∧ (AllBare s.gens → AllBare g') ∧ J (i + 1) c' ∧ Fr h₀ env.locals h' m' ∧ (∀ y, ksHas xs y = false → m' y = bindP m₀ (ps c') y) ∧ News h₀ env.locals h' (led c' ++ [(I, oI)]) ∧ (led c').map (·.1) = news.map (·.1) := by
        rcases hf0 with rfl | rfl <;> exact hf
      refine box fun zG => ?_
      obtain ⟨c', h', tk', g2, m', rfl, hb', hj', F', hm', N', ha'⟩ := hf'
      refine zG ?_
      clear zG
      refine ⟨n - (i + 1), by omega, i + 1, c', m', h', tk', g2, rfl, hlt, rfl, W.frame _ _ _ st2 (fun b hb o e => ?_), hj', ha', hb', fr_anys hm' F', fun p hp => N' p (List.mem_append.mpr (.inl hp))⟩
      rw [List.mem_singleton.mp hb] at e ⊢
      rw [hI2] at e
      cases e
      exact (N' _ (List.mem_append.mpr (.inr (.head _)))).1
    cases f with
    | ret v => exact hf
    | brk => exact hf
    | next => exact fin .next (.inl rfl) hf
    | cont => exact fin .cont (.inr rfl) hf
  · have hie : i = n := Nat.le_antisymm hi hge
    subst hie
    refine W.done _ _ _ st fun h1 tk1 hk1 => ?_
    exact done c u h1 tk1 g' hJ ha hb ⟨F1.ns.at' fun o e => hk1 _ o (hnI _ (Ne.symm hIL)) e, fun b o e => hk1 b o (hnI b (h0I b o e)) (F1.keep b o e), F.above⟩ fun p hp => ⟨hk1 _ _ (hnI _ (hIc p hp)) (N1 p hp).1, (N1 p hp).2⟩
theorem rangeG {σ : Type} (xs : List Str) {r : Addr} {n : Nat} {ta tb tc : Tok} {m₀ : Map} {news : Led} {px : PySem.Pos} (ps : σ → List (Str × Option Value)) (led : σ → Led) (J : Nat → σ → Prop) (c₀ : σ)
    (hh : A.handled = none) (hr : IsRange s.heap r 0 n 1 ta tb tc) (hn : n ≤ 10000) (hx : env.kindOf x = some .local) (hp : (env.scope.kind == .class || (env.scope.kind == .module && env.locals != env.globals)) = false)
    (F : Fr h₀ env.locals s.heap m₀) (N : News h₀ env.locals s.heap news)
    (hl : led c₀ = news) (hm : ∀ y, ksHas xs y = false → m₀ y = bindP m₀ (ps c₀) y) (hj : J 0 c₀)
    (turn : ∀ i t c (u : Map) h tk g' rest, i < n → J i c → (led c).map (·.1) = news.map (·.1) → (∀ p ∈ rest, ∀ q ∈ led c, p.1 ≠ q.1) → (AllBare s.gens → AllBare g') → Fr h₀ env.locals h (fun y => if y = x then some (.int i t) else if ksHas xs y = true then u y else bindP m₀ (ps c) y) → News h₀ env.locals h (led c ++ rest) →
      wpAny (model prog w) A (execs body env) (TurnG h₀ env.locals xs (fun c => bindP m₀ (ps c)) led rest (news.map (·.1)) (J (i + 1)) s Q) E { s with heap := h, toks := tk, gens := g' })
    (done : ∀ c (u : Map) h tk g', J n c → (led c).map (·.1) = news.map (·.1) → (AllBare s.gens → AllBare g') → Fr h₀ env.locals h (fun y => if ksHas xs y = true then u y else bindP m₀ (ps c) y) → News h₀ env.locals h (led c) → Q .next { s with heap := h, toks := tk, gens := g' }) :
    wpAny (model prog w) A (pyIter (.ref r)) (fun it s₂ => ForAt prog w A env (.Name x px) body Q E it s₂) E s := by
  have hsz : Builtin.Range.rangeSize 0 n 1 = n := by
    unfold Builtin.Range.rangeSize
    split <;> simp_all
    all_goals omega
  refine wpAny_pyIter_range hr ?_ ?_
  · unfold Builtin.Range.small
    rw [hsz]
    simp [Builtin.Range.rangeFitsLong]
    omega
  rw [hsz]
  refine walksG xs (s := { s with heap := s.heap.push _ }) ps led J c₀ (Walks.range hh s.heap.objs.size 0 1 n) (fun i h st => ⟨_, st⟩) ?_ (Nat.ne_of_gt F.ns.lt) (next_is_new F) (fun p hp => Nat.ne_of_lt (Heap.lt_size (N p hp).1)) hx hp (F.push _) (fun p hp => ⟨Heap.get?_push_of_some _ (N p hp).1, (N p hp).2⟩) hl hm hj ?_ ?_
  · have := Heap.get?_push_size s.heap (o := { cls := .type "range_iterator", data := .fields #[rawInt 0, rawInt n, rawInt 1] }) rfl
    simpa [IsRangeIter] using this
  · rintro i v c u h tk g' rest hi ⟨t, rfl⟩ hJ ha hr hb Fs Ns
    have e0 : (0 : Int) + (i : Int) * 1 = i := by omega
    rw [e0] at Fs
    exact turn i t c u h tk g' rest hi hJ ha hr hb Fs Ns
  · intro c u h tk g' hJ ha hb Fs Ns
    exact done c u h tk g' hJ ha hb Fs Ns
end
end
section
open PySem PySem.W PyProof.Rows PySem.Calls
set_option maxRecDepth 100000
set_option maxHeartbeats 1000000
noncomputable abbrev brs (x : Str) : Prop := ∀ c ∈ x.cps.toList, c = 40 ∨ c = 41
noncomputable def closed (x : Str) (r : Nat) : Str := x ++ Txt.mul (Str.ofString ")") r
theorem closed_brs {x : Str} (h : brs x) (r : Nat) : brs (closed x r) := by
  intro c hc
  have e41 : (Str.ofString ")" : Str) = ⟨#[41]⟩ := by decide +kernel
  have hc' : c ∈ (x.cps ++ (Txt.mul (Str.ofString ")") r).cps).toList := hc
  rw [Array.toList_append, List.mem_append, e41, mul_one_list] at hc'
  rcases hc' with h1 | h1
  · exact h c h1
  · exact .inr (List.eq_of_mem_replicate h1)
theorem closed_len (x : Str) (r : Nat) : (closed x r).length = x.length + r := by
  have e41 : (Str.ofString ")" : Str) = ⟨#[41]⟩ := by decide +kernel
  show (x.cps ++ (Txt.mul (Str.ofString ")") r).cps).size = _
  rw [Array.size_append, e41, ← Array.length_toList (xs := (Txt.mul ⟨#[41]⟩ (r : Int)).cps), mul_one_list, List.length_replicate]
  simp [Str.length]
noncomputable def riseGo (x : Str) : List Nat → Int
  | [] => 7
  | r :: l => if checkF (closed x r) = true then r else riseGo x l
noncomputable def riseF (x : Str) : Int := riseGo x (List.range 7)
theorem rise (w : World) (mean mg mb) (x : Str) (tx : Tok) {news : Led} {dp un gd cn cs a ccd cl outer A₀ base h₀ L m s} {Q E : Value → Shared → Prop}
   (B : Below A₀ base outer h₀) (F : Fr h₀ L s.heap m) (X : (hd1.heap_1 w.params).In h₀) (N : News h₀ L s.heap news) (T : Top pT lT mean mg mb h₀) (hcs : cs.kind = .function)
   (hx : x.length ≤ 80 ∧ brs x) (hd : dp + 16 < recursionLimit) (hu : un + 64 < cLine)
   (hret : ∀ (t : Tok) h' tk' g', (AllBare s.gens → AllBare g') → Fr h₀ L h' m → News h₀ L h' news → Q (.int (riseF x) t) { s with heap := h', toks := tk', gens := g' }) :
   wpAny (model PySem.Challenge.rw_kl0050_01.row.prog w) (ktrTop dp un gd cn cs L a ccd cl outer) (call (.ref 242) [.str x tx]) Q E s := by
  revert X; k_fill; intro X
  refine wpAny_call ?_
  k_dflt cell_enter
  (repeat' (first | (k_unfold; (try dsimp only)) | (((fail_if_success (with_reducible refine Mine.stop_of (by constructor) ?_))); walk1) | (dsimp only; ((fail_if_success (with_reducible refine Mine.stop_of (by constructor) ?_))); walk1)))
  refine forI ?_ (fun _ _ => rfl) (fun _ => rfl)
  (repeat' (first | (k_unfold; (try dsimp only)) | (((fail_if_success (with_reducible refine Mine.stop_of (by constructor) ?_))); walk1) | (dsimp only; ((fail_if_success (with_reducible refine Mine.stop_of (by constructor) ?_))); walk1)))
  refine rangeG [Str.ofString "rise"] (σ := Unit) (n := 7) (fun _ => []) (fun _ => news) (fun i _ => riseF x = riseGo x ((List.range 7).drop i)) () rfl (by assumption) (by decide) rfl rfl (by k_asm) (by k_asm) rfl (fun _ _ => rfl) rfl ?turn ?done
  case turn =>
    intro i t c u h tk g1 rest hi hJ ha hr hb F3 N3
    dsimp only at hJ F3 N3
    have hlz : (x ++ Txt.mul (Str.ofString ")") (i : Int)).length ≤ 100 := by
      have := closed_len x i
      unfold closed at this
      omega
    (repeat' (first | (k_unfold; (try dsimp only)) | (((fail_if_success (with_reducible refine Mine.stop_of (by constructor) ?_))); walk1) | (dsimp only; ((fail_if_success (with_reducible refine Mine.stop_of (by constructor) ?_))); walk1)))
    refine' check w mean mg mb (closed x i) _ ?k1 ?k2 ?k3 ?k4 ?k5 ?kK ⟨Nat.le_trans (Nat.le_of_eq (closed_len x i)) (by omega), closed_brs hx.2 i⟩ ?kd ?ku ?kR
    (((case k1 => k_asm); (case k2 => k_asm); (case k3 => k_asm); (case k4 => k_asm); (case k5 => k_asm); (case kK => first | exact rfl | assumption); (case kd => ktr_room); (case ku => ktr_units)))
    intro h5 tk5 g5 hb5 F5 N5
    dsimp only
    have hdr : (List.range 7).drop i = i :: (List.range 7).drop (i + 1) := by
      rw [List.drop_eq_getElem_cons (by simpa using hi)]; simp
    rw [hdr] at hJ
    replace hJ : riseF x = if checkF (closed x i) = true then (i : Int) else riseGo x ((List.range 7).drop (i + 1)) := hJ
    cases hch : checkF (closed x i) with
    | true =>
      rw [hch, if_pos rfl] at hJ
      (repeat' (first | (k_unfold; (try dsimp only)) | (((fail_if_success (with_reducible refine Mine.stop_of (by constructor) ?_))); walk1) | (dsimp only; ((fail_if_success (with_reducible refine Mine.stop_of (by constructor) ?_))); walk1)))
      unfold TurnG
      dsimp only
      (repeat' (first | (k_unfold; (try dsimp only)) | (((fail_if_success (with_reducible refine Mine.stop_of (by constructor) ?_))); walk1) | (dsimp only; ((fail_if_success (with_reducible refine Mine.stop_of (by constructor) ?_))); walk1)))
      rename News _ _ _ _ => N9
      rw [← hJ]
      exact hret _ _ _ _ (fun h => hb5 (hb h)) (by (first | k_asm | assumption)) (news_sub N9 fun p hp => List.mem_append.mpr (.inl hp))
    | false =>
      rw [hch, if_neg (by decide)] at hJ
      (repeat' (first | (k_unfold; (try dsimp only)) | (((fail_if_success (with_reducible refine Mine.stop_of (by constructor) ?_))); walk1) | (dsimp only; ((fail_if_success (with_reducible refine Mine.stop_of (by constructor) ?_))); walk1)))
      rename Fr _ _ _ _ => F9
      rename News _ _ _ _ => N9
      exact turnG_end () F9 N9 (fun h => hb5 (hb h)) hJ (by ((exact Mine.mpL (by repeat' (first | exact True.intro | refine And.intro rfl ?_)) (by (((intro y9 hy9); repeat (first | (with_reducible rfl) | (refine Mine.off_bind hy9 rfl ?_) | (refine Mine.off_step (Mine.off_ne hy9 rfl) ?_) | (refine Mine.off_step2 hy9 rfl ?_)))))))) (fun p hp => hp) rfl
  case done =>
    intro c u h tk g1 hJ ha hb F3 N3
    dsimp only at hJ F3 N3
    (repeat' (first | (k_unfold; (try dsimp only)) | (((fail_if_success (with_reducible refine Mine.stop_of (by constructor) ?_))); walk1) | (dsimp only; ((fail_if_success (with_reducible refine Mine.stop_of (by constructor) ?_))); walk1)))
    have e7 : riseF x = 7 := hJ
    rw [← e7]
    exact hret _ _ _ _ hb (by (first | k_asm | assumption)) (by (first | k_asm | assumption))
end
section
open PySem PySem.W PyProof.Rows PySem.Calls
set_option maxRecDepth 100000
set_option maxHeartbeats 1000000
noncomputable def frontF (x : Str) (f : Int) : Str := Txt.join (Str.ofString ")") ((Txt.split x (Str.ofString ")")).take (f + 1).toNat)
noncomputable def risesStep (x : Str) (rs : List Int) : List Int := if rs.sum < 6 then rs ++ [riseF (frontF x rs.sum)] else rs
noncomputable def risesG (x : Str) : Nat → List Int
  | 0 => []
  | i + 1 => risesStep x (risesG x i)
noncomputable def risesF (x : Str) : List Int := risesG x 6
theorem riseGo_bound (x : Str) : ∀ l : List Nat, (∀ r ∈ l, r ≤ 7) → 0 ≤ riseGo x l ∧ riseGo x l ≤ 7
  | [], _ => ⟨by show (0 : Int) ≤ 7; decide, by show (7 : Int) ≤ 7; decide⟩
  | r :: l, h => by
    unfold riseGo
    split
    · have := h r (.head _); omega
    · exact riseGo_bound x l fun r hr => h r (.tail _ hr)
theorem riseF_bound (x : Str) : 0 ≤ riseF x ∧ riseF x ≤ 7 := riseGo_bound x _ fun r hr => by have := List.mem_range.mp hr; omega
theorem risesG_bound (x : Str) : ∀ i, (risesG x i).length ≤ i ∧ 0 ≤ (risesG x i).sum ∧ (risesG x i).sum ≤ 13
  | 0 => ⟨Nat.le_refl _, by show (0 : Int) ≤ 0; decide, by show (0 : Int) ≤ 13; decide⟩
  | i + 1 => by
    have ih := risesG_bound x i
    have hb := riseF_bound (frontF x (risesG x i).sum)
    show (risesStep x (risesG x i)).length ≤ i + 1 ∧ 0 ≤ (risesStep x (risesG x i)).sum ∧ (risesStep x (risesG x i)).sum ≤ 13
    unfold risesStep
    split
    · rw [List.length_append, List.sum_append]
      simp only [List.length_cons, List.length_nil, List.sum_cons, List.sum_nil]
      omega
    · omega
theorem strs_upto {vs : List Value} {xs : List Str} (h : StrsAre vs xs) {y : Int} (h0 : 0 ≤ y) : StrsAre (slicePick vs.toArray none (some y) none).toList (xs.take y.toNat) := by
  have e : sliceBounds none (some y) none vs.toArray.size = (((0 : Nat) : Int), ((min y.toNat vs.toArray.size : Nat) : Int), 1) := by
    simp only [sliceBounds, Option.getD_none, show (1 : Int) > 0 by decide, if_true, if_neg (show ¬ (y < 0) by omega)]
    congr 1
    congr 1
    omega
  rw [kmk_pick_nat _ e]
  show StrsAre ((vs.drop 0).take (min y.toNat vs.toArray.size - 0)) _
  rw [List.drop_zero, Nat.sub_zero, List.size_toArray, kmk_take_min]
  exact h.take' _
theorem sum_le_len (k : Nat) : ∀ l : List Str, (∀ a ∈ l, a.length ≤ k) → (l.map (·.length)).sum ≤ l.length * k
  | [], _ => Nat.zero_le _
  | a :: l, h => by
    have ih := sum_le_len k l fun b hb => h b (.tail _ hb)
    have := h a (.head _)
    rw [List.map_cons, List.sum_cons, List.length_cons, Nat.succ_mul]
    omega
theorem nmT1 {h₀ h : Heap} {L : Addr} {p : Addr × Obj} {r : Led} (_ : News h₀ L h (p :: r)) : ∃ l, l = r := ⟨_, rfl⟩
theorem rises (w : World) (mean mg mb) (x : Str) (tx : Tok) {news : Led} {dp un gd cn cs a ccd cl outer A₀ base h₀ L m s} {Q E : Value → Shared → Prop}
   (B : Below A₀ base outer h₀) (F : Fr h₀ L s.heap m) (X : (hd1.heap_1 w.params).In h₀) (N : News h₀ L s.heap news) (T : Top pT lT mean mg mb h₀) (hcs : cs.kind = .function)
   (hx : x.length ≤ 80) (hsl : (Txt.split x (Str.ofString ")")).length ≤ 100) (hfr : ∀ f : Int, 0 ≤ f → f < 6 → (frontF x f).length ≤ 80 ∧ brs (frontF x f)) (hd : dp + 20 < recursionLimit) (hu : un + 80 < cLine)
   (hret : ∀ (r : Addr) (n : Nat) (ys : List Value) h' tk' g', (AllBare s.gens → AllBare g') → IntsAre ys (risesF x) → Fr h₀ L h' m → News h₀ L h' ((r, listOf ys.toArray n) :: news) → (∀ p ∈ news, p.1 ≠ r) → Q (.ref r) { s with heap := h', toks := tk', gens := g' }) :
   wpAny (model PySem.Challenge.rw_kl0050_01.row.prog w) (ktrTop dp un gd cn cs L a ccd cl outer) (call (.ref 249) [.str x tx]) Q E s := by
  revert X; k_fill; intro X
  refine wpAny_call ?_
  k_dflt cell_enter
  (repeat' (first | (k_unfold; (try dsimp only)) | (((fail_if_success (with_reducible refine Mine.stop_of (by constructor) ?_))); walk1) | (dsimp only; ((fail_if_success (with_reducible refine Mine.stop_of (by constructor) ?_))); walk1)))
  refine forI ?_ (fun _ _ => rfl) (fun _ => rfl)
  (repeat' (first | (k_unfold; (try dsimp only)) | (((fail_if_success (with_reducible refine Mine.stop_of (by constructor) ?_))); walk1) | (dsimp only; ((fail_if_success (with_reducible refine Mine.stop_of (by constructor) ?_))); walk1)))
  rename News _ _ _ _ => N3
  obtain ⟨tl, htl⟩ := nmT1 N3
  obtain ⟨R, hR⟩ := nm1 N3
  subst hR
  rename List (Str × Tok) => sp
  rename StrsAre _ _ => hsp
  rename (List.map _ _ = Txt.split _ _) => hsp2
  rename (∀ a, a ∈ List.map _ _ → _) => hlen
  refine rangeG [Str.ofString "turn", Str.ofString "fallen"] (σ := List Value × Nat) (n := 6) (fun _ => []) (fun c => (R, listOf c.1.toArray c.2) :: tl) (fun i c => IntsAre c.1 (risesG x i)) ⟨[], 0⟩ rfl (by assumption) (by decide) rfl rfl (by k_asm) N3 (by rw [htl]) (fun _ _ => rfl) .nil ?turn ?done
  case turn =>
    intro i t
    refine pr2 ?_
    intro vs nv u h tk g1 rest hi hJ ha hr hb F4 N4
    dsimp only at hJ F4 N4
    rw [htl] at N4
    obtain ⟨b1, b2, b3⟩ := risesG_bound x i
    have b4 := hJ.length
    (repeat' (first | (k_unfold; (try dsimp only)) | (((fail_if_success (with_reducible refine Mine.stop_of (by constructor) ?_))); walk1) | (dsimp only; ((fail_if_success (with_reducible refine Mine.stop_of (by constructor) ?_))); walk1)))
    · rename News _ _ _ _ => N5
      rename ((risesG x i).sum < 6) => hlt
      have hss : StrsAre (strValues sp) (Txt.split x (Str.ofString ")")) := hsp2 ▸ hsp
      refine join_listW (News.isList N5 (.head _)) (strs_upto hss (by omega)) (by decide) ?_ ?_
      · have h1 := sum_le_len x.length ((Txt.split x (Str.ofString ")")).take ((risesG x i).sum + 1).toNat) fun a ha => hlen a (by rw [hsp2]; exact List.mem_of_mem_take ha)
        have h2 : ((Txt.split x (Str.ofString ")")).take ((risesG x i).sum + 1).toNat).length ≤ 100 := Nat.le_trans (by rw [List.length_take]; exact Nat.min_le_right _ _) hsl
        have h3 := Nat.mul_le_mul h2 hx
        omega
      intro tj kj
      (repeat' (first | (k_unfold; (try dsimp only)) | (((fail_if_success (with_reducible refine Mine.stop_of (by constructor) ?_))); walk1) | (dsimp only; ((fail_if_success (with_reducible refine Mine.stop_of (by constructor) ?_))); walk1)))
      refine' rise w mean mg mb (frontF x (risesG x i).sum) _ ?k1 ?k2 ?k3 ?k4 ?k5 ?kK (hfr _ b2 hlt) ?kd ?ku ?kR
      (((case k1 => k_asm); (case k2 => k_asm); (case k3 => k_asm); (case k4 => k_asm); (case k5 => k_asm); (case kK => first | exact rfl | assumption); (case kd => ktr_room); (case ku => ktr_units)))
      intro t5 h5 tk5 g5 hb5 F5 N6
      dsimp only
      have N7 := news_sub N6 (fun p (hp : p ∈ _) => List.Mem.tail _ hp)
      clear N6
      (repeat' (first | (k_unfold; (try dsimp only)) | (((fail_if_success (with_reducible refine Mine.stop_of (by constructor) ?_))); walk1) | (dsimp only; ((fail_if_success (with_reducible refine Mine.stop_of (by constructor) ?_))); walk1)))
      rename Fr _ _ _ _ => F9
      rename News _ _ _ _ => N9
      refine turnG_end (vs ++ [Value.int (riseF (frontF x (risesG x i).sum)) t5], nv + 1) F9 N9 (fun h => hb5 (hb h)) ?_ (by ((exact Mine.mpL (by repeat' (first | exact True.intro | refine And.intro rfl ?_)) (by (((intro y9 hy9); repeat (first | (with_reducible rfl) | (refine Mine.off_bind hy9 rfl ?_) | (refine Mine.off_step (Mine.off_ne hy9 rfl) ?_) | (refine Mine.off_step2 hy9 rfl ?_)))))))) (fun p hp => ?_) (by rw [htl]; rfl)
      · show IntsAre _ (risesStep x (risesG x i))
        unfold risesStep
        rw [if_pos hlt]
        exact hJ.append (.cons _ _ .nil)
      · rw [htl] at hp; simpa using hp
    · rename Fr _ _ _ _ => F9
      rename News _ _ _ _ => N9
      refine turnG_end (vs, nv) F9 N9 hb ?_ (by ((exact Mine.mpL (by repeat' (first | exact True.intro | refine And.intro rfl ?_)) (by (((intro y9 hy9); repeat (first | (with_reducible rfl) | (refine Mine.off_bind hy9 rfl ?_) | (refine Mine.off_step (Mine.off_ne hy9 rfl) ?_) | (refine Mine.off_step2 hy9 rfl ?_)))))))) (fun p hp => by rw [htl] at hp; exact hp) (by rw [htl]; rfl)
      show IntsAre _ (risesStep x (risesG x i))
      unfold risesStep
      rw [if_neg (by assumption)]
      exact hJ
  case done =>
    refine pr2 ?_
    intro vs nv u h tk g1 hJ ha hb F4 N4
    dsimp only at hJ F4 N4
    rw [htl] at N4
    (repeat' (first | (k_unfold; (try dsimp only)) | (((fail_if_success (with_reducible refine Mine.stop_of (by constructor) ?_))); walk1) | (dsimp only; ((fail_if_success (with_reducible refine Mine.stop_of (by constructor) ?_))); walk1)))
    rename News _ _ _ _ => N9
    refine hret R nv vs _ _ _ hb hJ (by (first | k_asm | assumption)) (news_sub N9 fun p hp => ?_) ?_
    · rcases List.mem_cons.mp hp with rfl | hp
      · exact .head _
      · exact .tail _ (.tail _ hp)
    · k_all
end
section
open PySem PySem.W PyProof.Rows PySem.Calls
set_option maxRecDepth 100000
set_option maxHeartbeats 1000000
/-- the end of a turn that may change the generators and lengthen the ledger -/
noncomputable def TurnH {σ : Type} (h₀ : Heap) (L : Addr) (xs : List Str) (mp : σ → Map) (led : σ → Led) (rest : Led) (J : σ → Prop) (s : Shared) (Q : Flow → Shared → Prop) (f : Flow) (s₂ : Shared) : Prop :=
  match f with
  | .ret v => Q (.ret v) s₂
  | .brk => Q .next s₂
  | _ => ∃ (c' : σ) (h' : Heap) (tk : Nat) (g' : Array GenState) (m' : Map), s₂ = { s with heap := h', toks := tk, gens := g' } ∧ (AllBare s.gens → AllBare g') ∧ J c' ∧ Fr h₀ L h' m' ∧ (∀ y, ksHas xs y = false → m' y = mp c' y) ∧ News h₀ L h' (led c' ++ rest) ∧ ∀ p ∈ rest, ∀ q ∈ led c', p.1 ≠ q.1
theorem turnH_end {σ : Type} {h₀ : Heap} {L : Addr} {xs : List Str} {mp : σ → Map} {led : σ → Led} {rest : Led} {J : σ → Prop} {s : Shared} {Q : Flow → Shared → Prop} (c' : σ) {h' : Heap} {tk : Nat} {g' : Array GenState} {m' : Map} (F : Fr h₀ L h' m') {N' : Led} (N : News h₀ L h' N') (hb : AllBare s.gens → AllBare g') (hj : J c')
    (hm : ∀ y, ksHas xs y = false → m' y = mp c' y) (hN : ∀ p ∈ led c' ++ rest, p ∈ N') (ha : ∀ p ∈ rest, ∀ q ∈ led c', p.1 ≠ q.1) : TurnH h₀ L xs mp led rest J s Q .next { s with heap := h', toks := tk, gens := g' } :=
  ⟨c', h', tk, g', m', rfl, hb, hj, F, hm, news_sub N hN, ha⟩
section
variable {prog : Program} {w : World} {A : Around} {E : Value → Shared → Prop} {s : Shared} {env : Env} {h₀ : Heap} {x : Str} {body : List Stmt} {Q : Flow → Shared → Prop}
theorem walksH {σ : Type} (xs : List Str) {I : Addr} {n : Nat} {P : Nat → Value → Prop} {St : Nat → Heap → Prop} {m₀ : Map} {news : Led} {px : PySem.Pos} (ps : σ → List (Str × Option Value)) (led : σ → Led) (J : Nat → σ → Prop) (c₀ : σ)
    (W : Walks prog w A I [I] [I] n P St) (live : ∀ i h, St i h → ∃ o, h.get? I = some o) (hst : St 0 s.heap) (hIL : I ≠ env.locals) (hI0 : h₀.get? I = none) (hIn : ∀ p ∈ news, p.1 ≠ I)
    (hx : env.kindOf x = some .local) (hp : (env.scope.kind == .class || (env.scope.kind == .module && env.locals != env.globals)) = false)
    (F : Fr h₀ env.locals s.heap m₀) (N : News h₀ env.locals s.heap news)
    (hl : led c₀ = news) (hm : ∀ y, ksHas xs y = false → m₀ y = bindP m₀ (ps c₀) y) (hj : J 0 c₀)
    (turn : ∀ i v c (u : Map) h tk g' rest, i < n → P i v → J i c → (∀ p ∈ rest, ∀ q ∈ led c, p.1 ≠ q.1) → (AllBare s.gens → AllBare g') → Fr h₀ env.locals h (fun y => if y = x then some v else if ksHas xs y = true then u y else bindP m₀ (ps c) y) → News h₀ env.locals h (led c ++ rest) →
      wpAny (model prog w) A (execs body env) (TurnH h₀ env.locals xs (fun c => bindP m₀ (ps c)) led rest (J (i + 1)) s Q) E { s with heap := h, toks := tk, gens := g' })
    (done : ∀ c (u : Map) h tk g', J n c → (AllBare s.gens → AllBare g') → Fr h₀ env.locals h (fun y => if ksHas xs y = true then u y else bindP m₀ (ps c) y) → News h₀ env.locals h (led c) → Q .next { s with heap := h, toks := tk, gens := g' }) :
    ForAt prog w A env (.Name x px) body Q E (.ref I) s := by
  refine ⟨fun k s₁ => ∃ (i : Nat) (c : σ) (u : Map) (h : Heap) (tk : Nat) (g' : Array GenState), k = n - i ∧ i ≤ n ∧ s₁ = { s with heap := h, toks := tk, gens := g' } ∧ St i h ∧ J i c ∧ (∀ q ∈ led c, q.1 ≠ I) ∧ (AllBare s.gens → AllBare g') ∧
      Fr h₀ env.locals h (fun y => if ksHas xs y = true then u y else bindP m₀ (ps c) y) ∧ News h₀ env.locals h (led c), n,
    ⟨0, c₀, m₀, s.heap, s.toks, s.gens, rfl, Nat.zero_le _, rfl, hst, hj, hl ▸ hIn, id, fr_anys hm F, hl ▸ N⟩, ?_⟩
  intro k s₁ zH1
  refine box fun zG => ?_
  obtain ⟨i, c, u, h, tk, g', rfl, hi, rfl, st, hJ, hIc, hb, F1, N1⟩ := zH1
  refine zG ?_
  clear zG
  have hnI : ∀ b, b ≠ I → b ∉ [I] := fun b hb hm => hb (List.mem_singleton.mp hm)
  have h0I : ∀ b o, h₀.get? b = some o → b ≠ I := fun b o e q => by rw [q, hI0] at e; cases e
  have h0L : ∀ b o, h₀.get? b = some o → b ≠ env.locals := fun b o e q => Nat.lt_irrefl _ (Nat.lt_of_lt_of_le (q ▸ Heap.lt_size e) F.above)
  rcases Nat.lt_or_ge i n with hlt | hge
  · refine W.item i _ _ _ hlt st fun v h1 tk1 hP st1 hk1 => ?_
    dsimp only
    refine wpAny_assign_Name (wpAny_storeName_local hx (F1.ns.at' fun o e => hk1 _ o (hnI _ (Ne.symm hIL)) e) (fun h2 hn2 hs2 => ?_) hp)
    obtain ⟨oI, hoI⟩ := live _ _ st1
    have up : ∀ b o, b ≠ I → b ≠ env.locals → h.get? b = some o → h2.get? b = some o := fun b o hb hL e => (hs2.2 b hL).trans (hk1 b o (hnI b hb) e)
    have F2 : Fr h₀ env.locals h2 _ := ⟨hn2, fun b o e => up b o (h0I b o e) (h0L b o e) (F1.keep b o e), F.above⟩
    have hI2 : h2.get? I = some oI := (hs2.2 I hIL).trans hoI
    have N2 : News h₀ env.locals h2 (led c ++ [(I, oI)]) := fun p hp => by
      rcases List.mem_append.mp hp with hp | hp
      · exact ⟨up _ _ (hIc p hp) (N1 p hp).2.1 (N1 p hp).1, (N1 p hp).2⟩
      · rw [List.mem_singleton.mp hp]; exact ⟨hI2, hIL, hI0⟩
    have st2 : St (i + 1) h2 := W.frame _ _ _ st1 fun b hb o e => by rw [List.mem_singleton.mp hb] at e ⊢; exact (hs2.2 I hIL).trans e
    refine wpAny_mono (turn i v c u h2 _ g' _ hlt hP hJ (fun p hp q hq e => hIc q hq (by rw [← e, List.mem_singleton.mp hp])) hb F2 N2) (fun f s₃ hf => ?_) fun _ _ e => e
    have fin : ∀ f, (f = .next ∨ f = .cont) → TurnH h₀ env.locals xs (fun c => bindP m₀ (ps c)) led [(I, oI)] (J (i + 1)) s Q f s₃ → ∃ m, m < n - i ∧ ∃ (i : Nat) (c : σ) (u : Map) (h : Heap) (tk : Nat) (g' : Array GenState), m = n - i ∧ i ≤ n ∧ s₃ = { s with heap := h, toks := tk, gens := g' } ∧ St i h ∧ J i c ∧ (∀ q ∈ led c, q.1 ≠ I) ∧ (AllBare s.gens → AllBare g') ∧
        Fr h₀ env.locals h (fun y => if ksHas xs y = true then u y else bindP m₀ (ps c) y) ∧ News h₀ env.locals h (led c) := by
      intro f hf0 hf
      have hf' : ∃ (c' : σ) (h' : Heap) (tk : Nat) (g' : Array GenState) (m' : Map), s₃ = { s with heap := h', toks := tk, gens := g' } ∧ (AllBare s.gens → AllBare g') ∧ J (i + 1) c' ∧ Fr h₀ env.locals h' m' ∧ (∀ y, ksHas xs y = false → m' y = bindP m₀ (ps c') y) ∧ News h₀ env.locals h' (led c' ++ [(I, oI)]) ∧ ∀ p ∈ [(I, oI)], ∀ q ∈ led c', p.1 ≠ q.1 := by
        rcases hf0 with rfl | rfl <;> exact hf
      refine box fun zG => ?_
      obtain ⟨c', h', tk', g2, m', rfl, hb', hj', F', hm', N', ha'⟩ := hf'
      refine zG ?_
      clear zG
      refine ⟨n - (i + 1), by omega, i + 1, c', m', h', tk', g2, rfl, hlt, rfl, W.frame _ _ _ st2 (fun b hb o e => ?_), hj', fun q hq e => ha' _ (.head _) q hq e.symm, hb', fr_anys hm' F', fun p hp => N' p (List.mem_append.mpr (.inl hp))⟩
      rw [List.mem_singleton.mp hb] at e ⊢
      rw [hI2] at e
      cases e
      exact (N' _ (List.mem_append.mpr (.inr (.head _)))).1
    cases f with
    | ret v => exact hf
    | brk => exact hf
    | next => exact fin .next (.inl rfl) hf
    | cont => exact fin .cont (.inr rfl) hf
  · have hie : i = n := Nat.le_antisymm hi hge
    subst hie
    refine W.done _ _ _ st fun h1 tk1 hk1 => ?_
    exact done c u h1 tk1 g' hJ hb ⟨F1.ns.at' fun o e => hk1 _ o (hnI _ (Ne.symm hIL)) e, fun b o e => hk1 b o (hnI b (h0I b o e)) (F1.keep b o e), F.above⟩ fun p hp => ⟨hk1 _ _ (hnI _ (hIc p hp)) (N1 p hp).1, (N1 p hp).2⟩
theorem rangeH {σ : Type} (xs : List Str) {r : Addr} {n : Nat} {ta tb tc : Tok} {m₀ : Map} {news : Led} {px : PySem.Pos} (ps : σ → List (Str × Option Value)) (led : σ → Led) (J : Nat → σ → Prop) (c₀ : σ)
    (hh : A.handled = none) (hr : IsRange s.heap r 0 n 1 ta tb tc) (hn : n ≤ 10000) (hx : env.kindOf x = some .local) (hp : (env.scope.kind == .class || (env.scope.kind == .module && env.locals != env.globals)) = false)
    (F : Fr h₀ env.locals s.heap m₀) (N : News h₀ env.locals s.heap news)
    (hl : led c₀ = news) (hm : ∀ y, ksHas xs y = false → m₀ y = bindP m₀ (ps c₀) y) (hj : J 0 c₀)
    (turn : ∀ i t c (u : Map) h tk g' rest, i < n → J i c → (∀ p ∈ rest, ∀ q ∈ led c, p.1 ≠ q.1) → (AllBare s.gens → AllBare g') → Fr h₀ env.locals h (fun y => if y = x then some (.int i t) else if ksHas xs y = true then u y else bindP m₀ (ps c) y) → News h₀ env.locals h (led c ++ rest) →
      wpAny (model prog w) A (execs body env) (TurnH h₀ env.locals xs (fun c => bindP m₀ (ps c)) led rest (J (i + 1)) s Q) E { s with heap := h, toks := tk, gens := g' })
    (done : ∀ c (u : Map) h tk g', J n c → (AllBare s.gens → AllBare g') → Fr h₀ env.locals h (fun y => if ksHas xs y = true then u y else bindP m₀ (ps c) y) → News h₀ env.locals h (led c) → Q .next { s with heap := h, toks := tk, gens := g' }) :
    wpAny (model prog w) A (pyIter (.ref r)) (fun it s₂ => ForAt prog w A env (.Name x px) body Q E it s₂) E s := by
  have hsz : Builtin.Range.rangeSize 0 n 1 = n := by
    unfold Builtin.Range.rangeSize
    split <;> simp_all
    all_goals omega
  refine wpAny_pyIter_range hr ?_ ?_
  · unfold Builtin.Range.small
    rw [hsz]
    simp [Builtin.Range.rangeFitsLong]
    omega
  rw [hsz]
  refine walksH xs (s := { s with heap := s.heap.push _ }) ps led J c₀ (Walks.range hh s.heap.objs.size 0 1 n) (fun i h st => ⟨_, st⟩) ?_ (Nat.ne_of_gt F.ns.lt) (next_is_new F) (fun p hp => Nat.ne_of_lt (Heap.lt_size (N p hp).1)) hx hp (F.push _) (fun p hp => ⟨Heap.get?_push_of_some _ (N p hp).1, (N p hp).2⟩) hl hm hj ?_ ?_
  · have := Heap.get?_push_size s.heap (o := { cls := .type "range_iterator", data := .fields #[rawInt 0, rawInt n, rawInt 1] }) rfl
    simpa [IsRangeIter] using this
  · rintro i v c u h tk g' rest hi ⟨t, rfl⟩ hJ hr hb Fs Ns
    have e0 : (0 : Int) + (i : Int) * 1 = i := by omega
    rw [e0] at Fs
    exact turn i t c u h tk g' rest hi hJ hr hb Fs Ns
  · intro c u h tk g' hJ hb Fs Ns
    exact done c u h tk g' hJ hb Fs Ns
end
end
section
open PySem PySem.W PyProof.Rows PySem.Calls
set_option maxRecDepth 100000
set_option maxHeartbeats 3000000
noncomputable abbrev pcO (p : Addr × List Value × Nat) : Addr × Obj := (p.1, listOf p.2.1.toArray p.2.2)
noncomputable abbrev refV (p : Addr × List Value × Nat) : Value := .ref p.1
inductive PcsAre : List (Addr × List Value × Nat) → List (List Str) → Prop
  | nil : PcsAre [] []
  | cons {a : Addr} {vs : List Value} {n : Nat} {ss : List Str} {pcs : List (Addr × List Value × Nat)} {l : List (List Str)} : StrsAre vs ss → PcsAre pcs l → PcsAre ((a, vs, n) :: pcs) (ss :: l)
theorem nmC {h₀ h : Heap} {L D : Addr} {ys : List Value} {n : Nat} {r : Led} (_ : News h₀ L h ((D, listOf ys.toArray n) :: r)) : ∃ k : Nat × List Value, k.1 = n ∧ k.2 = ys := ⟨(n, ys), rfl, rfl⟩
theorem nmTok {h₀ h : Heap} {L : Addr} {k x : Str} {t : Tok} {r : Map} (_ : Fr h₀ L h (fun y => if y = k then some (.str x t) else r y)) : ∃ u : Tok × Str, u.1 = t ∧ u.2 = x := ⟨(t, x), rfl, rfl⟩
theorem PcsAre.append {pcs : List (Addr × List Value × Nat)} {l : List (List Str)} {a : Addr} {vs : List Value} {n : Nat} {ss : List Str} (h : PcsAre pcs l) (k : StrsAre vs ss) : PcsAre (pcs ++ [(a, vs, n)]) (l ++ [ss]) := by
  induction h with
  | nil => exact .cons k .nil
  | cons h1 _ ih => exact .cons h1 ih
noncomputable def cutSize (es : List Int) (i : Nat) : Int := es.getD (i : Int).toNat 0 + es.getD ((i : Int) + 1).toNat 0
noncomputable def cutG (es : List Int) (x : Str) : Nat → List (List Str) × Str
  | 0 => ([], x)
  | i + 1 => ((cutG es x i).1 ++ [signs (Txt.slice (cutG es x i).2 none (some (cutSize es i)))], Txt.slice (cutG es x i).2 (some (cutSize es i)) none)
noncomputable abbrev Sim := List (List Str) × Str × Int
noncomputable def simStep (u : Sim) : Option Sim :=
  match u.1[u.2.2.toNat]? with
  | some pc => match pc.getLast? with
    | some y => if 0 ≤ u.2.2 then some (u.1.set u.2.2.toNat pc.dropLast, u.2.1 ++ y, u.2.2 + (if (y == Str.ofString "f") = true then 1 else -1)) else none
    | none => none
  | none => none
noncomputable def simG (u : Sim) : Nat → Option Sim
  | 0 => some u
  | i + 1 => (simG u i).bind simStep
theorem simG_le {u : Sim} {n : Nat} : ∀ {k i : Nat}, i + k = n → (simG u n).isSome = true → (simG u i).isSome = true
  | 0, i, e, h => by rw [← e] at h; exact h
  | k + 1, i, e, h => by
    have h1 := simG_le (k := k) (i := i + 1) (by omega) h
    unfold simG at h1
    cases q : simG u i with
    | none => rw [q] at h1; exact h1
    | some _ => rfl
noncomputable abbrev cdL : Option (Addr × Obj) → Led
  | none => []
  | some p => [p]
structure WSt where
  pcs : List (Addr × List Value × Nat)
  path : Str
  tp : Tok
  lv : Int
  tv : Tok
  ts : Array Value
  cd : Option (Addr × Obj)
theorem PcsAre.get {pcs : List (Addr × List Value × Nat)} {l : List (List Str)} (h : PcsAre pcs l) : ∀ {k : Nat} {ss : List Str}, l[k]? = some ss → ∃ p, pcs[k]? = some p ∧ StrsAre p.2.1 ss := by
  induction h with
  | nil => intro k ss e; simp at e
  | cons h1 _ ih =>
    intro k ss e
    cases k with
    | zero => simp at e; subst e; exact ⟨_, rfl, h1⟩
    | succ k => simpa using ih (by simpa using e)
theorem PcsAre.set {pcs : List (Addr × List Value × Nat)} {l : List (List Str)} (h : PcsAre pcs l) : ∀ {k : Nat} {p : Addr × List Value × Nat} {ss : List Str}, StrsAre p.2.1 ss → PcsAre (pcs.set k p) (l.set k ss) := by
  induction h with
  | nil => intro k p ss _; exact .nil
  | cons h1 h2 ih =>
    intro k p ss e
    cases k with
    | zero => exact .cons e h2
    | succ k => exact .cons h1 (ih e)
theorem strs_last {vs : List Value} {ss : List Str} (h : StrsAre vs ss) : ∀ {y : Str}, ss.getLast? = some y → ∃ vs' t, vs = vs' ++ [.str y t] ∧ StrsAre vs' ss.dropLast := by
  induction h with
  | nil => intro y e; simp at e
  | @cons x t vs ys h1 ih =>
    intro y e
    cases h1 with
    | nil => simp at e; subst e; exact ⟨[], t, rfl, .nil⟩
    | @cons x2 t2 vs2 ys2 h2 =>
      obtain ⟨vs', t', e1, e2⟩ := ih (y := y) (by simpa [List.getLast?_cons_cons] using e)
      exact ⟨.str x t :: vs', t', by rw [e1]; rfl, by rw [List.dropLast_cons₂]; exact .cons x t e2⟩
theorem sim_here {pcs : List (Addr × List Value × Nat)} {l : List (List Str)} {path : Str} {lv : Int} (h : PcsAre pcs l) (hs : (simStep (l, path, lv)).isSome = true) :
    ∃ (p : Addr × List Value × Nat) (y : Str) (t : Tok) (vs : List Value), 0 ≤ lv ∧ pcs[lv.toNat]? = some p ∧ p.2.1 = vs ++ [.str y t] ∧ (∃ ss, l[lv.toNat]? = some ss ∧ StrsAre vs ss.dropLast ∧ y ∈ ss) ∧
      simStep (l, path, lv) = some (l.set lv.toNat ((l[lv.toNat]?.getD []).dropLast), path ++ y, lv + (if (y == Str.ofString "f") = true then 1 else -1)) := by
  unfold simStep at hs ⊢
  dsimp only at hs ⊢
  cases h1 : l[lv.toNat]? with
  | none => rw [h1] at hs; cases hs
  | some ss =>
    rw [h1] at hs
    dsimp only at hs ⊢
    cases h2 : ss.getLast? with
    | none => rw [h2] at hs; cases hs
    | some y =>
      rw [h2] at hs
      dsimp only at hs ⊢
      by_cases h3 : 0 ≤ lv
      · rw [if_pos h3]
        obtain ⟨p, hp, hps⟩ := h.get h1
        obtain ⟨vs, t, e1, e2⟩ := strs_last hps h2
        exact ⟨p, y, t, vs, h3, hp, e1, ⟨ss, rfl, e2, List.mem_of_getLast? h2⟩, rfl⟩
      · rw [if_neg h3] at hs; cases hs
noncomputable def Small (l : List (List Str)) : Prop := ∀ pc ∈ l, pc.length ≤ 100 ∧ ∀ y ∈ pc, y.length ≤ 1
theorem signs_small {x : Str} (h : x.length ≤ 100) : (signs x).length ≤ 100 ∧ ∀ y ∈ signs x, y.length ≤ 1 := by
  refine ⟨by rw [signs_length]; exact h, fun y hy => ?_⟩
  unfold signs at hy
  obtain ⟨n, _, rfl⟩ := List.mem_map.mp hy
  exact Nat.le_refl 1
theorem cut_small {es : List Int} {x : Str} (hx : x.length ≤ 100) : ∀ i, Small (cutG es x i).1 ∧ (cutG es x i).2.length ≤ 100
  | 0 => ⟨(fun pc (h : pc ∈ ([] : List (List Str))) => nomatch h), hx⟩
  | i + 1 => by
    have ih := cut_small (es := es) hx i
    refine ⟨fun pc h => ?_, Nat.le_trans (Txt.slice_le _ _ _) ih.2⟩
    rcases List.mem_append.mp h with h | h
    · exact ih.1 pc h
    · rw [List.mem_singleton.mp h]
      exact signs_small (Nat.le_trans (Txt.slice_le _ _ _) ih.2)
theorem mem_set' {α : Type} {l : List α} {k : Nat} {a b : α} (h : b ∈ l.set k a) : b = a ∨ b ∈ l := by
  rcases List.mem_or_eq_of_mem_set h with h | h
  · exact .inr h
  · exact .inl h
theorem step_small {u v : Sim} (h : Small u.1) (e : simStep u = some v) : Small v.1 := by
  unfold simStep at e
  cases h1 : u.1[u.2.2.toNat]? with
  | none => rw [h1] at e; cases e
  | some pc =>
    rw [h1] at e
    dsimp only at e
    cases h2 : pc.getLast? with
    | none => rw [h2] at e; cases e
    | some y =>
      rw [h2] at e
      dsimp only at e
      split at e
      · cases e
        intro q hq
        have hp := h pc (List.mem_of_getElem? h1)
        rcases mem_set' hq with rfl | hq
        · exact ⟨by rw [List.length_dropLast]; omega, fun y hy => hp.2 y (List.dropLast_subset _ hy)⟩
        · exact h q hq
      · cases e
theorem sim_small {u : Sim} (h : Small u.1) : ∀ {i : Nat} {v : Sim}, simG u i = some v → Small v.1
  | 0, v, e => by cases e; exact h
  | i + 1, v, e => by
    unfold simG at e
    cases q : simG u i with
    | none => rw [q] at e; cases e
    | some r =>
      rw [q] at e
      exact step_small (sim_small h q) e
theorem strs_len {vs : List Value} {ss : List Str} (h : StrsAre vs ss) : vs.length = ss.length := by
  induction h with
  | nil => rfl
  | cons _ _ _ ih => simp [ih]
theorem map_set_same {α β : Type} (f : α → β) {p' : α} : ∀ {l : List α} {k : Nat} {p : α}, l[k]? = some p → f p' = f p → (l.set k p').map f = l.map f
  | [], _, _, _, _ => rfl
  | _ :: _, 0, _, e, h => by simp at e; subst e; simp [h]
  | x :: l, k + 1, p, e, h => by
    have e' : l[k]? = some p := by simpa using e
    simp [map_set_same f e' h]
theorem nmL {h₀ h : Heap} {L : Addr} {k1 k2 x : Str} {v : Int} {t1 t2 : Tok} {r : Map} (_ : Fr h₀ L h (fun y => if y = k1 then some (.int v t1) else if y = k2 then some (.str x t2) else r y)) : ∃ (a b : Tok) (c : Int), a = t1 ∧ b = t2 ∧ c = v := ⟨_, _, _, rfl, rfl, rfl⟩
theorem nmCq {h₀ h : Heap} {L : Addr} {p : Addr × Obj} {c : Addr} {oc : Obj} {r : Led} (_ : News h₀ L h (p :: (c, oc) :: r)) : ∃ a : Addr, a = c := ⟨_, rfl⟩
theorem nmOq {h₀ h : Heap} {L : Addr} {p : Addr × Obj} {c : Addr} {oc : Obj} {r : Led} (_ : News h₀ L h (p :: (c, oc) :: r)) : ∃ a : Obj, a = oc := ⟨_, rfl⟩
theorem pcs_nil {pcs : List (Addr × List Value × Nat)} {l : List (List Str)} (h : PcsAre pcs l) (hl : ∀ pc ∈ l, pc = []) : ∀ q ∈ pcs, q.2.1 = [] := by
  induction h with
  | nil => exact fun q hq => nomatch hq
  | cons h1 _ ih =>
    intro q hq
    rcases List.mem_cons.mp hq with rfl | hq
    · have e := hl _ (.head _)
      subst e
      cases h1
      rfl
    · exact ih (fun pc hpc => hl pc (.tail _ hpc)) q hq
theorem nmT2 {h₀ h : Heap} {L : Addr} {k1 k2 x : Str} {v : Int} {t1 t2 : Tok} {r : Map} (_ : Fr h₀ L h (fun y => if y = k1 then some (.int v t1) else if y = k2 then some (.str x t2) else r y)) : ∃ a b : Tok, a = t1 ∧ b = t2 := ⟨_, _, rfl, rfl⟩
theorem nm8 {h₀ h : Heap} {L : Addr} {p0 p1 p2 p3 p4 q t z : Addr × Obj} {a b : Led} (_ : News h₀ L h (p0 :: p1 :: p2 :: p3 :: p4 :: q :: t :: z :: (a ++ b))) : ∃ l : Led, l = q :: z :: a := ⟨_, rfl⟩
theorem viaKey {T P : Prop} (mn : T) (br : T → P) : P := br mn
theorem walk (w : World) (mean mg mb) (x : Str) (tx : Tok)(l : Addr) (vs : List Value) (nn : Nat) (ns : List Int) {news : Led} {dp un gd cn cs a ccd cl outer A₀ base h₀ L m s} {Q E : Value → Shared → Prop}
   (B : Below A₀ base outer h₀) (F : Fr h₀ L s.heap m) (X : (hd1.heap_1 w.params).In h₀) (N : News h₀ L s.heap ((258, tabObj #[]) :: (l, listOf vs.toArray nn) :: news)) (T : Top pT lT mean mg mb h₀) (C : CodeHd base 260 258) (hcs : cs.kind = .function) (h258 : ∀ p ∈ news, p.1 ≠ 258) (hl258 : l ≠ 258)
   (hi : IntsAre vs ns) (hx : x.length ≤ 100) (hn : ns.length ≤ 12) (fin : List (List Str)) (pth : Str) (flv : Int) (hsim : simG ((cutG ([0] ++ ns ++ [0]) x (ns.length + 1)).1, Str.ofString "", 0) 12 = some (fin, pth, flv)) (hfin : ∀ pc ∈ fin, pc = []) (hd : dp + 20 < recursionLimit) (hu : un + 80 < cLine)
   (hret : ∀ (t : Tok) h' tk' g' ps', (AllBare s.gens → AllBare g') → Fr h₀ L h' m → News h₀ L h' ((258, tabObj ps') :: (l, listOf vs.toArray nn) :: news) → Q (.str pth t) { s with heap := h', toks := tk', gens := g' }) :
   wpAny (model PySem.Challenge.rw_kl0050_01.row.prog w) (ktrTop dp un gd cn cs L a ccd cl outer) (call (.ref 261) [.str x tx, .ref l]) Q E s := by
  revert X; k_fill; intro X
  refine wpAny_call ?_
  k_dflt (((refine' code_defC ?k1 ?k2 ?k3 ?k4 ?k5 ?kA ?kF ?kK ?k6 ?k7 ?k8 ?k9 ?kB ?kD ?_ ?c2 ?c3 ?c4; (case kA => exact rfl); (case kF => exact rfl); (case kK => first | assumption | exact rfl); (case k1 => k_asm); (case k2 => k_asm); (case k3 => k_asm); (case k4 => k_asm); (case k5 => k_asm); (case k6 => k_is); (case k7 => k_is); (case k8 => ktr_room); (case k9 => exact BindsTo.of_eq rfl); (case kB => exact rfl); (case kD => decide +kernel); (case c2 => exact rfl); (case c3 => exact rfl); (case c4 => exact rfl); k_whole; intro g' L' h' tk' cells' FG' F' N' Y' B' X' T' l1; (try k_lt l1); k_cells Y'; (try simp only [List.cons_append, List.nil_append] at N'); (try dsimp only); (try k_lift B'); (try k_fold))))
  (repeat' (first | (k_unfold; (try dsimp only)) | (((fail_if_success (with_reducible refine Mine.stop_of (by constructor) ?_))); walk1) | (dsimp only; ((fail_if_success (with_reducible refine Mine.stop_of (by constructor) ?_))); walk1)))
  refine forI ?_ (fun _ _ => rfl) (fun _ => rfl)
  (repeat' (first | (k_unfold; (try dsimp only)) | (((fail_if_success (with_reducible refine Mine.stop_of (by constructor) ?_))); walk1) | (dsimp only; ((fail_if_success (with_reducible refine Mine.stop_of (by constructor) ?_))); walk1)))
  rename News _ _ _ _ => N3
  rename_i P _ _ _ _ _ _ _ _ _ _ _ _ _ _ _
  rename IntsAre _ _ => hes0
  refine box fun zG => ?_
  obtain ⟨tl, htl⟩ := nmT1 N3
  obtain ⟨es, hes⟩ : ∃ es, es = [0] ++ ns ++ [0] := ⟨_, rfl⟩
  refine zG ?_
  clear zG
  have hPn : ∀ p ∈ news, p.1 ≠ P := allLt_ne ‹_ ∧ _ ∧ _ ∧ _ ∧ _ ∧ _ ∧ _ ∧ AllLt P news›.2.2.2.2.2.2.2
  rw [← hes] at hes0
  have hel : es.length = ns.length + 2 := by rw [hes]; simp
  rename IsRange _ _ _ _ _ _ _ _ => hrg
  have hrg' := hrg
  rw [← Int.natCast_succ] at hrg'
  refine rangeH [Str.ofString "k", Str.ofString "size"] (σ := List (Addr × List Value × Nat) × Nat × Str × Tok) (n := ns.length + 1) (fun c => [(Str.ofString "row", some (.str c.2.2.1 c.2.2.2))]) (fun c => (P, listOf (c.1.map refV).toArray c.2.1) :: (tl ++ c.1.map pcO)) (fun i c => c.1.length = i ∧ c.2.2.1.length ≤ 100 ∧ (∀ q ∈ c.1, q.1 ≠ P ∧ ∀ p ∈ tl, p.1 ≠ q.1) ∧ (c.1.map (·.1)).Nodup ∧ PcsAre c.1 (cutG es x i).1 ∧ c.2.2.1 = (cutG es x i).2) ⟨[], 0, x, tx⟩ rfl hrg' (by omega) rfl rfl (by k_asm) N3 (by rw [htl]; simp) ?hm ?j0 ?turn ?done
  case hm => ((exact Mine.mpL (by repeat' (first | exact True.intro | refine And.intro rfl ?_)) (by (((intro y9 hy9); repeat (first | (with_reducible rfl) | (refine Mine.off_bind hy9 rfl ?_) | (refine Mine.off_step (Mine.off_ne hy9 rfl) ?_) | (refine Mine.off_step2 hy9 rfl ?_)))))))
  case j0 => exact ⟨rfl, hx, (fun q (h : q ∈ ([] : List (Addr × List Value × Nat))) => nomatch h), List.Pairwise.nil, PcsAre.nil, rfl⟩
  case turn =>
    intro i t
    refine pr4 ?_
    intro pcs cnt rw rt u h tk g1 rest hi2 hJ hr hb F4 N4
    dsimp only at hJ F4 N4
    rw [htl] at N4
    simp only [List.cons_append, List.append_assoc] at N4
    refine box fun zG => ?_
    obtain ⟨hJ1, hJ2, hJ3, hJ4, hJ5, hJ6⟩ := hJ
    obtain ⟨L4, hL4⟩ := nmAll N4
    refine zG ?_
    clear zG
    have hPp : ∀ p ∈ pcs.map pcO, p.1 ≠ P := fun p hp => by
      obtain ⟨q, hq, rfl⟩ := List.mem_map.mp hp
      exact (hJ3 q hq).1
    have hPr : ∀ p ∈ rest, p.1 ≠ P := fun p hp => hr p hp _ (.head _)
    have hsz : (pcs.map refV).toArray.size ≤ 100 := by rw [List.size_toArray, List.length_map]; omega
    have hi3 : (i : Int) < (es.length : Int) := by omega
    have hi4 : (i : Int) + 1 < (es.length : Int) := by omega
    (repeat' (first | (k_unfold; (try dsimp only)) | (((fail_if_success (with_reducible refine Mine.stop_of (by constructor) ?_))); (fail_if_success (with_reducible show wpAny _ _ (call (Value.type _) _) _ _ _)); walk1) | (dsimp only; ((fail_if_success (with_reducible refine Mine.stop_of (by constructor) ?_))); (fail_if_success (with_reducible show wpAny _ _ (call (Value.type _) _) _ _ _)); walk1)))
    (refine' Mine.list_str_led ?qhh ?qF ?qN ?qz ?_; (case qhh => with_unfolding_all rfl); (case qF => k_asm); (case qN => k_asm); (case qz => (first | exact (by decide) | kl_room | ((try simp only [List.size_toArray, sizeLine]); first | assumption | omega))))
    intro D5 h' tk' ys' n' F' N' l1 hs'
    (try k_lt l1)
    (repeat' (first | (k_unfold; (try dsimp only)) | (((fail_if_success (with_reducible refine Mine.stop_of (by constructor) ?_))); walk1) | (dsimp only; ((fail_if_success (with_reducible refine Mine.stop_of (by constructor) ?_))); walk1)))
    rename Fr _ _ _ _ => F9
    rename News _ _ _ _ => N9
    rename StrsAre _ _ => hs5
    have hal : ∀ p ∈ L4, p.1 ≠ D5 := by rw [hL4]; exact allLt_ne (by assumption)
    refine box fun zG => ?_
    obtain ⟨⟨n5, ys5⟩, hn5, hys5⟩ := nmC N9
    obtain ⟨⟨t5, x5⟩, ht5, hx5⟩ := nmTok F9
    refine zG ?_
    clear zG
    dsimp only at hn5 hys5 ht5 hx5
    rw [← hn5, ← hys5] at N9
    rw [← hys5] at hs5
    rw [← ht5, ← hx5] at F9
    have hx6 : x5 = Txt.slice rw (some (cutSize es i)) none := hx5
    have hal1 := fun p (h : p ∈ ((P, listOf (pcs.map refV).toArray cnt) : Addr × Obj) :: (tl ++ (pcs.map pcO ++ rest))) => hal p (by rw [hL4, htl] at *; simpa using h)
    refine turnH_end (pcs ++ [(D5, ys5, n5)], cnt + 1, x5, t5) F9 N9 hb ⟨?_, ?_, ?_, ?_, ?_, ?_⟩ (by ((exact Mine.mpL (by repeat' (first | exact True.intro | refine And.intro rfl ?_)) (by (((intro y9 hy9); repeat (first | (with_reducible rfl) | (refine Mine.off_bind hy9 rfl ?_) | (refine Mine.off_step (Mine.off_ne hy9 rfl) ?_) | (refine Mine.off_step2 hy9 rfl ?_)))))))) ?_ ?_
    · show (pcs ++ [(D5, ys5, n5)]).length = i + 1
      rw [List.length_append, hJ1]; rfl
    · show x5.length ≤ 100
      rw [hx6]; exact Nat.le_trans (Txt.slice_le _ _ _) hJ2
    · intro q hq
      rcases List.mem_append.mp hq with h | h
      · exact hJ3 q h
      · rw [List.mem_singleton.mp h]
        exact ⟨(hal1 _ (.head _)).symm, fun p hp => hal1 p (.tail _ (List.mem_append.mpr (.inl hp)))⟩
    · show (List.map (·.1) (pcs ++ [(D5, ys5, n5)])).Nodup
      rw [List.map_append]
      refine List.pairwise_append.mpr ⟨hJ4, List.pairwise_singleton _ _, fun a ha b hb => ?_⟩
      obtain ⟨q, hq, rfl⟩ := List.mem_map.mp ha
      rw [List.mem_singleton.mp hb]
      exact hal1 (pcO q) (.tail _ (List.mem_append.mpr (.inr (List.mem_append.mpr (.inl (List.mem_map.mpr ⟨q, hq, rfl⟩))))))
    · show PcsAre (pcs ++ [(D5, ys5, n5)]) ((cutG es x i).1 ++ [_])
      refine hJ5.append ?_
      rw [← hJ6]; exact hs5
    · show x5 = Txt.slice (cutG es x i).2 _ _
      rw [hx6, hJ6]
    · intro p hp
      have e5 : (List.map refV (pcs ++ [(D5, ys5, n5)])).toArray = (List.map refV pcs).toArray.push (.ref D5) := by simp
      dsimp only at hp
      rw [e5] at hp
      suffices h : p ∈ ((D5, listOf ys5.toArray n5) : Addr × Obj) :: (P, listOf ((List.map refV pcs).toArray.push (.ref D5)) (cnt + 1)) :: (tl ++ (pcs.map pcO ++ rest)) by
        rw [htl] at h; simpa using h
      rcases List.mem_append.mp hp with hp | hp
      · rcases List.mem_cons.mp hp with rfl | hp
        · exact .tail _ (.head _)
        · rcases List.mem_append.mp hp with hp | hp
          · exact .tail _ (.tail _ (List.mem_append.mpr (.inl hp)))
          · rw [List.map_append] at hp
            rcases List.mem_append.mp hp with hp | hp
            · exact .tail _ (.tail _ (List.mem_append.mpr (.inr (List.mem_append.mpr (.inl hp)))))
            · rw [List.mem_singleton.mp hp]; exact .head _
      · exact .tail _ (.tail _ (List.mem_append.mpr (.inr (List.mem_append.mpr (.inr hp)))))
    · intro p hp q hq
      dsimp only at hq
      rcases List.mem_cons.mp hq with rfl | hq
      · exact hPr p hp
      · rcases List.mem_append.mp hq with hq | hq
        · exact hr p hp q (.tail _ (List.mem_append.mpr (.inl hq)))
        · rw [List.map_append] at hq
          rcases List.mem_append.mp hq with hq | hq
          · exact hr p hp q (.tail _ (List.mem_append.mpr (.inr hq)))
          · rw [List.mem_singleton.mp hq]
            exact hal1 p (.tail _ (List.mem_append.mpr (.inr (List.mem_append.mpr (.inr hp)))))
  case done =>
    refine pr4 ?_
    intro pcs cnt rw rt u h tk g1 hJ hb F4 N4
    dsimp only at hJ F4 N4
    rw [htl] at N4
    simp only [List.cons_append, List.append_assoc] at N4
    have hJ1 := hJ.1
    have hJ2 := hJ.2.1
    have hJ3 := hJ.2.2.1
    have hJ4 := hJ.2.2.2.1
    have hJ5 := hJ.2.2.2.2.1
    have hJ6 := hJ.2.2.2.2.2
    clear hJ
    (repeat' (first | (k_unfold; (try dsimp only)) | (((fail_if_success (with_reducible refine Mine.stop_of (by constructor) ?_))); walk1) | (dsimp only; ((fail_if_success (with_reducible refine Mine.stop_of (by constructor) ?_))); walk1)))
    refine forI ?_ (fun _ _ => rfl) (fun _ => rfl)
    (repeat' (first | (k_unfold; (try dsimp only)) | (((fail_if_success (with_reducible refine Mine.stop_of (by constructor) ?_))); walk1) | (dsimp only; ((fail_if_success (with_reducible refine Mine.stop_of (by constructor) ?_))); walk1)))
    rename News _ _ _ _ => N5
    rename Fr _ _ _ _ => F5
    rename IsRange _ _ _ _ _ _ _ _ => hrg2
    have hmp : ∀ p ∈ pcs.map pcO, p.1 ≠ P ∧ ∀ q ∈ tl, q.1 ≠ p.1 := fun p hp => by
      obtain ⟨q, hq, rfl⟩ := List.mem_map.mp hp
      exact hJ3 q hq
    refine box fun zG => ?_
    obtain ⟨tA, tB, htA, htB⟩ := nmT2 F5
    obtain ⟨tl3, htl3⟩ := nm8 N5
    refine zG ?_
    clear zG
    rw [← htA, ← htB] at F5
    have ht3 : ∀ p ∈ tl3, p ∈ tl := by
      rw [htl, htl3]
      exact sub_cons (by k_mem) (sub_cons (by k_mem) (fun p hp => by
        iterate 7 apply List.Mem.tail
        exact hp))
    have N6 : News _ _ _ ((258, tabObj #[]) :: (P, listOf (pcs.map refV).toArray cnt) :: (tl3 ++ (pcs.map pcO ++ []))) := news_sub N5 (by
      rw [htl3, List.append_nil]
      exact sub_cons (by k_mem) (sub_cons (by k_mem) (sub_cons (by k_mem) (sub_cons (by k_mem) (fun p hp => by
        iterate 8 apply List.Mem.tail
        exact hp)))))
    refine rangeH [Str.ofString "turn", Str.ofString "step", Str.ofString "name"] (σ := WSt) (n := 12) (fun c => [(Str.ofString "path", some (.str c.path c.tp)), (Str.ofString "level", some (.int c.lv c.tv))]) (fun c => (258, tabObj c.ts) :: (P, listOf (c.pcs.map refV).toArray cnt) :: (tl3 ++ (c.pcs.map pcO ++ cdL c.cd)))
      (fun i c => (∃ u, simG ((cutG es x (ns.length + 1)).1, Str.ofString "", 0) i = some u ∧ PcsAre c.pcs u.1 ∧ c.path = u.2.1 ∧ c.lv = u.2.2) ∧ c.pcs.map (·.1) = pcs.map (·.1) ∧ c.path.length ≤ i ∧ -(i : Int) ≤ c.lv ∧ c.lv ≤ i ∧
        ((c.ts = #[] ∧ c.cd = none) ∨ ∃ c' oc vs t, c.cd = some (c', oc) ∧ c.ts = #[rawInt 228, rawInt 43, .ref c'] ∧ (∀ q ∈ pcs, q.1 ≠ c') ∧ c' ≠ P ∧ c' ≠ 258 ∧ (∀ q ∈ tl3, q.1 ≠ c') ∧ oc.data = .fields vs ∧ vs[1]? = some (.str (Str.ofString "_law_walk.<locals>.<lambda>") t))) ⟨pcs, Str.ofString "", tB, 0, tA, #[], none⟩ rfl hrg2 (by decide) rfl rfl F5 N6 rfl ?hm ?j0 ?turn ?done
    case hm => ((exact Mine.mpL (by repeat' (first | exact True.intro | refine And.intro rfl ?_)) (by (((intro y9 hy9); repeat (first | (with_reducible rfl) | (refine Mine.off_bind hy9 rfl ?_) | (refine Mine.off_step (Mine.off_ne hy9 rfl) ?_) | (refine Mine.off_step2 hy9 rfl ?_)))))))
    case j0 => exact ⟨⟨_, rfl, hJ1 ▸ hJ5, rfl, rfl⟩, rfl, by show (Str.ofString "").length ≤ 0; decide +kernel, by show -((0 : Nat) : Int) ≤ 0; decide, by show (0 : Int) ≤ ((0 : Nat) : Int); decide, .inl ⟨rfl, rfl⟩⟩
    case turn =>
      rintro i t ⟨pcs2, path, tp, lv, tv, ts, cd⟩ u h tk g2 rest hi2 hK hr hb2 F7 N7
      dsimp only at hK F7 N7
      refine box fun zG => ?_
      obtain ⟨⟨⟨vp, vpath, vlv⟩, hK1, hK2, hK3, hK4⟩, hK5, hK6, hK7, hK8, hK9⟩ := hK
      dsimp only at hK2 hK3 hK4
      subst hK3 hK4
      refine zG ?_
      clear zG
      have h5P : ∀ p ∈ pcs2.map pcO, p.1 ≠ P ∧ ∀ q ∈ tl, q.1 ≠ p.1 := fun p hp => by
        obtain ⟨q, hq, rfl⟩ := List.mem_map.mp hp
        have h1 : q.1 ∈ pcs.map (·.1) := by rw [← hK5]; exact List.mem_map.mpr ⟨q, hq, rfl⟩
        obtain ⟨q', hq', e⟩ := List.mem_map.mp h1
        rw [show (pcO q).1 = q'.1 from e.symm]
        exact hJ3 q' hq'
      have h5a : ∀ p ∈ pcs2.map pcO, p.1 ≠ P := fun p hp => (h5P p hp).1
      have h5b : ∀ p ∈ pcs2.map pcO, p.1 ≠ 258 := fun p hp e => (h5P p hp).2 (258, tabObj #[]) (by rw [htl]; first | k_mem | simp) e.symm
      have h5c : ∀ p ∈ pcs2.map pcO, p.1 ≠ l := fun p hp e => (h5P p hp).2 (l, listOf vs.toArray nn) (by rw [htl]; first | k_mem | simp) e.symm
      have hr258 : ∀ p ∈ rest, p.1 ≠ 258 := fun p hp => hr p hp _ (.head _)
      have hrP : ∀ p ∈ rest, p.1 ≠ P := fun p hp => hr p hp _ (.tail _ (.head _))
      have hst : (simG ((cutG es x (ns.length + 1)).1, Str.ofString "", 0) (i + 1)).isSome = true := simG_le (k := 11 - i) (n := 12) (by omega) (by rw [hes, hsim]; rfl)
      have hst2 : simG ((cutG es x (ns.length + 1)).1, Str.ofString "", 0) (i + 1) = simStep (vp, path, lv) := by
        show (simG _ i).bind simStep = _
        rw [hK1]; rfl
      rw [hst2] at hst
      have hsml : Small vp := sim_small (cut_small hx _).1 hK1
      refine box fun zG => ?_
      obtain ⟨p5, y5, ty5, vs5, h51, h52, h53, ⟨ss5, h541, h542, h543⟩, h55⟩ := sim_here hK2 hst
      refine zG ?_
      clear zG
      rw [h55] at hst2
      have hss5 := hsml ss5 (List.mem_of_getElem? h541)
      have hvs5 : vs5.length ≤ 100 := by rw [strs_len h542, List.length_dropLast]; omega
      have hyl : y5.length ≤ 1 := hss5.2 y5 h543
      revert hK9
      apply viaKey (T := ∀ (fa cq : Addr) (ocq : Obj) (ct : Value) (vs9 : Array Value) (t9 : Tok) (hz : Heap) (tkz : Nat), Fr _ _ hz _ → News _ _ hz ((fa, _) :: (cq, ocq) :: (258, tabObj #[rawInt 228, rawInt 43, .ref cq]) :: (P, listOf (pcs2.map refV).toArray cnt) :: _) → cq ≠ P → cq ≠ 258 → (∀ q ∈ tl3, q.1 ≠ cq) → (∀ q ∈ pcs2.map pcO, q.1 ≠ cq) → (∀ q ∈ rest, q.1 ≠ cq) → (pcO p5).1 < fa → ocq.data = .fields vs9 → vs9[1]? = some (.str (Str.ofString "_law_walk.<locals>.<lambda>") t9) → wpAny _ _ (call (.ref 86) [.int lv tv, .ref fa]) _ _ { s with heap := hz, gens := g2, toks := tkz })
      case br =>
        intro key hK9
        refine box fun zG => ?_
        rcases hK9 with ⟨hts, hcd⟩ | ⟨cq, ocq, vs9, t9, hcd, hts, hcqp, hcqP, hcq258, hcqtl, hod, hvs⟩
        · refine zG ?_
          clear zG
          rw [hts, hcd] at N7
          rw [htl3] at N7
          simp only [List.cons_append, List.append_assoc, List.nil_append] at N7
          (repeat' (first | (k_unfold; (try dsimp only)) | (((fail_if_success (with_reducible refine Mine.stop_of (by constructor) ?_))); walk1) | (dsimp only; ((fail_if_success (with_reducible refine Mine.stop_of (by constructor) ?_))); walk1)))
          rename News _ _ _ _ => N8
          rename_i fa cq ocq _ _ _ _ _ _ _ _ _ _
          have hl1 := ‹258 < cq ∧ P < _ ∧ _ ∧ _ ∧ AllLt _ (news ++ (List.map pcO pcs2 ++ rest))›
          have hcqP : cq ≠ P := Nat.ne_of_gt hl1.2.1
          have hcq258 : cq ≠ 258 := Nat.ne_of_gt hl1.1
          have hcqtl : ∀ q ∈ tl3, q.1 ≠ cq := by
            rw [htl3]
            intro q hq
            rcases List.mem_cons.mp hq with rfl | hq
            · exact Nat.ne_of_lt hl1.2.2.1
            · rcases List.mem_cons.mp hq with rfl | hq
              · exact Nat.ne_of_lt hl1.2.2.2.1
              · exact Nat.ne_of_lt (allLt_lt hl1.2.2.2.2 _ (List.mem_append.mpr (.inl hq)))
          have hcq1 : ∀ q ∈ pcs2.map pcO, q.1 ≠ cq := fun q hq => Nat.ne_of_lt (allLt_lt hl1.2.2.2.2 _ (List.mem_append.mpr (.inr (List.mem_append.mpr (.inl hq)))))
          have hcqr : ∀ q ∈ rest, q.1 ≠ cq := fun q hq => Nat.ne_of_lt (allLt_lt hl1.2.2.2.2 _ (List.mem_append.mpr (.inr (List.mem_append.mpr (.inr hq)))))
          have hm50 : pcO p5 ∈ news ++ (List.map pcO pcs2 ++ rest) := List.mem_append.mpr (.inr (List.mem_append.mpr (.inl (List.mem_map.mpr ⟨p5, List.mem_of_getElem? h52, rfl⟩))))
          have hp5f : (pcO p5).1 < fa := Nat.lt_trans (allLt_lt hl1.2.2.2.2 _ hm50) (by assumption)
          rw [Array.empty_append] at N8
          rename Value => ct
          rename Array Value => vz
          exact key fa cq ocq ct vz _ _ _ (by assumption) N8 hcqP hcq258 hcqtl hcq1 hcqr hp5f (by assumption) (by assumption)
        · refine zG ?_
          clear zG
          rw [hts, hcd] at N7
          rw [hcd] at hr
          have N7b : News _ _ _ ((cq, ocq) :: (258, tabObj #[rawInt 228, rawInt 43, .ref cq]) :: (P, listOf (pcs2.map refV).toArray cnt) :: (tl3 ++ (pcs2.map pcO ++ rest))) := news_sub N7 (by
            intro p hp
            rcases List.mem_cons.mp hp with rfl | hp
            · exact List.mem_append.mpr (.inl (.tail _ (.tail _ (List.mem_append.mpr (.inr (List.mem_append.mpr (.inr (.head _))))))))
            · rcases List.mem_cons.mp hp with rfl | hp
              · exact List.mem_append.mpr (.inl (.head _))
              · rcases List.mem_cons.mp hp with rfl | hp
                · exact List.mem_append.mpr (.inl (.tail _ (.head _)))
                · rcases List.mem_append.mp hp with hp | hp
                  · exact List.mem_append.mpr (.inl (.tail _ (.tail _ (List.mem_append.mpr (.inl hp)))))
                  · rcases List.mem_append.mp hp with hp | hp
                    · exact List.mem_append.mpr (.inl (.tail _ (.tail _ (List.mem_append.mpr (.inr (List.mem_append.mpr (.inl hp)))))))
                    · exact List.mem_append.mpr (.inr hp))
          clear N7
          rw [htl3] at N7b
          simp only [List.cons_append] at N7b
          have hcqr : ∀ q ∈ rest, q.1 ≠ cq := fun q hq => hr q hq (cq, ocq) (.tail _ (.tail _ (List.mem_append.mpr (.inr (List.mem_append.mpr (.inr (.head _)))))))
          have hcq1 : ∀ q ∈ pcs2.map pcO, q.1 ≠ cq := fun q hq => by
            obtain ⟨q', hq', rfl⟩ := List.mem_map.mp hq
            have h1 : q'.1 ∈ pcs.map (·.1) := by rw [← hK5]; exact List.mem_map.mpr ⟨q', hq', rfl⟩
            obtain ⟨q2, hq2, e⟩ := List.mem_map.mp h1
            show q'.1 ≠ cq
            rw [← e]
            exact hcqp q2 hq2
          (repeat' (first | (k_unfold; (try dsimp only)) | (((fail_if_success (with_reducible refine Mine.stop_of (by constructor) ?_))); walk1) | (dsimp only; ((fail_if_success (with_reducible refine Mine.stop_of (by constructor) ?_))); walk1)))
          rename News _ _ _ _ => N8
          rename_i fa _ _ _ _ _
          have hl1 := ‹cq < fa ∧ 258 < _ ∧ P < _ ∧ _ ∧ _ ∧ AllLt _ (news ++ (List.map pcO pcs2 ++ rest))›
          have hm50 : pcO p5 ∈ news ++ (List.map pcO pcs2 ++ rest) := List.mem_append.mpr (.inr (List.mem_append.mpr (.inl (List.mem_map.mpr ⟨p5, List.mem_of_getElem? h52, rfl⟩))))
          have hp5f : (pcO p5).1 < fa := allLt_lt hl1.2.2.2.2.2 _ hm50
          rename Value => ct
          exact key fa cq ocq ct vs9 t9 _ _ (by assumption) N8 hcqP hcq258 hcqtl hcq1 hcqr hp5f hod hvs
      case mn =>
        intro fa cq ocq ct vs9 t9 hz tkz Fz Nz hcqP hcq258 hcqtl hcq1 hcqr hp5f hod hvs
        have hm50 : pcO p5 ∈ news ++ (List.map pcO pcs2 ++ rest) := List.mem_append.mpr (.inr (List.mem_append.mpr (.inl (List.mem_map.mpr ⟨p5, List.mem_of_getElem? h52, rfl⟩))))
        refine wpAny_call ?_
        k_dflt (refine' code_kw (binds := fun D => [(Str.ofString "name_index", .int lv tv), (Str.ofString "get_name", .ref fa), (Str.ofString "extrainfo", .ref D)]) ?k1 ?k2 ?k3 ?k4 ?k5 ?kA ?kF ?kK ?k6 ?k7 ?k8 ?k9 ?kB ?_ ?c2 ?c3 ?c4 ?c5; (case kA => exact rfl); (case kF => exact rfl); (case kK => exact rfl); (case k1 => k_asm); (case k2 => k_asm); (case k3 => k_asm); (case k4 => k_asm); (case k5 => k_asm); (case k6 => k_is); (case k7 => k_is); (case k8 => ktr_room); (case k9 => exact fun M A E Q hq => fun Γ p hΓ => hq); (case c5 => decide); (case kB => exact locs rfl); (case c2 => exact rfl); (case c3 => exact rfl); (case c4 => exact rfl); k_whole; intro g8 L8 h8 D8 hD8 FG8 F8 N8 l8 B8 X8 T8; (try dsimp only); (try k_lift B8); (try k_fold))
        (repeat' (first | (k_unfold; (try dsimp only)) | (((fail_if_success (with_reducible refine Mine.stop_of (by constructor) ?_))); walk1) | (dsimp only; ((fail_if_success (with_reducible refine Mine.stop_of (by constructor) ?_))); walk1)))
        rename Fr _ _ _ _ => F9
        rename News _ _ _ _ => N9
        refine callWith_two (v := .int lv tv) (a := D8) (fun h' hk => ⟨_, _, _, _, hk _ _ (N9 _ (.tail _ (.head _))).1⟩) (fun R hR => ?hx) (N9 _ (.head _)).1 (Nat.ne_of_gt (Nat.lt_of_le_of_lt (by decide : sysModules ≤ 258) (l8 _ (.tail _ (.tail _ (.head _)))))) (fun s' R hs' hR => ?hy) ?_
        case hx =>
          show wpAny _ _ (eval _ _) _ _ _
          (repeat' (first | (k_unfold; (try dsimp only)) | (((fail_if_success (with_reducible refine Mine.stop_of (by constructor) ?_))); walk1) | (dsimp only; ((fail_if_success (with_reducible refine Mine.stop_of (by constructor) ?_))); walk1)))
          exact hR
        case hy =>
          subst hs'
          have F10 := F9.push eDict
          clear F9
          show wpAny _ _ (eval _ _ >>= _) _ _ _
          refine wpAny_bind ?_
          (repeat' (first | (k_unfold; (try dsimp only)) | (((fail_if_success (with_reducible refine Mine.stop_of (by constructor) ?_))); walk1) | (dsimp only; ((fail_if_success (with_reducible refine Mine.stop_of (by constructor) ?_))); walk1)))
          refine wpAny_bind (wpAny_standAt ?_)
          exact wpAny_pure hR
        have F10 := F9.push eDict
        have N10 := News.push F9 N9 eDict
        have l10 := fun p hp => Heap.lt_size (N9 p hp).1
        clear F9 N9
        refine wpAny_call ?_
        (refine' kla_code ?k1 ?k2 ?k3 ?k4 ?k5 ?kA ?kF ?kK ?k6 ?k7 ?k8 ?k9 ?kB ?_ ?c2 ?c3 ?c4 ?c5; (case kA => exact rfl); (case kF => exact rfl); (case kK => exact rfl); (case k1 => k_asm); (case k2 => k_asm); (case k3 => k_asm); (case k4 => k_asm); (case k5 => k_asm); (case k6 => k_mem); (case k7 => exact codeRec_news (by k_asm) (by k_mem) (by assumption) (by assumption)); (case k8 => ktr_room); (case k9 => exact rfl); (case c5 => decide); (case kB => exact locs rfl); (case c2 => exact rfl); (case c3 => exact rfl); (case c4 => exact rfl); k_whole; intro g9 L9 h9 FG9 F9 N9 B9 X9 T9; (try dsimp only); (try k_lift B9); (try k_fold))
        (repeat' (first | (k_unfold; (try dsimp only)) | (((fail_if_success (with_reducible refine Mine.stop_of (by constructor) ?_))); (fail_if_success (with_reducible show wpAny _ _ (subscriptTail _ _ (Value.ref _) _) _ _ _)); walk1) | (dsimp only; ((fail_if_success (with_reducible refine Mine.stop_of (by constructor) ?_))); (fail_if_success (with_reducible show wpAny _ _ (subscriptTail _ _ (Value.ref _) _) _ _ _)); walk1)))
        have hx5 : (List.map refV pcs2).toArray[lv.toNat]? = some (.ref p5.1) := by simp [h52]
        refine item_any (News.isList N9 (.tail _ (.tail _ (.tail _ (.tail _ (.tail _ (.head _))))))) h51 hx5 (by omega) ?_
        obtain ⟨L9d, hL9d⟩ := nmAll N9
        have hm5 : pcO p5 ∈ L9d := by
          rw [hL9d]
          iterate 8 apply List.Mem.tail
          exact List.mem_append.mpr (.inr (List.mem_append.mpr (.inl (List.mem_map.mpr ⟨p5, List.mem_of_getElem? h52, rfl⟩))))
        rw [← hL9d] at N9
        have N11 : News g9 L9 h9 ((p5.1, listOf p5.2.1.toArray p5.2.2) :: L9d) := fun p hp => (List.mem_cons.mp hp).elim (fun e => e ▸ N9 _ hm5) (N9 p)
        clear N9
        (repeat' (first | (k_unfold; (try dsimp only)) | (((fail_if_success (with_reducible refine Mine.stop_of (by constructor) ?_))); (fail_if_success (with_reducible show wpAny _ _ (call (Value.builtin _) _) _ _ _)); walk1) | (dsimp only; ((fail_if_success (with_reducible refine Mine.stop_of (by constructor) ?_))); (fail_if_success (with_reducible show wpAny _ _ (call (Value.builtin _) _) _ _ _)); walk1)))
        have N12 : News g9 L9 h9 L9d := news_sub N11 (fun p hp => .tail _ hp)
        clear N11
        rw [hL9d] at N12
        have e53 : kl_last (p5.2.1.toArray).toList = some (vs5, Value.str y5 ty5) := by
          show kl_last p5.2.1 = _
          rw [h53]; exact kl_last_snoc
        have hm51 : pcO p5 ∈ List.map pcO pcs2 := List.mem_map.mpr ⟨p5, List.mem_of_getElem? h52, rfl⟩
        refine kl_pop F9 N12 e53 (.tail ?n1 (.tail ?n2 (.tail ?n3 (.tail ?n4 (.tail ?n5 (.tail ?n6 (.tail ?n7 (.tail ?n8 (upd_left ?n9 (upd_at pcO (p' := (p5.1, vs5, p5.2.2 + 1)) h52 ?n10 ?n11 rfl)))))))))) ?n12 ?_
        case n1 => exact Nat.ne_of_gt (l10 (pcO p5) (by iterate 7 apply List.Mem.tail
                                                        exact hm50))
        case n2 => exact Nat.ne_of_gt (l8 (pcO p5) (by iterate 6 apply List.Mem.tail
                                                       exact hm50))
        case n3 => exact Nat.ne_of_gt hp5f
        case n4 => exact (hcq1 _ hm51).symm
        case n5 => exact (h5b _ hm51).symm
        case n6 => exact (h5a _ hm51).symm
        case n7 => exact (h5P _ hm51).2 _ (by rw [htl]; iterate 4 apply List.Mem.tail
                                              exact .head _)
        case n8 => exact (h5c _ hm51).symm
        case n9 => exact fun p hp => (h5P _ hm51).2 p (by rw [htl]; iterate 7 apply List.Mem.tail
                                                          exact hp)
        case n10 => show (pcs2.map (·.1)).Nodup; rw [hK5]; exact hJ4
        case n11 => exact fun q hq => hr q hq (pcO p5) (.tail _ (.tail _ (List.mem_append.mpr (.inr (List.mem_append.mpr (.inl hm51))))))
        case n12 =>
          show p5.2.1.length ≤ _
          rw [h53, sizeLine_eq, List.length_append]
          have := hvs5
          show vs5.length + 1 ≤ _
          omega
        intro h13 F13 N13
        have hpl : path.length ≤ 100 := by omega
        have hrefs : (pcs2.set lv.toNat (p5.1, vs5, p5.2.2 + 1)).map refV = pcs2.map refV := map_set_same (p' := (p5.1, vs5, p5.2.2 + 1)) refV h52 rfl
        have hadr : (pcs2.set lv.toNat (p5.1, vs5, p5.2.2 + 1)).map (·.1) = pcs2.map (·.1) := map_set_same (p' := (p5.1, vs5, p5.2.2 + 1)) (·.1) h52 rfl
        rw [h541] at hst2
        (repeat' (first | (k_unfold; (try dsimp only)) | (((fail_if_success (with_reducible refine Mine.stop_of (by constructor) ?_))); walk1) | (dsimp only; ((fail_if_success (with_reducible refine Mine.stop_of (by constructor) ?_))); walk1)))
        · exfalso
          have h := ‹(y5 != y5) = true›
          simp at h
        all_goals
          rename News _ _ _ _ => N20
          rename Fr _ _ _ _ => F20
          refine box fun zG => ?_
          obtain ⟨tv9, tp9, lv9, htv9, htp9, hlv9⟩ := nmL F20
          refine zG ?_
          clear zG
          rw [← htv9, ← htp9, ← hlv9] at F20
          have hlv8 : lv9 = lv + (if (y5 == Str.ofString "f") = true then 1 else -1) := by
            rw [hlv9]
            first
            | rw [if_pos (by assumption)]
            | (rw [if_neg (by rw [show (y5 == Str.ofString "f") = false by assumption]; decide)]; try rfl)
          have hlv7 : lv9 ≤ lv + 1 ∧ lv - 1 ≤ lv9 := by rw [hlv8]; split <;> omega
          refine turnH_end (σ := WSt) ⟨pcs2.set lv.toNat (p5.1, vs5, p5.2.2 + 1), path ++ y5, tp9, lv9, tv9, #[rawInt 228, rawInt 43, .ref cq], some (cq, ocq)⟩ F20 N20 hb2 ⟨?_, ?_, ?_, ?_, ?_, ?_⟩ (by ((exact Mine.mpL (by repeat' (first | exact True.intro | refine And.intro rfl ?_)) (by (((intro y9 hy9); repeat (first | (with_reducible rfl) | (refine Mine.off_bind hy9 rfl ?_) | (refine Mine.off_step (Mine.off_ne hy9 rfl) ?_) | (refine Mine.off_step2 hy9 rfl ?_)))))))) ?_ ?_
          · exact ⟨_, hst2, hK2.set h542, rfl, hlv8⟩
          · exact hadr.trans hK5
          · show (path ++ y5).length ≤ i + 1
            rw [Str.length_append]; omega
          · show -((i + 1 : Nat) : Int) ≤ lv9
            omega
          · show lv9 ≤ ((i + 1 : Nat) : Int)
            omega
          · refine .inr ⟨cq, ocq, _, _, rfl, rfl, fun q hq => ?_, hcqP, hcq258, hcqtl, by assumption, by assumption⟩
            have h1 : q.1 ∈ pcs2.map (·.1) := by rw [hK5]; exact List.mem_map.mpr ⟨q, hq, rfl⟩
            obtain ⟨q', hq', e⟩ := List.mem_map.mp h1
            rw [← e]
            exact hcq1 _ (List.mem_map.mpr ⟨q', hq', rfl⟩)
          · intro p hp
            dsimp only at hp
            rw [hrefs, htl3] at hp
            simp only [List.cons_append, List.append_assoc, List.mem_cons, List.mem_append, cdL, List.not_mem_nil, or_false, false_or] at hp
            iterate 4 apply List.Mem.tail
            rcases hp with h | h | h | h | h | h | h | h
            · rw [h]; exact .tail _ (.head _)
            · rw [h]; exact .tail _ (.tail _ (.head _))
            · rw [h]; exact .tail _ (.tail _ (.tail _ (.head _)))
            · rw [h]; exact .tail _ (.tail _ (.tail _ (.tail _ (.head _))))
            · exact .tail _ (.tail _ (.tail _ (.tail _ (.tail _ (List.mem_append.mpr (.inl h))))))
            · exact .tail _ (.tail _ (.tail _ (.tail _ (.tail _ (List.mem_append.mpr (.inr (List.mem_append.mpr (.inl h))))))))
            · rw [h]; exact .head _
            · exact .tail _ (.tail _ (.tail _ (.tail _ (.tail _ (List.mem_append.mpr (.inr (List.mem_append.mpr (.inr h))))))))
          · intro p hp q hq
            dsimp only at hq
            rcases List.mem_cons.mp hq with rfl | hq
            · exact hr258 p hp
            · rcases List.mem_cons.mp hq with rfl | hq
              · exact hrP p hp
              · rcases List.mem_append.mp hq with hq | hq
                · exact hr p hp q (.tail _ (.tail _ (List.mem_append.mpr (.inl hq))))
                · rcases List.mem_append.mp hq with hq | hq
                  · obtain ⟨q', hq', rfl⟩ := List.mem_map.mp hq
                    have h1 : q'.1 ∈ pcs2.map (·.1) := by rw [← hadr]; exact List.mem_map.mpr ⟨q', hq', rfl⟩
                    obtain ⟨q2, hq2, e⟩ := List.mem_map.mp h1
                    show p.1 ≠ q'.1
                    rw [← e]
                    exact hr p hp (pcO q2) (.tail _ (.tail _ (List.mem_append.mpr (.inr (List.mem_append.mpr (.inl (List.mem_map.mpr ⟨q2, hq2, rfl⟩)))))))
                  · rw [List.mem_singleton.mp hq]
                    exact hcqr p hp
    case done =>
      rintro ⟨pcs2, path, tp, lv, tv, ts, cd⟩ u h tk g2 hK hb2 F7 N7
      dsimp only at hK F7 N7
      refine box fun zG => ?_
      obtain ⟨⟨v, hK1, hK2, hK3, hK4⟩, hK5, hK6, hK7, hK8, hK9⟩ := hK
      rw [hes] at hK1
      rw [hsim] at hK1
      obtain rfl := Option.some.inj hK1
      dsimp only at hK2 hK3 hK4
      subst hK3 hK4
      clear hK9
      refine zG ?_
      clear zG
      have hnil := pcs_nil hK2 hfin
      rw [htl3] at N7
      simp only [List.cons_append] at N7
      have hpl : path.length ≤ 100 := by omega
      have hplen : pcs2.length = ns.length + 1 := by
        have h := congrArg List.length hK5
        rw [List.length_map, List.length_map] at h
        omega
      obtain ⟨L7, hL7⟩ := nmAll N7
      have hLm : ∀ q ∈ pcs2, pcO q ∈ L7 := fun q hq => by
        rw [hL7]
        iterate 4 apply List.Mem.tail
        exact List.mem_append.mpr (.inr (List.mem_append.mpr (.inl (List.mem_map.mpr ⟨q, hq, rfl⟩))))
      have hPm : (P, listOf (pcs2.map refV).toArray cnt) ∈ L7 := by rw [hL7]; exact .tail _ (.head _)
      (repeat' (first | (k_unfold; (try dsimp only)) | (((fail_if_success (with_reducible refine Mine.stop_of (by constructor) ?_))); walk1) | (dsimp only; ((fail_if_success (with_reducible refine Mine.stop_of (by constructor) ?_))); walk1)))
      refine LCt.ListComp_T (F₀ := by k_asm) (by with_unfolding_all rfl) (by decide) (by rfl) (by decide) (by rfl) ?_
      walk1
      rw [← hL7] at N7
      refine LCt.CompSrcT.ledger rfl (by k_asm) N7 hPm (by rw [List.size_toArray, List.length_map, sizeLine_eq]; omega) (fun g => restT_of (fun i ys nw => ys = [] ∧ nw = L7) ?cturn ?cfin _ 0 [] _ rfl (Nat.zero_le _) ⟨rfl, rfl⟩)
      case cturn =>
        intro i ys nw v I oI C oC D m₂ h17 tk17 E' hi hJ9 hv
        refine box fun zG => ?_
        obtain ⟨rfl, rfl⟩ := hJ9
        obtain ⟨q, hq, rfl⟩ : ∃ q, pcs2[i]? = some q ∧ v = .ref q.1 := by
          rw [List.getElem?_toArray, List.getElem?_map] at hv
          cases e : pcs2[i]? with
          | none => rw [e] at hv; cases hv
          | some q => rw [e] at hv; exact ⟨q, rfl, (Option.some.inj hv).symm⟩
        refine zG ?_
        clear zG
        intro hC hx F17 N17 off ne
        have hqm := List.mem_of_getElem? hq
        have hq1 := hLm q hqm
        have hq2 := hnil q hqm
        have hq3 : (q.1, listOf ([] : List Value).toArray q.2.2) ∈ nw := by rw [← hq2]; exact hq1
        (repeat' (first | (k_unfold; (try dsimp only)) | (((fail_if_success (with_reducible refine Mine.stop_of (by constructor) ?_))); walk1) | (dsimp only; ((fail_if_success (with_reducible refine Mine.stop_of (by constructor) ?_))); walk1)))
        refine' ne_ints_same ?q1 .nil ?q2 .nil ?q3 rfl ?_
        case q1 => exact News.isList (by k_asm) (by iterate 4 apply List.Mem.tail
                                                    exact hq3)
        case q2 => exact News.isList (by k_asm) (by k_mem)
        case q3 => ktr_units
        (repeat' (first | (k_unfold; (try dsimp only)) | (((fail_if_success (with_reducible refine Mine.stop_of (by constructor) ?_))); walk1) | (dsimp only; ((fail_if_success (with_reducible refine Mine.stop_of (by constructor) ?_))); walk1)))
        refine LCg.CompEnd.intro (by (first | k_asm | assumption)) (by (first | k_asm | assumption)) _ (fun p hp => .tail _ hp) off (.inr ⟨_, hPm, rfl, _, rfl⟩) (by constructor <;> first | rfl | trivial)
      case cfin =>
        intro ys nw hJ9
        refine box fun zG => ?_
        obtain ⟨rfl, rfl⟩ := hJ9
        refine zG ?_
        clear zG
        intro D h17 tk17 F17 N17 off
        (repeat' (first | (k_unfold; (try dsimp only)) | (((fail_if_success (with_reducible refine Mine.stop_of (by constructor) ?_))); walk1) | (dsimp only; ((fail_if_success (with_reducible refine Mine.stop_of (by constructor) ?_))); walk1)))
        rename News _ _ _ _ => N30
        refine hret _ _ _ _ ts (fun z => hb2 (hb z)) (by k_asm) (news_sub N30 ?_)
        intro p hp
        have h8 : p ∈ nw := by
          rw [hL7]
          rcases List.mem_cons.mp hp with rfl | hp
          · exact .head _
          · rcases List.mem_cons.mp hp with rfl | hp
            · iterate 3 apply List.Mem.tail
              exact .head _
            · iterate 4 apply List.Mem.tail
              exact List.mem_append.mpr (.inl hp)
        simp only [List.mem_cons]
        first
        | exact .inr h8
        | exact .inr (.inr h8)
        | exact .inr (.inr (.inr h8))
        | exact .inr (.inr (.inr (.inr h8)))
end
section
open PySem PySem.W PyProof.Rows PySem.Calls
set_option maxRecDepth 100000
set_option maxHeartbeats 1000000
noncomputable def sepS : List Str → List Str
  | [] => []
  | [r] => signs r
  | r :: rest => signs r ++ Str.ofString "\n" :: sepS rest
noncomputable def lineStep : List Str × Str → Option (List Str × Str)
  | ([], _) => none
  | (y :: q, t) => some (if (Txt.slice y none (some 1) == Str.ofString ".") = true then (q ++ [Txt.slice y (some 1) none], t) else (q, t ++ y))
noncomputable def lineG (u : List Str × Str) : Nat → Option (List Str × Str)
  | 0 => some u
  | i + 1 => (lineG u i).bind lineStep
noncomputable def tailS (rest : List Str) : List Str := match rest with
  | [] => []
  | _ :: _ => Str.ofString "\n" :: sepS rest
theorem sep_cons (r : Str) (rest : List Str) : sepS (r :: rest) = signs r ++ tailS rest := by
  cases rest with
  | nil => simp [sepS, tailS]
  | cons _ _ => rfl
theorem tail_tail (rest : List Str) : (tailS rest).tail = sepS rest := by cases rest <;> rfl
theorem tail_nil {rest : List Str} : tailS rest = [] ↔ rest = [] := by cases rest <;> simp [tailS]
theorem sep_drop {x : List Str} {i : Nat} {y : Str} (h : x[i]? = some y) : sepS (x.drop i) = signs y ++ tailS (x.drop (i + 1)) := by
  obtain ⟨hlt, he⟩ := List.getElem?_eq_some_iff.mp h
  rw [List.drop_eq_getElem_cons hlt, he, sep_cons]
theorem signs_one {y : Str} : ∀ z ∈ signs y, z.length = 1 := fun z hz => by
  unfold signs at hz
  obtain ⟨n, _, rfl⟩ := List.mem_map.mp hz
  rfl
theorem sep_one : ∀ (l : List Str), ∀ z ∈ sepS l, z.length = 1
  | [], _, h => nomatch h
  | r :: rest, z, h => by
    rw [sep_cons] at h
    rcases List.mem_append.mp h with h | h
    · exact signs_one z h
    · cases rest with
      | nil => cases h
      | cons r2 rest =>
        rcases List.mem_cons.mp h with rfl | h
        · decide +kernel
        · exact sep_one (r2 :: rest) z h
theorem tail_one (rest : List Str) : ∀ z ∈ tailS rest, z.length = 1 := fun z h => by
  cases rest with
  | nil => cases h
  | cons r rest =>
    rcases List.mem_cons.mp h with rfl | h
    · decide +kernel
    · exact sep_one _ z h
theorem strs_at {vs : List Value} {ss : List Str} (h : StrsAre vs ss) : ∀ {i : Nat} {v : Value}, vs[i]? = some v → ∃ y t, v = .str y t ∧ ss[i]? = some y := by
  induction h with
  | nil => intro i v e; simp at e
  | @cons y t vs ss _ ih =>
    intro i v e
    cases i with
    | zero => simp at e; exact ⟨y, t, e.symm, rfl⟩
    | succ i => exact ih (by simpa using e)
theorem strs_snoc {vs : List Value} {ss : List Str} {y : Str} {t : Tok} (h : StrsAre vs ss) : StrsAre (vs ++ [.str y t]) (ss ++ [y]) := by
  induction h with
  | nil => exact .cons y t .nil
  | cons z u _ ih => exact .cons z u ih
theorem nmAllX {h₀ h : Heap} {L : Addr} {l : Led} (_ : News h₀ L h l) : ∃ k : Led, k = l := ⟨_, rfl⟩
theorem sum_cast : ∀ x : List Str, (x.map fun r => (r.length : Int)).sum = (((x.map (·.length)).sum : Nat) : Int)
  | [] => rfl
  | r :: x => by simp [sum_cast x]
theorem lineG_le {u : List Str × Str} {n : Nat} : ∀ {k i : Nat}, i + k = n → (lineG u n).isSome = true → (lineG u i).isSome = true
  | 0, i, e, h => by rw [← e] at h; exact h
  | k + 1, i, e, h => by
    have h1 := lineG_le (k := k) (i := i + 1) (by omega) h
    unfold lineG at h1
    cases q : lineG u i with
    | none => rw [q] at h1; exact h1
    | some _ => rfl
theorem news_tl {h₀ h : Heap} {L : Addr} {p : Addr × Obj} {r : Led} (N : News h₀ L h (p :: r)) : News h₀ L h r := fun q hq => N q (.tail _ hq)
theorem pushTokA (w : World) (mean mg mb) (a : LexA) (sg : List Value) (sn : Nat) (ln : Int) (lt : Tok) (y : Str) (ty : Tok) (pb : List Value) (pn : Nat) {news : Led} {dp un gd cn cs ac ccd cl outer A₀ base h₀ L m s} {Q E : Value → Shared → Prop}
   (B : Below A₀ base outer h₀) (F : Fr h₀ L s.heap m) (X : (hd1.heap_1 w.params).In h₀) (N : News h₀ L s.heap (lexLed w a sg sn ln lt pb pn news)) (T : Top pT lT mean mg mb h₀) (hcs : cs.kind = .function) (K : LexOk pT lT w mean mg mb a news)
   (hpb : pb.length ≤ 900) (hd : dp + 8 < recursionLimit) (hu : un + 50 < cLine)
   (q : ∀ ty' pn' h' tk', Fr h₀ L h' m → News h₀ L h' (lexLed w a sg sn ln lt (pb ++ [.str y ty']) pn' news) → Q .none { s with heap := h', toks := tk' }) :
   wpAny (model PySem.Challenge.rw_kl0050_01.row.prog w) (ktrTop dp un gd cn cs L ac ccd cl outer) (call (.ref 49) [.ref a.LX, .str y ty]) Q E s :=
  pushTok w mean mg mb a sg sn ln lt y ty pb pn B F X N T hcs K hpb hd hu (q ty)
theorem rest_more {w : World} {a : LexA} {sg : List Value} {sn : Nat} {ln : Int} {lt : Tok} {pb pb' : List Value} {pn pn' : Nat} {news rest : Led} (h : ∀ p ∈ rest, ∀ q ∈ lexLed w a sg sn ln lt pb pn news, p.1 ≠ q.1) : ∀ p ∈ rest, ∀ q ∈ lexLed w a sg sn ln lt pb' pn' news, p.1 ≠ q.1 := by
  intro p hp q hq
  rcases List.mem_cons.mp hq with rfl | hq
  · exact h p hp (a.PB, listOf pb.toArray pn) (.head _)
  · exact h p hp q (.tail _ hq)
theorem line_end {h₀ h : Heap} {L : Addr} {p1 p2 p3 p4 p5 p6 p7 p8 p9 : Addr × Obj} {r : Led} (N : News h₀ L h (p1 :: p2 :: p3 :: p4 :: p5 :: p6 :: p7 :: p8 :: p9 :: r)) : News h₀ L h r := fun q hq =>
  N q (.tail _ (.tail _ (.tail _ (.tail _ (.tail _ (.tail _ (.tail _ (.tail _ (.tail _ hq)))))))))
theorem lexOk_more {pT : Program} {lT : List Str} {w : World} {mean mg mb} {a : LexA} {news rest : Led} (K : LexOk pT lT w mean mg mb a news) (h : ∀ p ∈ rest, p.1 ≠ a.S ∧ p.1 ≠ a.LD ∧ p.1 ≠ a.PB) : LexOk pT lT w mean mg mb a (news ++ rest) :=
  ⟨K.ord, fun p hp => (List.mem_append.mp hp).elim (K.off p) (h p), K.cls, K.dct, K.dat, K.fR, K.rd⟩
theorem rest_off {w : World} {a : LexA} {sg : List Value} {sn : Nat} {ln : Int} {lt : Tok} {pb : List Value} {pn : Nat} {news rest : Led} (h : ∀ p ∈ rest, ∀ q ∈ lexLed w a sg sn ln lt pb pn news, p.1 ≠ q.1) : ∀ p ∈ rest, p.1 ≠ a.S ∧ p.1 ≠ a.LD ∧ p.1 ≠ a.PB := fun p hp =>
  ⟨h p hp (a.S, listOf sg.toArray sn) (by first | k_mem | simp), h p hp (a.LD, lexDict w a ln lt) (by first | k_mem | simp), h p hp (a.PB, listOf pb.toArray pn) (by first | k_mem | simp)⟩
structure LineOk (x : List Str) (told : Str) : Prop where
  len : 1 ≤ x.length ∧ x.length ≤ 20
  rl : ∀ r ∈ x, 1 ≤ r.length ∧ r.length ≤ 20
  pl : ∀ r ∈ x, ∀ y ∈ signs r, PlainC y
  cat : ∀ r ∈ x, catS (signs r) (Str.ofString "") = r
  sig : signs (Txt.join (Str.ofString "\n") x) = sepS x
  jl : (Txt.join (Str.ofString "\n") x).length ≤ 300
  wt : (x.map (·.length)).sum ≤ 400
  sim : lineG (x, Str.ofString "") (x.map (·.length)).sum = some ([], told)
theorem line (w : World) (mean mg mb) (l : Addr) (vs : List Value) (nn : Nat) (x : List Str) (told : Str) {news : Led} {dp un gd cn cs a ccd cl outer A₀ base h₀ L m s} {Q E : Value → Shared → Prop}
   (B : Below A₀ base outer h₀) (F : Fr h₀ L s.heap m) (X : (hd1.heap_1 w.params).In h₀) (N : News h₀ L s.heap ((206, tabObj #[]) :: (l, listOf vs.toArray nn) :: news)) (T : Top pT lT mean mg mb h₀) (C : CodeHd base 210 206) (hcs : cs.kind = .function) (h206 : ∀ p ∈ news, p.1 ≠ 206) (hl206 : l ≠ 206)
   (hi : StrsAre vs x) (ok : LineOk x told) (hd : dp + 20 < recursionLimit) (hu : un + 100 < cLine)
   (hret : ∀ (t : Tok) h' tk' g' ps', (AllBare s.gens → AllBare g') → Fr h₀ L h' m → News h₀ L h' ((206, tabObj ps') :: (l, listOf vs.toArray nn) :: news) → Q (.str told t) { s with heap := h', toks := tk', gens := g' }) :
   wpAny (model PySem.Challenge.rw_kl0050_01.row.prog w) (ktrTop dp un gd cn cs L a ccd cl outer) (call (.ref 235) [.ref l]) Q E s := by
  revert X; k_fill; intro X
  refine wpAny_call ?_
  k_dflt cell_enter
  have hjl := ok.jl
  (repeat' (first | (k_unfold; (try dsimp only)) | (((fail_if_success (with_reducible refine Mine.stop_of (by constructor) ?_))); walk1) | (dsimp only; ((fail_if_success (with_reducible refine Mine.stop_of (by constructor) ?_))); walk1)))
  rename News _ _ _ _ => N5
  refine join_listW (News.isList N5 (.tail _ (.head _))) hi (by decide) (by have := ok.wt; have := ok.len; omega) ?_
  intro t1 tk1
  dsimp only
  (repeat' (first | (k_unfold; (try dsimp only)) | (((fail_if_success (with_reducible refine Mine.stop_of (by constructor) ?_))); walk1) | (dsimp only; ((fail_if_success (with_reducible refine Mine.stop_of (by constructor) ?_))); walk1)))
  refine' lexer w mean mg mb (Txt.join (Str.ofString "\n") x) t1 ?k1 ?k2 ?k3 ?k4 ?k5 ?kC ?kK ?k6 ok.jl ?kd ?ku ?kR
  case kC => exact C
  (((case k1 => k_asm); (case k2 => k_asm); (case k3 => k_asm); (case k4 => k_asm); (case k5 => k_asm); (case kK => first | exact rfl | assumption); (case kd => ktr_room); (case ku => ktr_units)))
  case k6 =>
    intro p hp
    rcases List.mem_cons.mp hp with rfl | hp
    · exact hl206
    · exact h206 p hp
  intro ax sg1 sn1 pn1 lt1 h1 tk2 ps1 K1 hsg1 F6 N6
  clear N5
  dsimp only
  (repeat' (first | (k_unfold; (try dsimp only)) | (((fail_if_success (with_reducible refine Mine.stop_of (by constructor) ?_))); walk1) | (dsimp only; ((fail_if_success (with_reducible refine Mine.stop_of (by constructor) ?_))); walk1)))
  rename News _ _ _ _ => N7
  obtain ⟨nw, hnw⟩ : ∃ nw : Led, nw = (206, tabObj ps1) :: (l, listOf vs.toArray nn) :: news := ⟨_, rfl⟩
  have hlm : ∀ (sg : List Value) (sn : Nat) (ln : Int) (lt : Tok) (pb : List Value) (pn : Nat), (l, listOf vs.toArray nn) ∈ lexLed w ax sg sn ln lt pb pn nw := fun _ _ _ _ _ _ => by
    rw [hnw]
    iterate 10 apply List.Mem.tail
    exact .head _
  rw [← hnw] at N7 K1
  (((rename Fr _ _ _ _ => Fm9); (with_reducible apply for_go Fm9); (case hx => with_unfolding_all rfl); (case hp => with_unfolding_all rfl); (case hs => (intro _; with_unfolding_all rfl))))
  (repeat' (first | (k_unfold; (try dsimp only)) | (((fail_if_success (with_reducible refine Mine.stop_of (by constructor) ?_))); walk1) | (dsimp only; ((fail_if_success (with_reducible refine Mine.stop_of (by constructor) ?_))); walk1)))
  rename Fr _ _ _ _ => F7
  refine listL (σ := List Value × Nat × Int × Tok) (l := l) (vs := vs) (nn := nn) (fun _ => []) (fun c => lexLed w ax c.1 c.2.1 c.2.2.1 c.2.2.2 [] pn1 nw)
    (fun i c => StrsAre c.1 (sepS (x.drop i)) ∧ c.1.length ≤ 900 ∧ c.2.2.1 = (if i < x.length then 1 + (i : Int) else x.length)) ⟨sg1, sn1, 1, lt1⟩ rfl (fun c => hlm _ _ _ _ _ _) F7 N7 rfl (by ((exact Mine.mpL (by repeat' (first | exact True.intro | refine And.intro rfl ?_)) (by (((intro y9 hy9); repeat (first | (with_reducible rfl) | (refine Mine.off_bind hy9 rfl ?_) | (refine Mine.off_step (Mine.off_ne hy9 rfl) ?_) | (refine Mine.off_step2 hy9 rfl ?_)))))))) ?hj ?turn ?done
  case hj =>
    refine ⟨?_, ?_, ?_⟩
    · show StrsAre sg1 (sepS x); rw [← ok.sig]; exact hsg1
    · show sg1.length ≤ 900
      rw [strsAre_len hsg1, signs_length]; have := ok.jl; unfold Str.length at this; omega
    · show (1 : Int) = if 0 < x.length then 1 + ((0 : Nat) : Int) else x.length
      rw [if_pos (show 0 < x.length from ok.len.1)]; rfl
  case turn =>
    intro i v
    refine pr4 ?_
    intro sg sn ln lt h2 tk3 rest hv hJ hadr hap F8 N8
    dsimp only at F8 N8
    dsimp only [lexLed, lexDict] at N8
    simp only [List.cons_append] at N8
    refine box fun zG => ?_
    obtain ⟨hJ1, hJ2, hJ3⟩ := hJ
    dsimp only at hJ1 hJ2 hJ3
    obtain ⟨y, ty, rfl, hxi⟩ := strs_at hi hv
    refine zG ?_
    clear zG
    (repeat' (first | (k_unfold; (try dsimp only)) | (((fail_if_success (with_reducible refine Mine.stop_of (by constructor) ?_))); walk1) | (dsimp only; ((fail_if_success (with_reducible refine Mine.stop_of (by constructor) ?_))); walk1)))
    have hmem := List.mem_of_getElem? hxi
    have hin : i < x.length := (List.getElem?_eq_some_iff.mp hxi).1
    rw [sep_drop hxi] at hJ1
    rw [if_pos hin] at hJ3
    have hxl := ok.len.2
    have K2 := lexOk_more K1 (rest_off hap)
    have hyr := ok.rl y hmem
    refine' getTok w mean mg mb ax sg sn (signs y) (tailS (x.drop (i + 1))) ln lt pn1 ?k1x2 ?k2x2 ?k3x2 ?k4x2 ?k5x2 ?kKx2 K2 hJ1 hJ2 (ok.pl y hmem) (tail_one _) ?g1 ?g2 ?kdx2 ?kux2 ?kRx2
    (((case k1x2 => k_asm); (case k2x2 => k_asm); (case k3x2 => k_asm); (case k4x2 => k_asm); (case k5x2 => k_asm); (case kKx2 => first | exact rfl | assumption); (case kdx2 => ktr_room); (case kux2 => ktr_units)))
    case g1 =>
      cases hxd : x.drop (i + 1) with
      | nil => exact .inl rfl
      | cons r2 rest2 => exact .inr ⟨fun e => by have := congrArg List.length e; rw [signs_length] at this; have h0 : y.length = 0 := this; omega, _, rfl⟩
    case g2 => rw [hJ3]; omega
    intro t2 sg2 sn2 lt2 h3 tk4 hs2 F9 N9
    rw [ok.cat y hmem]
    rw [tail_tail] at hs2
    dsimp only
    (repeat' (first | (k_unfold; (try dsimp only)) | (((fail_if_success (with_reducible refine Mine.stop_of (by constructor) ?_))); walk1) | (dsimp only; ((fail_if_success (with_reducible refine Mine.stop_of (by constructor) ?_))); walk1)))
    · exfalso
      have h := ‹(y != y) = true›
      simp at h
    refine turn_end (c' := ((sg2, sn2, (if tailS (x.drop (i + 1)) = [] then ln else ln + 1), lt2) : List Value × Nat × Int × Tok)) (by (first | k_asm | assumption)) N9 ⟨hs2, ?_, ?_⟩ (by ((exact Mine.mpL (by repeat' (first | exact True.intro | refine And.intro rfl ?_)) (by (((intro y9 hy9); repeat (first | (with_reducible rfl) | (refine Mine.off_bind hy9 rfl ?_) | (refine Mine.off_step (Mine.off_ne hy9 rfl) ?_) | (refine Mine.off_step2 hy9 rfl ?_)))))))) (fun p hp => hp) rfl
    · show sg2.length ≤ 900
      rw [strsAre_len hs2]
      have h1 := strsAre_len hJ1
      rw [List.length_append] at h1
      have h2 : (sepS (x.drop (i + 1))).length ≤ (tailS (x.drop (i + 1))).length := by rw [← tail_tail, List.length_tail]; omega
      omega
    · show (if tailS (x.drop (i + 1)) = [] then ln else ln + 1) = if i + 1 < x.length then 1 + ((i + 1 : Nat) : Int) else x.length
      by_cases hc : i + 1 < x.length
      · rw [if_neg (fun e => by have h1 := tail_nil.mp e; have h2 := congrArg List.length h1; rw [List.length_drop] at h2; simp at h2; omega), if_pos hc, hJ3]
        push_cast; omega
      · rw [if_pos (tail_nil.mpr (List.drop_eq_nil_of_le (by omega))), if_neg hc, hJ3]
        omega
  case done =>
    refine pr4 ?_
    intro sg sn ln lt u h2 tk3 hJ hadr F8 N8
    dsimp only at F8 N8
    have hvl := strsAre_len hi
    refine box fun zG => ?_
    obtain ⟨hJ1, hJ2, hJ3⟩ := hJ
    dsimp only at hJ1 hJ2 hJ3
    rw [hvl, List.drop_length] at hJ1
    rw [hvl, if_neg (Nat.lt_irrefl _)] at hJ3
    subst hJ3
    refine zG ?_
    clear zG
    dsimp only [lexLed, lexDict] at N8
    (repeat' (first | (k_unfold; (try dsimp only)) | (((fail_if_success (with_reducible refine Mine.stop_of (by constructor) ?_))); walk1) | (dsimp only; ((fail_if_success (with_reducible refine Mine.stop_of (by constructor) ?_))); walk1)))
    refine' getTok w mean mg mb ax sg sn [] [] (x.length : Int) lt pn1 ?k1x3 ?k2x3 ?k3x3 ?k4x3 ?k5x3 ?kKx3 K1 hJ1 hJ2 (fun _ h => nomatch h) (fun _ h => nomatch h) (.inl rfl) ?g3 ?kdx3 ?kux3 ?kRx3
    (((case k1x3 => k_asm); (case k2x3 => k_asm); (case k3x3 => k_asm); (case k4x3 => k_asm); (case k5x3 => k_asm); (case kKx3 => first | exact rfl | assumption); (case kdx3 => ktr_room); (case kux3 => ktr_units)))
    case g3 => have := ok.len; omega
    intro t3 sg3 sn3 lt3 h3 tk4 hs3 F9 N9
    rw [if_pos rfl, hnw] at N9
    dsimp only [lexLed, lexDict] at N9
    dsimp only [catS]
    (repeat' (first | (k_unfold; (try dsimp only)) | (((fail_if_success (with_reducible refine Mine.stop_of (by constructor) ?_))); walk1) | (dsimp only; ((fail_if_success (with_reducible refine Mine.stop_of (by constructor) ?_))); walk1)))
    rename News _ _ _ _ => N10
    refine Calls.call_len_list (News.isList N10 (by k_mem)) (by rw [List.size_toArray, hvl]; have := ok.len; omega) ?_
    rw [List.size_toArray, hvl]
    dsimp only
    (repeat' (first | (k_unfold; (try dsimp only)) | (((fail_if_success (with_reducible refine Mine.stop_of (by constructor) ?_))); walk1) | (dsimp only; ((fail_if_success (with_reducible refine Mine.stop_of (by constructor) ?_))); walk1)))
    · exact absurd rfl ‹(x.length : Int) ≠ (x.length : Int)›
    rw [← hnw] at N10
    (((rename Fr _ _ _ _ => Fm9); (with_reducible apply for_go Fm9); (case hx => with_unfolding_all rfl); (case hp => with_unfolding_all rfl); (case hs => (intro _; with_unfolding_all rfl))))
    (repeat' (first | (k_unfold; (try dsimp only)) | (((fail_if_success (with_reducible refine Mine.stop_of (by constructor) ?_))); walk1) | (dsimp only; ((fail_if_success (with_reducible refine Mine.stop_of (by constructor) ?_))); walk1)))
    rename Fr _ _ _ _ => F11
    refine listL (σ := List Value × Nat) (l := l) (vs := vs) (nn := nn) (fun _ => []) (fun c => lexLed w ax sg3 sn3 x.length lt3 c.1 c.2 nw)
      (fun i c => StrsAre c.1 (x.take i)) ⟨[], pn1⟩ rfl (fun c => hlm _ _ _ _ _ _) F11 N10 rfl (by ((exact Mine.mpL (by repeat' (first | exact True.intro | refine And.intro rfl ?_)) (by (((intro y9 hy9); repeat (first | (with_reducible rfl) | (refine Mine.off_bind hy9 rfl ?_) | (refine Mine.off_step (Mine.off_ne hy9 rfl) ?_) | (refine Mine.off_step2 hy9 rfl ?_)))))))) .nil ?turn2 ?done2
    case turn2 =>
      intro i v
      refine pr2 ?_
      intro pb pn h4 tk5 rest hv hJ hadr2 hap F12 N12
      dsimp only at hJ F12 N12
      refine box fun zG => ?_
      obtain ⟨y, ty, rfl, hxi⟩ := strs_at hi hv
      refine zG ?_
      clear zG
      have hin : i < x.length := (List.getElem?_eq_some_iff.mp hxi).1
      have K2 := lexOk_more K1 (rest_off hap)
      have hpl : pb.length ≤ 900 := by
        rw [strsAre_len hJ, List.length_take]; have := ok.len; omega
      dsimp only [lexLed, lexDict] at N12
      simp only [List.cons_append] at N12
      (repeat' (first | (k_unfold; (try dsimp only)) | (((fail_if_success (with_reducible refine Mine.stop_of (by constructor) ?_))); walk1) | (dsimp only; ((fail_if_success (with_reducible refine Mine.stop_of (by constructor) ?_))); walk1)))
      refine' pushTok w mean mg mb ax sg3 sn3 x.length lt3 y ty pb pn ?k1x4 ?k2x4 ?k3x4 ?k4x4 ?k5x4 ?kKx4 K2 hpl ?kdx4 ?kux4 ?kRx4
      (((case k1x4 => k_asm); (case k2x4 => k_asm); (case k3x4 => k_asm); (case k4x4 => k_asm); (case k5x4 => k_asm); (case kKx4 => first | exact rfl | assumption); (case kdx4 => ktr_room); (case kux4 => ktr_units)))
      intro pn2 h5 tk6 F13 N13
      dsimp only
      (repeat' (first | (k_unfold; (try dsimp only)) | (((fail_if_success (with_reducible refine Mine.stop_of (by constructor) ?_))); walk1) | (dsimp only; ((fail_if_success (with_reducible refine Mine.stop_of (by constructor) ?_))); walk1)))
      refine turn_end (c' := ((pb ++ [Value.str y ty], pn2) : List Value × Nat)) (by (first | k_asm | assumption)) N13 ?_ (by ((exact Mine.mpL (by repeat' (first | exact True.intro | refine And.intro rfl ?_)) (by (((intro y9 hy9); repeat (first | (with_reducible rfl) | (refine Mine.off_bind hy9 rfl ?_) | (refine Mine.off_step (Mine.off_ne hy9 rfl) ?_) | (refine Mine.off_step2 hy9 rfl ?_)))))))) (fun p hp => hp) rfl
      show StrsAre (pb ++ [Value.str y ty]) (x.take (i + 1))
      rw [List.take_add_one, hxi]
      exact strs_snoc hJ
    case done2 =>
      refine pr2 ?_
      intro pb pn u2 h4 tk5 hJ hadr2 F12 N12
      dsimp only at hJ F12 N12
      rw [hvl, List.take_length] at hJ
      rw [hnw] at N12
      dsimp only [lexLed, lexDict] at N12
      (repeat' (first | (k_unfold; (try dsimp only)) | (((fail_if_success (with_reducible refine Mine.stop_of (by constructor) ?_))); walk1) | (dsimp only; ((fail_if_success (with_reducible refine Mine.stop_of (by constructor) ?_))); walk1)))
      refine forI ?_ (fun _ _ => rfl) (fun _ => rfl)
      (repeat' (first | (k_unfold; (try dsimp only)) | (((fail_if_success (with_reducible refine Mine.stop_of (by constructor) ?_))); walk1) | (dsimp only; ((fail_if_success (with_reducible refine Mine.stop_of (by constructor) ?_))); walk1)))
      rename News _ _ _ _ => N14
      rename Fr _ _ _ _ => F14
      obtain ⟨L7, hL7⟩ := nmAllX N14
      have hlm7 : (l, listOf vs.toArray nn) ∈ L7 := by rw [hL7]; exact hnw ▸ hlm sg3 sn3 x.length lt3 pb pn
      refine LCg.ListComp_U (F₀ := F14) (by with_unfolding_all rfl) (by decide) (by rfl) (by decide) (by rfl) ?_
      walk1
      rw [← hL7] at N14
      refine LCg.CompSrc.ledger rfl (by k_asm) N14 hlm7 (by rw [List.size_toArray, hvl, sizeLine_eq]; have := ok.len; omega) (fun g => restU_of (fun i ys nw => nw = L7 ∧ IntsAre ys ((x.take i).map fun r => (r.length : Int))) ?cturn ?cfin _ 0 [] _ rfl (Nat.zero_le _) ⟨rfl, .nil⟩)
      case cturn =>
        intro i ys nw v I oI C oC D m₂ h17 tk17 E' hi3 hJ5 hv hC hx F17 N17 off ne
        rw [List.getElem?_toArray] at hv
        refine box fun zG => ?_
        obtain ⟨hnw7, hys2⟩ := hJ5
        obtain ⟨y, ty, rfl, hxi⟩ := strs_at hi hv
        subst hnw7
        refine zG ?_
        clear zG
        have hyr := ok.rl y (List.mem_of_getElem? hxi)
        (repeat' (first | (k_unfold; (try dsimp only)) | (((fail_if_success (with_reducible refine Mine.stop_of (by constructor) ?_))); walk1) | (dsimp only; ((fail_if_success (with_reducible refine Mine.stop_of (by constructor) ?_))); walk1)))
        refine LCg.CompEnd.intro (by (first | k_asm | assumption)) (by (first | k_asm | assumption)) _ (fun p hp => hp) off (.inr ⟨_, hlm7, rfl, _, rfl⟩) ⟨rfl, ?_⟩
        rw [List.take_add_one, hxi, List.map_append]
        exact intsAre_snoc hys2
      case cfin =>
        intro ys nx hJ5 D h17 tk17 F17 N17 off
        refine box fun zG => ?_
        obtain ⟨rfl, hys2⟩ := hJ5
        refine zG ?_
        clear zG
        rw [show vs.toArray.toList.length = x.length from hvl, List.take_length] at hys2
        (repeat' (first | (k_unfold; (try dsimp only)) | (((fail_if_success (with_reducible refine Mine.stop_of (by constructor) ?_))); walk1) | (dsimp only; ((fail_if_success (with_reducible refine Mine.stop_of (by constructor) ?_))); walk1)))
        rename IsRange _ _ _ _ _ _ _ _ => hrg
        rw [sum_cast] at hrg
        rename News _ _ _ _ => N18
        rename Fr _ _ _ _ => F18
        have N19 := news_tl N18
        rw [hL7, ← hnw] at N19
        clear N17 N18
        have hwt := ok.wt
        have hxl := ok.len.2
        refine rangeH [Str.ofString "turn", Str.ofString "token"] (σ := (List Value × Nat) × Str × Tok) (n := (x.map (·.length)).sum) (fun c => [(Str.ofString "told", some (.str c.2.1 c.2.2))]) (fun c => lexLed w ax sg3 sn3 x.length lt3 c.1.1 c.1.2 nw)
          (fun i c => ∃ u, lineG (x, Str.ofString "") i = some u ∧ StrsAre c.1.1 u.1 ∧ c.2.1 = u.2 ∧ (∀ y ∈ u.1, y.length ≤ 20) ∧ u.1.length ≤ 20 ∧ u.2.length ≤ 20 * i) ⟨(pb, pn), Str.ofString "", tk5⟩ rfl hrg (by omega) rfl rfl F18 N19 rfl (by ((exact Mine.mpL (by repeat' (first | exact True.intro | refine And.intro rfl ?_)) (by (((intro y9 hy9); repeat (first | (with_reducible rfl) | (refine Mine.off_bind hy9 rfl ?_) | (refine Mine.off_step (Mine.off_ne hy9 rfl) ?_) | (refine Mine.off_step2 hy9 rfl ?_)))))))) ?hj3 ?turn3 ?done3
        case hj3 => exact ⟨_, rfl, hJ, rfl, fun y hy => (ok.rl y hy).2, hxl, by show (Str.ofString "").length ≤ 20 * 0; decide +kernel⟩
        case turn3 =>
          intro i t
          refine pr22 ?_
          intro pb2 pn2 tl tt u3 h7 tk7 g7 rest hi4 hJ5 hap hb F20 N20
          dsimp only at F20 N20
          refine box fun zG => ?_
          obtain ⟨⟨uq, ut⟩, hG, hK1, hK2, hK3, hK4, hK5⟩ := hJ5
          dsimp only at hK1 hK2 hK3 hK4 hK5
          subst hK2
          have hsome := lineG_le (k := (x.map (·.length)).sum - (i + 1)) (i := i + 1) (n := (x.map (·.length)).sum) (by omega) (by rw [ok.sim]; rfl)
          have hstep : lineG (x, Str.ofString "") (i + 1) = lineStep (uq, tl) := by
            show (lineG _ i).bind lineStep = _
            rw [hG]; rfl
          rw [hstep] at hsome
          cases uq with
          | nil => cases hsome
          | cons y q =>
            cases hK1 with
            | @cons _ ty pb3 _ hK1 =>
              refine zG ?_
              clear zG
              have hyl := hK3 y (.head _)
              have K2 := lexOk_more K1 (rest_off hap)
              have hpl : pb3.length ≤ 900 := by
                rw [strsAre_len hK1]; simp only [List.length_cons] at hK4; omega
              dsimp only [lexLed, lexDict] at N20
              simp only [List.cons_append] at N20
              (repeat' (first | (k_unfold; (try dsimp only)) | (((fail_if_success (with_reducible refine Mine.stop_of (by constructor) ?_))); walk1) | (dsimp only; ((fail_if_success (with_reducible refine Mine.stop_of (by constructor) ?_))); walk1)))
              refine' getPushed w mean mg mb ax sg3 sn3 x.length lt3 y ty pb3 pn2 ?k1x5 ?k2x5 ?k3x5 ?k4x5 ?k5x5 ?kKx5 K2 hpl ?kdx5 ?kux5 ?kRx5
              (((case k1x5 => k_asm); (case k2x5 => k_asm); (case k3x5 => k_asm); (case k4x5 => k_asm); (case k5x5 => k_asm); (case kKx5 => first | exact rfl | assumption); (case kdx5 => ktr_room); (case kux5 => ktr_units)))
              intro pn3 h8 tk8 F21 N21
              dsimp only [lexLed, lexDict] at N21
              dsimp only
              have htl : tl.length ≤ 8000 := by omega
              (repeat' (first | (k_unfold; (try dsimp only)) | (((fail_if_success (with_reducible refine Mine.stop_of (by constructor) ?_))); walk1) | (dsimp only; ((fail_if_success (with_reducible refine Mine.stop_of (by constructor) ?_))); walk1)))
              · have hc : (Txt.slice y none (some 1) == Str.ofString ".") = true := by assumption
                refine' pushTokA w mean mg mb ax sg3 sn3 x.length lt3 (Txt.slice y (some 1) none) _ pb3 pn3 ?k1x6 ?k2x6 ?k3x6 ?k4x6 ?k5x6 ?kKx6 K2 hpl ?kdx6 ?kux6 ?kRx6
                (((case k1x6 => k_asm); (case k2x6 => k_asm); (case k3x6 => k_asm); (case k4x6 => k_asm); (case k5x6 => k_asm); (case kKx6 => first | exact rfl | assumption); (case kdx6 => ktr_room); (case kux6 => ktr_units)))
                intro ty2 pn4 h9 tk9 F22 N22
                dsimp only
                (repeat' (first | (k_unfold; (try dsimp only)) | (((fail_if_success (with_reducible refine Mine.stop_of (by constructor) ?_))); walk1) | (dsimp only; ((fail_if_success (with_reducible refine Mine.stop_of (by constructor) ?_))); walk1)))
                refine turnH_end (c' := (((pb3 ++ [Value.str (Txt.slice y (some 1) none) ty2], pn4), tl, tt) : (List Value × Nat) × Str × Tok)) (by (first | k_asm | assumption)) N22 hb ⟨(q ++ [Txt.slice y (some 1) none], tl), ?_, strs_snoc hK1, rfl, ?_, ?_, ?_⟩ (by ((exact Mine.mpL (by repeat' (first | exact True.intro | refine And.intro rfl ?_)) (by (((intro y9 hy9); repeat (first | (with_reducible rfl) | (refine Mine.off_bind hy9 rfl ?_) | (refine Mine.off_step (Mine.off_ne hy9 rfl) ?_) | (refine Mine.off_step2 hy9 rfl ?_)))))))) (fun p hp => hp) (rest_more hap)
                · rw [hstep]
                  show some (if _ then _ else _) = _
                  rw [if_pos hc]
                · intro z hz
                  rcases List.mem_append.mp hz with hz | hz
                  · exact hK3 z (.tail _ hz)
                  · rw [List.mem_singleton.mp hz]
                    exact Nat.le_trans (Txt.slice_le _ _ _) hyl
                · simp only [List.length_append, List.length_cons, List.length_nil] at hK4 ⊢; omega
                · show tl.length ≤ 20 * (i + 1)
                  omega
              · have hc : (Txt.slice y none (some 1) == Str.ofString ".") = false := by assumption
                rename News _ _ _ _ => N22
                rename Fr _ _ _ _ => F22
                obtain ⟨tt2, htt2⟩ := nmTokX F22
                rw [← htt2] at F22
                refine turnH_end (c' := (((pb3, pn3), tl ++ y, tt2) : (List Value × Nat) × Str × Tok)) F22 N22 hb ⟨(q, tl ++ y), ?_, hK1, rfl, ?_, ?_, ?_⟩ (by ((exact Mine.mpL (by repeat' (first | exact True.intro | refine And.intro rfl ?_)) (by (((intro y9 hy9); repeat (first | (with_reducible rfl) | (refine Mine.off_bind hy9 rfl ?_) | (refine Mine.off_step (Mine.off_ne hy9 rfl) ?_) | (refine Mine.off_step2 hy9 rfl ?_)))))))) (fun p hp => hp) (rest_more hap)
                · rw [hstep]
                  show some (if _ then _ else _) = _
                  rw [if_neg (by rw [hc]; decide)]
                · exact fun z hz => hK3 z (.tail _ hz)
                · simp only [List.length_cons] at hK4; show q.length ≤ 20; omega
                · show (tl ++ y).length ≤ 20 * (i + 1)
                  rw [Str.length_append]; omega
        case done3 =>
          refine pr22 ?_
          intro pb2 pn2 tl tt u3 h7 tk7 g7 hJ5 hb F20 N20
          dsimp only at F20 N20
          dsimp only [lexLed, lexDict] at N20
          refine box fun zG => ?_
          obtain ⟨⟨uq, ut⟩, hG, hK1, hK2, hK3, hK4, hK5⟩ := hJ5
          dsimp only at hK1 hK2
          rw [ok.sim] at hG
          cases hG
          subst hK2
          cases hK1
          refine zG ?_
          clear zG
          (repeat' (first | (k_unfold; (try dsimp only)) | (((fail_if_success (with_reducible refine Mine.stop_of (by constructor) ?_))); walk1) | (dsimp only; ((fail_if_success (with_reducible refine Mine.stop_of (by constructor) ?_))); walk1)))
          refine' getTok w mean mg mb ax sg3 sn3 [] [] (x.length : Int) lt3 pn2 ?k1x7 ?k2x7 ?k3x7 ?k4x7 ?k5x7 ?kKx7 K1 hs3 (by rw [strsAre_len hs3]; exact Nat.zero_le _) (fun _ h => nomatch h) (fun _ h => nomatch h) (.inl rfl) ?g3x ?kdx7 ?kux7 ?kRx7
          (((case k1x7 => k_asm); (case k2x7 => k_asm); (case k3x7 => k_asm); (case k4x7 => k_asm); (case k5x7 => k_asm); (case kKx7 => first | exact rfl | assumption); (case kdx7 => ktr_room); (case kux7 => ktr_units)))
          case g3x => have := ok.len; omega
          intro t4 sg4 sn4 lt4 h8 tk8 hs4 F21 N21
          rw [if_pos rfl, hnw] at N21
          dsimp only [lexLed, lexDict] at N21
          dsimp only [catS]
          (repeat' (first | (k_unfold; (try dsimp only)) | (((fail_if_success (with_reducible refine Mine.stop_of (by constructor) ?_))); walk1) | (dsimp only; ((fail_if_success (with_reducible refine Mine.stop_of (by constructor) ?_))); walk1)))
          refine hret _ _ _ _ ps1 hb (by k_asm) ?_
          exact line_end (by k_asm)
end
section
set_option maxRecDepth 100000
set_option maxHeartbeats 8000000
noncomputable def rowF (S : List Int) : Str := match lineG ((rowsG (pathF S).cps.toList).1, Str.ofString "") (((rowsG (pathF S).cps.toList).1).map (·.length)).sum with
  | some u => u.2
  | none => Str.ofString ""
noncomputable def brkF (S : List Int) : Str := Txt.replace (Txt.replace (rowF S) (Str.ofString "f") (Str.ofString "(")) (Str.ofString "s") (Str.ofString ")")
noncomputable def revF (S : List Int) : Str := Txt.sliceBy (brkF S) none none (-1, 0)
noncomputable def condS (S : List Int) (j i : Nat) : Bool := S.getD j 0 - S.getD i 0 == 0 || S.getD j 0 - S.getD i 0 == 1
structure LawS (S : List Int) : Prop where
  len6 : S.length = 6
  len : S.length ≤ 6
  bd : ∀ n ∈ S, 0 ≤ n ∧ n ≤ 10
  plen : (pathF S).length = 12
  rows : RowsPre (pathF S)
  line : LineOk (rowsG (pathF S).cps.toList).1 (rowF S)
  rlen : (rowF S).length = 12
  blen1 : (Txt.replace (rowF S) (Str.ofString "f") (Str.ofString "(")).length = 12
  brk : (brkF S).length ≤ 80 ∧ ∀ c ∈ (brkF S).cps.toList, c = 40 ∨ c = 41
  chk : checkF (brkF S) = true
  rbrk : (revF S).length ≤ 100 ∧ ∀ c ∈ (revF S).cps.toList, c = 40 ∨ c = 41
  rchk : checkF (revF S) = false
  spl : (Txt.split (brkF S) (Str.ofString ")")).length ≤ 100
  frt : ∀ f : Int, 0 ≤ f → f < 6 → (frontF (brkF S) f).length ≤ 80 ∧ brs (frontF (brkF S) f)
  rise : ∀ M ∈ S, (∀ a ∈ S, a ≤ M) → risesF (brkF S) = (List.range (M + 1).toNat).map fun (k : Nat) => ((List.count (k : Int) S : Nat) : Int)
  pch : ∀ c ∈ (pathF S).cps.toList, c = 102 ∨ c = 115
  pn : pairsF (rowF S) + ((S.filter fun k => decide (0 < k)).length : Int) = 21 + (cntT (condS S) 6 : Int)
  rl : (risesF (brkF S)).length ≤ 12
  sim : ∃ fin flv, simG ((cutG ([0] ++ risesF (brkF S) ++ [0]) (rowF S) ((risesF (brkF S)).length + 1)).1, Str.ofString "", 0) 12 = some (fin, pathF S, flv) ∧ ∀ pc ∈ fin, pc = []
noncomputable def nexts (l : List (List Int)) : List (List Int) := l.flatMap fun u => (List.range (u.getLast?.getD 0 + 2).toNat).map fun (k : Nat) => u ++ [(k : Int)]
noncomputable def nextsN : Nat → List (List Int) → List (List Int)
  | 0, l => l
  | n + 1, l => nextsN n (nexts l)
theorem starts_mem : ∀ (xs : List Int) (u : List Int) (l : List (List Int)), u ∈ l → 0 ≤ u.getLast?.getD 0 → xs.foldl startStep u ∈ nextsN xs.length l
  | [], _, _, h, _ => h
  | x :: xs, u, l, h, h0 => by
    have e : startStep u x = u ++ [x.fmod (u.getLast?.getD 0 + 2)] := rfl
    have h1 : 0 ≤ x.fmod (u.getLast?.getD 0 + 2) ∧ x.fmod (u.getLast?.getD 0 + 2) < u.getLast?.getD 0 + 2 := by
      rw [Int.fmod_eq_emod_of_nonneg _ (by omega)]
      exact ⟨Int.emod_nonneg _ (by omega), Int.emod_lt_of_pos _ (by omega)⟩
    refine starts_mem xs (startStep u x) (nexts l) ?_ ?_
    · rw [e]
      refine List.mem_flatMap.mpr ⟨u, h, List.mem_map.mpr ⟨(x.fmod (u.getLast?.getD 0 + 2)).toNat, List.mem_range.mpr (by omega), ?_⟩⟩
      rw [Int.toNat_of_nonneg h1.1]
    · rw [e]; simpa using h1.1
noncomputable def all132 : List (List Int) := nextsN 5 [[0]]
theorem starts_in (x0 x1 x2 x3 x4 : Int) : startsG [x0, x1, x2, x3, x4] ∈ all132 := starts_mem [x0, x1, x2, x3, x4] [0] [[0]] (.head _) (by decide)
noncomputable def plainB (y : Str) : Bool := y.length == 1 && (Builtin.Str.occurrences wsS y 0 wsS.length 1).isEmpty && !(y == Str.ofString "\"") && !(y == Str.ofString "\\") && !(y == Str.ofString "\n")
theorem plain_of {y : Str} (h : plainB y = true) : PlainC y := by
  unfold plainB at h
  simp only [Bool.and_eq_true, Bool.not_eq_true', beq_iff_eq, and_assoc] at h
  exact ⟨h.1, h.2.1, h.2.2.1, h.2.2.2.1, h.2.2.2.2⟩
noncomputable def rowsPreGo : List Nat → Int → Bool
  | [], v => decide (0 ≤ v ∧ v ≤ 100)
  | c :: r, v => decide (0 ≤ v ∧ v ≤ 100) && rowsPreGo r (v + (if ((⟨#[c]⟩ : Str) == Str.ofString "f") = true then 1 else -1))
theorem rowsPre_go : ∀ (pre post : List Nat) (u : List Str × Int), rowsPreGo (pre ++ post) u.2 = true → 0 ≤ (pre.foldl rowsStep u).2 ∧ (pre.foldl rowsStep u).2 ≤ 100
  | [], post, u, h => by
    cases post with
    | nil => simpa [rowsPreGo] using h
    | cons c r =>
      have : (decide (0 ≤ u.2 ∧ u.2 ≤ 100) && rowsPreGo r _) = true := h
      simpa using ((Bool.and_eq_true _ _).mp this).1
  | c :: pre, post, u, h => by
    have : (decide (0 ≤ u.2 ∧ u.2 ≤ 100) && rowsPreGo (pre ++ post) (rowsStep u c).2) = true := h
    exact rowsPre_go pre post (rowsStep u c) ((Bool.and_eq_true _ _).mp this).2
noncomputable def lineB (x : List Str) (told : Str) : Bool :=
  decide (1 ≤ x.length ∧ x.length ≤ 20) && x.all (fun r => decide (1 ≤ r.length ∧ r.length ≤ 20) && (signs r).all plainB && catS (signs r) (Str.ofString "") == r)
  && signs (Txt.join (Str.ofString "\n") x) == sepS x && decide ((Txt.join (Str.ofString "\n") x).length ≤ 300) && decide ((x.map (·.length)).sum ≤ 400)
  && lineG (x, Str.ofString "") (x.map (·.length)).sum == some ([], told)
theorem line_of {x : List Str} {told : Str} (h : lineB x told = true) : LineOk x told := by
  unfold lineB at h
  simp only [Bool.and_eq_true, decide_eq_true_eq, List.all_eq_true, beq_iff_eq, and_assoc] at h
  obtain ⟨h1, h2, h3, h4, h5, h6, h7⟩ := h
  exact ⟨⟨h1, h2⟩, fun r hr => ⟨(h3 r hr).1, (h3 r hr).2.1⟩, fun r hr y hy => plain_of ((h3 r hr).2.2.1 y hy), fun r hr => (h3 r hr).2.2.2, h4, h5, h6, h7⟩
noncomputable def brB (x : Str) (n : Nat) : Bool := decide (x.length ≤ n) && x.cps.toList.all fun c => c == 40 || c == 41
theorem br_of {x : Str} {n : Nat} (h : brB x n = true) : x.length ≤ n ∧ ∀ c ∈ x.cps.toList, c = 40 ∨ c = 41 := by
  unfold brB at h
  simpa only [Bool.and_eq_true, decide_eq_true_eq, List.all_eq_true, Bool.or_eq_true, beq_iff_eq] using h
/-- the facts of one path: R the row, B its brackets, V these backwards, rs the rises -/
noncomputable def okAll (S : List Int) (P R B V : Str) (rs : List Int) : Bool :=
  S.length == 6 && S.all (fun n => decide (0 ≤ n ∧ n ≤ 10)) && P.length == 12 && rowsPreGo P.cps.toList 0
  && lineB (rowsG P.cps.toList).1 R && R.length == 12 && (Txt.replace R (Str.ofString "f") (Str.ofString "(")).length == 12
  && brB B 80 && checkF B && brB V 100 && !checkF V && decide ((Txt.split B (Str.ofString ")")).length ≤ 100)
  && (List.range 6).all (fun f => brB (frontF B (f : Int)) 80)
  && S.all (fun M => !(S.all fun a => decide (a ≤ M)) || rs == (List.range (M + 1).toNat).map fun (k : Nat) => ((List.count (k : Int) S : Nat) : Int))
  && P.cps.toList.all (fun c => c == 102 || c == 115)
  && pairsF R + ((S.filter fun k => decide (0 < k)).length : Int) == 21 + (cntT (condS S) 6 : Int)
  && decide (rs.length ≤ 12)
  && (match simG ((cutG ([0] ++ rs ++ [0]) R (rs.length + 1)).1, Str.ofString "", 0) 12 with
    | some (fin, p, _) => p == P && fin.all (·.isEmpty)
    | none => false)
theorem law_of {S : List Int} (h : okAll S (pathF S) (rowF S) (brkF S) (revF S) (risesF (brkF S)) = true) : LawS S := by
  unfold okAll at h
  simp only [Bool.and_eq_true, and_assoc] at h
  obtain ⟨h1, h2, h3, h4, h5, h6, h7, h8, h9, h10, h11, h12, h13, h14, h15, h16, h17, h18⟩ := h
  have h6l : S.length = 6 := by simpa using h1
  refine ⟨h6l, by omega, ?_, by simpa using h3, ⟨?_, fun pre post e => ?_⟩, line_of h5, by simpa using h6, by simpa using h7, br_of h8, h9, br_of h10, by simpa using h11, by simpa using h12, ?_, ?_, ?_, by simpa using h16, by simpa using h17, ?_⟩
  · simpa using h2
  · have e : (pathF S).length = 12 := by simpa using h3
    have e2 : (pathF S).cps.toList.length = 12 := by simpa [Str.length] using e
    omega
  · exact rowsPre_go pre post ([], 0) (e ▸ h4)
  · intro f h0 hf
    have := List.all_eq_true.mp h13 f.toNat (List.mem_range.mpr (by omega))
    rw [Int.toNat_of_nonneg h0] at this
    exact br_of this
  · intro M hM hM2
    have := List.all_eq_true.mp h14 M hM
    have e : (S.all fun a => decide (a ≤ M)) = true := by simpa using hM2
    rw [e] at this
    simpa using this
  · simpa only [List.all_eq_true, Bool.or_eq_true, beq_iff_eq] using h15
  · split at h18
    · rename_i fin p flv e
      rw [Bool.and_eq_true] at h18
      obtain rfl : p = pathF S := by simpa using h18.1
      exact ⟨fin, flv, e, by simpa using h18.2⟩
    · cases h18
end
section
set_option maxRecDepth 100000
set_option maxHeartbeats 8000000
noncomputable def okS (S : List Int) : Bool := okAll S (pathF S) (rowF S) (brkF S) (revF S) (risesF (brkF S))
theorem ok132_0 : (nextsN 1 [[0, 0, 0, 0, 0]]).all okS = true := by decide +kernel
theorem ok132_1 : (nextsN 1 [[0, 0, 0, 0, 1]]).all okS = true := by decide +kernel
theorem ok132_2 : (nextsN 1 [[0, 0, 0, 1, 0]]).all okS = true := by decide +kernel
theorem ok132_3 : (nextsN 1 [[0, 0, 0, 1, 1]]).all okS = true := by decide +kernel
theorem ok132_4 : (nextsN 1 [[0, 0, 0, 1, 2]]).all okS = true := by decide +kernel
theorem ok132_5 : (nextsN 1 [[0, 0, 1, 0, 0]]).all okS = true := by decide +kernel
theorem ok132_6 : (nextsN 1 [[0, 0, 1, 0, 1]]).all okS = true := by decide +kernel
theorem ok132_7 : (nextsN 1 [[0, 0, 1, 1, 0]]).all okS = true := by decide +kernel
theorem ok132_8 : (nextsN 1 [[0, 0, 1, 1, 1]]).all okS = true := by decide +kernel
theorem ok132_9 : (nextsN 1 [[0, 0, 1, 1, 2]]).all okS = true := by decide +kernel
theorem ok132_10 : (nextsN 1 [[0, 0, 1, 2, 0]]).all okS = true := by decide +kernel
theorem ok132_11 : (nextsN 1 [[0, 0, 1, 2, 1]]).all okS = true := by decide +kernel
theorem ok132_12 : (nextsN 1 [[0, 0, 1, 2, 2]]).all okS = true := by decide +kernel
theorem ok132_13 : (nextsN 1 [[0, 0, 1, 2, 3]]).all okS = true := by decide +kernel
theorem ok132_14 : (nextsN 1 [[0, 1, 0, 0, 0]]).all okS = true := by decide +kernel
theorem ok132_15 : (nextsN 1 [[0, 1, 0, 0, 1]]).all okS = true := by decide +kernel
theorem ok132_16 : (nextsN 1 [[0, 1, 0, 1, 0]]).all okS = true := by decide +kernel
theorem ok132_17 : (nextsN 1 [[0, 1, 0, 1, 1]]).all okS = true := by decide +kernel
theorem ok132_18 : (nextsN 1 [[0, 1, 0, 1, 2]]).all okS = true := by decide +kernel
theorem ok132_19 : (nextsN 1 [[0, 1, 1, 0, 0]]).all okS = true := by decide +kernel
theorem ok132_20 : (nextsN 1 [[0, 1, 1, 0, 1]]).all okS = true := by decide +kernel
theorem ok132_21 : (nextsN 1 [[0, 1, 1, 1, 0]]).all okS = true := by decide +kernel
theorem ok132_22 : (nextsN 1 [[0, 1, 1, 1, 1]]).all okS = true := by decide +kernel
theorem ok132_23 : (nextsN 1 [[0, 1, 1, 1, 2]]).all okS = true := by decide +kernel
theorem ok132_24 : (nextsN 1 [[0, 1, 1, 2, 0]]).all okS = true := by decide +kernel
theorem ok132_25 : (nextsN 1 [[0, 1, 1, 2, 1]]).all okS = true := by decide +kernel
theorem ok132_26 : (nextsN 1 [[0, 1, 1, 2, 2]]).all okS = true := by decide +kernel
theorem ok132_27 : (nextsN 1 [[0, 1, 1, 2, 3]]).all okS = true := by decide +kernel
theorem ok132_28 : (nextsN 1 [[0, 1, 2, 0, 0]]).all okS = true := by decide +kernel
theorem ok132_29 : (nextsN 1 [[0, 1, 2, 0, 1]]).all okS = true := by decide +kernel
theorem ok132_30 : (nextsN 1 [[0, 1, 2, 1, 0]]).all okS = true := by decide +kernel
theorem ok132_31 : (nextsN 1 [[0, 1, 2, 1, 1]]).all okS = true := by decide +kernel
theorem ok132_32 : (nextsN 1 [[0, 1, 2, 1, 2]]).all okS = true := by decide +kernel
theorem ok132_33 : (nextsN 1 [[0, 1, 2, 2, 0]]).all okS = true := by decide +kernel
theorem ok132_34 : (nextsN 1 [[0, 1, 2, 2, 1]]).all okS = true := by decide +kernel
theorem ok132_35 : (nextsN 1 [[0, 1, 2, 2, 2]]).all okS = true := by decide +kernel
theorem ok132_36 : (nextsN 1 [[0, 1, 2, 2, 3]]).all okS = true := by decide +kernel
theorem ok132_37 : (nextsN 1 [[0, 1, 2, 3, 0]]).all okS = true := by decide +kernel
theorem ok132_38 : (nextsN 1 [[0, 1, 2, 3, 1]]).all okS = true := by decide +kernel
theorem ok132_39 : (nextsN 1 [[0, 1, 2, 3, 2]]).all okS = true := by decide +kernel
theorem ok132_40 : (nextsN 1 [[0, 1, 2, 3, 3]]).all okS = true := by decide +kernel
theorem ok132_41 : (nextsN 1 [[0, 1, 2, 3, 4]]).all okS = true := by decide +kernel
theorem nextsN_app : ∀ (n : Nat) (l k : List (List Int)), nextsN n (l ++ k) = nextsN n l ++ nextsN n k
  | 0, _, _ => rfl
  | n + 1, l, k => by
    have e : nexts (l ++ k) = nexts l ++ nexts k := by unfold nexts; rw [List.flatMap_append]
    show nextsN n (nexts (l ++ k)) = _
    rw [e, nextsN_app n]
    rfl
theorem nextsN_cons (n : Nat) (u : List Int) (k : List (List Int)) (h : (nextsN n [u]).all okS = true) (h2 : (nextsN n k).all okS = true) : (nextsN n (u :: k)).all okS = true := by
  rw [show u :: k = [u] ++ k from rfl, nextsN_app, List.all_append, h, h2]
  rfl
theorem four_all : nextsN 4 [[0]] = [[0, 0, 0, 0, 0], [0, 0, 0, 0, 1], [0, 0, 0, 1, 0], [0, 0, 0, 1, 1], [0, 0, 0, 1, 2], [0, 0, 1, 0, 0], [0, 0, 1, 0, 1], [0, 0, 1, 1, 0], [0, 0, 1, 1, 1], [0, 0, 1, 1, 2], [0, 0, 1, 2, 0], [0, 0, 1, 2, 1], [0, 0, 1, 2, 2], [0, 0, 1, 2, 3], [0, 1, 0, 0, 0], [0, 1, 0, 0, 1], [0, 1, 0, 1, 0], [0, 1, 0, 1, 1], [0, 1, 0, 1, 2], [0, 1, 1, 0, 0], [0, 1, 1, 0, 1], [0, 1, 1, 1, 0], [0, 1, 1, 1, 1], [0, 1, 1, 1, 2], [0, 1, 1, 2, 0], [0, 1, 1, 2, 1], [0, 1, 1, 2, 2], [0, 1, 1, 2, 3], [0, 1, 2, 0, 0], [0, 1, 2, 0, 1], [0, 1, 2, 1, 0], [0, 1, 2, 1, 1], [0, 1, 2, 1, 2], [0, 1, 2, 2, 0], [0, 1, 2, 2, 1], [0, 1, 2, 2, 2], [0, 1, 2, 2, 3], [0, 1, 2, 3, 0], [0, 1, 2, 3, 1], [0, 1, 2, 3, 2], [0, 1, 2, 3, 3], [0, 1, 2, 3, 4]] := by decide +kernel
theorem all_split : all132 = nextsN 1 (nextsN 4 [[0]]) := rfl
theorem ok132 : all132.all okS = true := by
  rw [all_split, four_all]
  refine nextsN_cons _ _ _ ok132_0 ?_
  refine nextsN_cons _ _ _ ok132_1 ?_
  refine nextsN_cons _ _ _ ok132_2 ?_
  refine nextsN_cons _ _ _ ok132_3 ?_
  refine nextsN_cons _ _ _ ok132_4 ?_
  refine nextsN_cons _ _ _ ok132_5 ?_
  refine nextsN_cons _ _ _ ok132_6 ?_
  refine nextsN_cons _ _ _ ok132_7 ?_
  refine nextsN_cons _ _ _ ok132_8 ?_
  refine nextsN_cons _ _ _ ok132_9 ?_
  refine nextsN_cons _ _ _ ok132_10 ?_
  refine nextsN_cons _ _ _ ok132_11 ?_
  refine nextsN_cons _ _ _ ok132_12 ?_
  refine nextsN_cons _ _ _ ok132_13 ?_
  refine nextsN_cons _ _ _ ok132_14 ?_
  refine nextsN_cons _ _ _ ok132_15 ?_
  refine nextsN_cons _ _ _ ok132_16 ?_
  refine nextsN_cons _ _ _ ok132_17 ?_
  refine nextsN_cons _ _ _ ok132_18 ?_
  refine nextsN_cons _ _ _ ok132_19 ?_
  refine nextsN_cons _ _ _ ok132_20 ?_
  refine nextsN_cons _ _ _ ok132_21 ?_
  refine nextsN_cons _ _ _ ok132_22 ?_
  refine nextsN_cons _ _ _ ok132_23 ?_
  refine nextsN_cons _ _ _ ok132_24 ?_
  refine nextsN_cons _ _ _ ok132_25 ?_
  refine nextsN_cons _ _ _ ok132_26 ?_
  refine nextsN_cons _ _ _ ok132_27 ?_
  refine nextsN_cons _ _ _ ok132_28 ?_
  refine nextsN_cons _ _ _ ok132_29 ?_
  refine nextsN_cons _ _ _ ok132_30 ?_
  refine nextsN_cons _ _ _ ok132_31 ?_
  refine nextsN_cons _ _ _ ok132_32 ?_
  refine nextsN_cons _ _ _ ok132_33 ?_
  refine nextsN_cons _ _ _ ok132_34 ?_
  refine nextsN_cons _ _ _ ok132_35 ?_
  refine nextsN_cons _ _ _ ok132_36 ?_
  refine nextsN_cons _ _ _ ok132_37 ?_
  refine nextsN_cons _ _ _ ok132_38 ?_
  refine nextsN_cons _ _ _ ok132_39 ?_
  refine nextsN_cons _ _ _ ok132_40 ?_
  refine nextsN_cons _ _ _ ok132_41 ?_
  rfl
theorem lawS (x0 x1 x2 x3 x4 : Int) : LawS (startsG [x0, x1, x2, x3, x4]) := law_of (List.all_eq_true.mp ok132 _ (starts_in x0 x1 x2 x3 x4))
end
section
open PySem PySem.W PyProof.Rows PySem.Calls
set_option maxRecDepth 100000
set_option maxHeartbeats 1600000
inductive Stop2 : Prop → Prop
  | cr {M A a b c Q E s} : Stop2 (wpAny M A (call (Value.ref a) b c) Q E s)
  | mx {M A b c Q E s} : Stop2 (wpAny M A (call (Value.builtin "max") b c) Q E s)
  | ln {M A b c Q E s} : Stop2 (wpAny M A (call (Value.builtin "len") b c) Q E s)
  | lc {M A a b c d env Q E s} : Stop2 (wpAny M A (eval (PySem.Expr.ListComp a b c d) env) Q E s)
  | al {M A t a b c d p env Q E s} : Stop2 (wpAny M A (exec (PySem.Stmt.Assign t (PySem.Expr.ListComp a b c d) p) env) Q E s)
theorem stop2_of {P : Prop} (_ : Stop2 P) (k : P) : P := k
theorem nmO6 {h₀ h : Heap} {L : Addr} {p1 p2 p3 p4 p5 : Addr × Obj} {c : Addr} {o : Obj} {r : Led} (_ : News h₀ L h (p1 :: p2 :: p3 :: p4 :: p5 :: (c, o) :: r)) : ∃ a : Obj, a = o := ⟨_, rfl⟩
theorem cnt_snoc {S : List Int} {i : Nat} (p : Int → Bool) (h : i < S.length) : ((S.take (i + 1)).filter p).length = ((S.take i).filter p).length + (if p (S.getD i 0) = true then 1 else 0) := by
  have e : S[i]? = some (S.getD i 0) := by rw [List.getD_eq_getElem?_getD, List.getElem?_eq_getElem h]; rfl
  rw [List.take_add_one, e, List.filter_append, List.length_append]
  show _ + (List.filter p [S.getD i 0]).length = _
  rw [List.filter_cons]
  cases hp : p (S.getD i 0) <;> rfl
theorem cntT_le (c : Nat → Nat → Bool) : ∀ {n : Nat}, n ≤ 20 → cntT c n ≤ 20 * n
  | 0, _ => Nat.le_refl _
  | n + 1, h => by
    have h1 := cntT_le c (n := n) (by omega)
    have h2 := cntB_le (c n) n
    unfold cntT
    omega
theorem nmIL {h : Heap} {l : Addr} {vs : List Value} (_ : h.IsList l vs.toArray) : ∃ (a : Addr) (b : List Value), a = l ∧ b = vs := ⟨_, _, rfl, rfl⟩
theorem nmII {vs : List Value} {ns : List Int} (_ : IntsAre vs ns) : ∃ b : List Int, b = ns := ⟨_, rfl⟩
theorem seq_last (n : Nat) : seqIndex? (-1) (n + 1) = some n := by
  rw [seqIndex_neg (by decide) (by omega)]
  congr 1
  omega
theorem ints_last {sv : List Value} {ns : List Int} {k : Nat} (h : IntsAre sv ns) (hl : ns.length = k + 1) : ∃ u, sv[k]? = some (.int (ns.getLast?.getD 0) u) ∧ sv.length = k + 1 := by
  obtain ⟨u, hu⟩ := ints_at h (i := k) (by omega)
  refine ⟨u, ?_, by rw [h.length, hl]⟩
  rw [hu, List.getLast?_eq_getElem?, hl, List.getD_eq_getElem?_getD]
  rfl
theorem starts_turn {vs sv : List Value} {xs : List Int} {i : Nat} (h : IntsAre vs xs) (hJ : IntsAre sv (startsG (xs.take i))) (hi : i < xs.length) :
    ∃ (z : Int) (tv uz : Tok), vs[i]? = some (.int (xs.getD i 0) tv) ∧ sv[i]? = some (.int z uz) ∧ startsG (xs.take (i + 1)) = startsG (xs.take i) ++ [(xs.getD i 0).fmod (z + 2)] ∧ 0 ≤ z ∧ z ≤ xs.length ∧ seqIndex? (-1) sv.length = some i ∧ sv.toArray.size ≤ xs.length := by
  obtain ⟨tv, hv⟩ := ints_at h hi
  have hl : (startsG (xs.take i)).length = i + 1 := by rw [startsG_len, List.length_take]; omega
  obtain ⟨u, hu, hs⟩ := ints_last hJ hl
  have hx : xs[i]? = some (xs.getD i 0) := by rw [List.getD_eq_getElem?_getD, List.getElem?_eq_getElem hi]; rfl
  have hm : (startsG (xs.take i)).getLast?.getD 0 ∈ startsG (xs.take i) := by
    rw [List.getLast?_eq_getElem?, hl]
    show (_)[i]?.getD 0 ∈ _
    rw [List.getElem?_eq_getElem (by omega)]
    exact List.getElem_mem _
  have hb := startsG_bd (xs.take i) _ hm
  refine ⟨_, tv, u, hv, hu, startsG_snoc hx, hb.1, Int.le_trans hb.2 (Int.ofNat_le.mpr (List.length_take_le' _ _)), by rw [hs]; exact seq_last i, by rw [List.size_toArray, hs]; exact hi⟩
theorem top : PySem.Challenge.rw_kl0050_01.Holds := by
  refine hd9 (by rfl) (by rfl) (by rfl) ?_
  intro w s₀ s₁ mg mb G Y fa o pm cd doc dV kV ho hd hcd hD hmg hg args vals as hpre hlay hrd hwl hlo
  have Y122 := Y.2
  have Y := Y.1
  have KX : (hd1.heap_1 w.params).In s₁.heap := km_in_of Y
  have hfill : (hd1.heap_1 w.params).In s₁.heap → PySem.Challenge.rw_kl0050_01 = PySem.Challenge.rw_kl0050_01 := by k_fill; exact fun _ => rfl
  clear hfill
  km_tabs Y
  have X := (Ground.X G).1
  have V := (Ground.X G).2
  refine Ground.open G ?_
  intro T B D TE TW
  try (refine guard_noD D (by decide +kernel) ?_; clear D)
  km_lay T hmg ho hd cd
  clear hmg
  wrow_args hpre hlay hrd hwl hlo
  all_goals (
    first | refine callC_kw (enter_call ?_) | refine enter_call ?_
    w_top on
    refine kn_postG hT9 ?_
    w_call any ho hd hcd hD T F
    clear hd
    kn_ghosts F T
    k_drop
    skip)
  have h122 := ghost_get hT9 Y122 (by unfold o_12_122 tabObj; intro e; injection e with e1 e2 e3 e4; cases e3)
  have hnl := ‹¬ ((63 : Int) < _)›
  clear Y122 Y hT8 hT9 hcd
  rename IntsAre _ _ => hi
  rename Heap.IsList _ _ _ => hl
  rename_i ns _ _ _ _ _ _ _ _ _ _ _ _ _ _ _ _ _ _ _ _ _ _ _ _ _ _ _ _ _ 
  rename_i l vs _ _ _ _ _ _ _ _ _ _ _ _ _ _ _ _ _ _ _ _ 
  have hn : ns.length ≤ 63 := by omega
  generalize hmean : ExcName.means s₀.heap = mean at *
  (repeat' (first | (k_unfold; (try dsimp only)) | ((with_reducible show wpAny _ _ (exec _ _) _ _ _); ((fail_if_success (with_reducible refine Mine.stop_of (by constructor) ?_))); k_fold) | (((fail_if_success (with_reducible refine Mine.stop_of (by constructor) ?_))); ((fail_if_success (with_reducible refine stop2_of (by constructor) ?_))); walk1) | (dsimp only; ((fail_if_success (with_reducible refine Mine.stop_of (by constructor) ?_))); ((fail_if_success (with_reducible refine stop2_of (by constructor) ?_))); walk1) | (dsimp only [List.nil_append, List.cons_append]; ((fail_if_success (with_reducible refine Mine.stop_of (by constructor) ?_))); ((fail_if_success (with_reducible refine stop2_of (by constructor) ?_))); walk1)))
  refine' numbers w mean mg mb _ _ _ _ _ _ _ _ _ _ _ _ _ _ _ _ _ _ l vs ns _ _ _ _ _ _ _ _ ?k1 ?k2 ?k3 ?k4 ?k5 ?kK hl hi hn ?kd ?ku ?kR
  (((case k1 => k_asm); (case k2 => k_asm); (case k3 => k_asm); (case k4 => k_asm); (case k5 => k_asm); (case kK => first | exact rfl | assumption); (case kd => ktr_room); (case ku => ktr_units)))
  rintro r n ys h5 tk5 ⟨ns6, hys, hlen, hbd⟩ F5 N5 hr
  dsimp only
  have hr1 := neN (hr _ (List.Mem.head _))
  dsimp only at hr1
  refine box fun zG => ?_
  obtain ⟨x0, x1, x2, x3, x4, x5, t0, t1, t2, t3, t4, t5, rfl, rfl⟩ := ints6 hys hlen
  refine zG ?_
  clear zG
  (repeat' (first | (k_unfold; (try dsimp only)) | ((with_reducible show wpAny _ _ (exec _ _) _ _ _); ((fail_if_success (with_reducible refine Mine.stop_of (by constructor) ?_))); k_fold) | (((fail_if_success (with_reducible refine Mine.stop_of (by constructor) ?_))); ((fail_if_success (with_reducible refine stop2_of (by constructor) ?_))); walk1) | (dsimp only; ((fail_if_success (with_reducible refine Mine.stop_of (by constructor) ?_))); ((fail_if_success (with_reducible refine stop2_of (by constructor) ?_))); walk1) | (dsimp only [List.nil_append, List.cons_append]; ((fail_if_success (with_reducible refine Mine.stop_of (by constructor) ?_))); ((fail_if_success (with_reducible refine stop2_of (by constructor) ?_))); walk1)))
  (((rename Fr _ _ _ _ => Fm9); (with_reducible apply for_go Fm9); (case hx => with_unfolding_all rfl); (case hp => with_unfolding_all rfl); (case hs => (intro _; with_unfolding_all rfl))))
  (repeat' (first | (k_unfold; (try dsimp only)) | ((with_reducible show wpAny _ _ (exec _ _) _ _ _); ((fail_if_success (with_reducible refine Mine.stop_of (by constructor) ?_))); k_fold) | (((fail_if_success (with_reducible refine Mine.stop_of (by constructor) ?_))); ((fail_if_success (with_reducible refine stop2_of (by constructor) ?_))); walk1) | (dsimp only; ((fail_if_success (with_reducible refine Mine.stop_of (by constructor) ?_))); ((fail_if_success (with_reducible refine stop2_of (by constructor) ?_))); walk1) | (dsimp only [List.nil_append, List.cons_append]; ((fail_if_success (with_reducible refine Mine.stop_of (by constructor) ?_))); ((fail_if_success (with_reducible refine stop2_of (by constructor) ?_))); walk1)))
  rename Fr _ _ _ _ => F1
  rename News _ _ _ _ => N1
  rename_i st _ _ _ _ _ sl _ _
  obtain ⟨nl, hnl⟩ := nmTl N1
  rw [← hnl] at N1
  refine listL (σ := List Value × Nat) (l := sl) (vs := [.int x0 t0, .int x1 t1, .int x2 t2, .int x3 t3, .int x4 t4]) (nn := 0) (fun _ => []) (fun c => (sl, _) :: (st, listOf c.1.toArray c.2) :: nl) (fun i c => IntsAre c.1 (startsG ([x0, x1, x2, x3, x4].take i))) ⟨[_], 0⟩ rfl (fun _ => .head _) F1 N1 rfl (by ((exact Mine.mpL (by repeat' (first | exact True.intro | refine And.intro rfl ?_)) (by (((intro y9 hy9); repeat (first | (with_reducible rfl) | (refine Mine.off_bind hy9 rfl ?_) | (refine Mine.off_step (Mine.off_ne hy9 rfl) ?_) | (refine Mine.off_step2 hy9 rfl ?_)))))))) ?hj ?turn ?done
  case hj => exact .cons _ _ .nil
  case turn =>
    intro i v
    refine pr2 ?_
    intro sv sn h tk rest hv hJ ha hrr F2 N2
    subst hnl
    dsimp only at hJ F2 N2
    simp only [List.cons_append] at N2
    have hi5 : i < 5 := (List.getElem?_eq_some_iff.mp hv).1
    refine box fun zG => ?_
    obtain ⟨z, tv, uz, hv2, hz, hx, hz0, hz1, hlen5, hroom⟩ := starts_turn (.cons x0 t0 (.cons x1 t1 (.cons x2 t2 (.cons x3 t3 (.cons x4 t4 .nil))))) hJ hi5
    obtain rfl : v = .int _ tv := Option.some.inj (hv.symm.trans hv2)
    refine zG ?_
    clear zG
    replace hroom : sv.toArray.size ≤ 5 := hroom
    replace hz1 : z ≤ 5 := hz1
    (repeat' (first | (k_unfold; (try dsimp only)) | ((with_reducible show wpAny _ _ (exec _ _) _ _ _); ((fail_if_success (with_reducible refine Mine.stop_of (by constructor) ?_))); k_fold) | (((fail_if_success (with_reducible refine Mine.stop_of (by constructor) ?_))); ((fail_if_success (with_reducible refine stop2_of (by constructor) ?_))); (((fail_if_success (with_reducible show wpAny _ _ (subscriptTail _ _ _ _) _ _ _)); (fail_if_success (with_reducible show wpAny _ _ (compareOp CmpOp.In _ _) _ _ _)))); walk1) | (dsimp only; ((fail_if_success (with_reducible refine Mine.stop_of (by constructor) ?_))); ((fail_if_success (with_reducible refine stop2_of (by constructor) ?_))); (((fail_if_success (with_reducible show wpAny _ _ (subscriptTail _ _ _ _) _ _ _)); (fail_if_success (with_reducible show wpAny _ _ (compareOp CmpOp.In _ _) _ _ _)))); walk1)))
    rename News _ _ _ _ => N3
    refine kde_neg (News.isList N3 (.tail _ (.head _))) (by decide) (by decide) hlen5 hz ?_
    (repeat' (first | (k_unfold; (try dsimp only)) | ((with_reducible show wpAny _ _ (exec _ _) _ _ _); ((fail_if_success (with_reducible refine Mine.stop_of (by constructor) ?_))); k_fold) | (((fail_if_success (with_reducible refine Mine.stop_of (by constructor) ?_))); ((fail_if_success (with_reducible refine stop2_of (by constructor) ?_))); walk1) | (dsimp only; ((fail_if_success (with_reducible refine Mine.stop_of (by constructor) ?_))); ((fail_if_success (with_reducible refine stop2_of (by constructor) ?_))); walk1) | (dsimp only [List.nil_append, List.cons_append]; ((fail_if_success (with_reducible refine Mine.stop_of (by constructor) ?_))); ((fail_if_success (with_reducible refine stop2_of (by constructor) ?_))); walk1)))
    rename News _ _ _ _ => N4
    rw [show ∀ y, sv.toArray.push y = (sv ++ [y]).toArray from fun y => by simp] at N4
    refine turn_end (c' := (sv ++ [_], sn + 1)) (by (first | k_asm | assumption)) N4 ?_ (by ((exact Mine.mpL (by repeat' (first | exact True.intro | refine And.intro rfl ?_)) (by (((intro y9 hy9); repeat (first | (with_reducible rfl) | (refine Mine.off_bind hy9 rfl ?_) | (refine Mine.off_step (Mine.off_ne hy9 rfl) ?_) | (refine Mine.off_step2 hy9 rfl ?_)))))))) (fun p hp => hp) rfl
    rw [hx]
    exact intsAre_snoc hJ
  case done =>
    refine pr2 ?_
    intro sv sn u h tk hJ ha F2 N2
    subst hnl
    dsimp only at hJ F2 N2
    (repeat' (first | (k_unfold; (try dsimp only)) | ((with_reducible show wpAny _ _ (exec _ _) _ _ _); ((fail_if_success (with_reducible refine Mine.stop_of (by constructor) ?_))); k_fold) | (((fail_if_success (with_reducible refine Mine.stop_of (by constructor) ?_))); ((fail_if_success (with_reducible refine stop2_of (by constructor) ?_))); walk1) | (dsimp only; ((fail_if_success (with_reducible refine Mine.stop_of (by constructor) ?_))); ((fail_if_success (with_reducible refine stop2_of (by constructor) ?_))); walk1) | (dsimp only [List.nil_append, List.cons_append]; ((fail_if_success (with_reducible refine Mine.stop_of (by constructor) ?_))); ((fail_if_success (with_reducible refine stop2_of (by constructor) ?_))); walk1)))
    have hJ2 : IntsAre sv (startsG [x0, x1, x2, x3, x4]) := hJ
    clear hJ
    have LS := lawS x0 x1 x2 x3 x4
    generalize startsG [x0, x1, x2, x3, x4] = S at hJ2 LS
    refine' path w mean mg mb st sv sn S ?k1x2 ?k2x2 ?k3x2 ?k4x2 ?k5x2 ?kKx2 (.tail _ (.head _)) hJ2 LS.len LS.bd ?kdx2 ?kux2 ?kRx2
    (((case k1x2 => k_asm); (case k2x2 => k_asm); (case k3x2 => k_asm); (case k4x2 => k_asm); (case k5x2 => k_asm); (case kKx2 => first | exact rfl | assumption); (case kdx2 => ktr_room); (case kux2 => ktr_units)))
    intro tp h6 tk6 F6 N6
    (try dsimp only)
    (repeat' (first | (k_unfold; (try dsimp only)) | ((with_reducible show wpAny _ _ (exec _ _) _ _ _); ((fail_if_success (with_reducible refine Mine.stop_of (by constructor) ?_))); k_fold) | (((fail_if_success (with_reducible refine Mine.stop_of (by constructor) ?_))); ((fail_if_success (with_reducible refine stop2_of (by constructor) ?_))); walk1) | (dsimp only; ((fail_if_success (with_reducible refine Mine.stop_of (by constructor) ?_))); ((fail_if_success (with_reducible refine stop2_of (by constructor) ?_))); walk1) | (dsimp only [List.nil_append, List.cons_append]; ((fail_if_success (with_reducible refine Mine.stop_of (by constructor) ?_))); ((fail_if_success (with_reducible refine stop2_of (by constructor) ?_))); walk1)))
    refine' spelled w mean mg mb (pathF S) tp x5 _ _ _ _ _ _ _ _ _ _ _ _ _ _ _ _ _ _ _ ?k1x3 ?k2x3 ?k3x3 ?k4x3 ?k5x3 ?kKx3 (by rw [LS.plen]; decide) LS.pch (hbd x5 (by simp)) ?kdx3 ?kux3 ?kRx3
    (((case k1x3 => k_asm); (case k2x3 => k_asm); (case k3x3 => k_asm); (case k4x3 => k_asm); (case k5x3 => k_asm); (case kKx3 => first | exact rfl | assumption); (case kdx3 => ktr_room); (case kux3 => ktr_units)))
    intro y ty h7 tk7 oky yl F7 N7
    (try dsimp only)
    (repeat' (first | (k_unfold; (try dsimp only)) | ((with_reducible show wpAny _ _ (exec _ _) _ _ _); ((fail_if_success (with_reducible refine Mine.stop_of (by constructor) ?_))); k_fold) | (((fail_if_success (with_reducible refine Mine.stop_of (by constructor) ?_))); ((fail_if_success (with_reducible refine stop2_of (by constructor) ?_))); walk1) | (dsimp only; ((fail_if_success (with_reducible refine Mine.stop_of (by constructor) ?_))); ((fail_if_success (with_reducible refine stop2_of (by constructor) ?_))); walk1) | (dsimp only [List.nil_append, List.cons_append]; ((fail_if_success (with_reducible refine Mine.stop_of (by constructor) ?_))); ((fail_if_success (with_reducible refine stop2_of (by constructor) ?_))); walk1)))
    refine' octets w mean mg mb y ty _ _ _ _ _ _ _ _ _ _ _ _ _ _ _ _ _ _ ?k1x4 ?k2x4 ?k3x4 ?k4x4 ?k5x4 ?kKx4 ⟨by simpa [Str.length] using Nat.le_trans yl (by rw [LS.plen]; decide), oky.1⟩ ?kdx4 ?kux4 ?kRx4
    (((case k1x4 => k_asm); (case k2x4 => k_asm); (case k3x4 => k_asm); (case k4x4 => k_asm); (case k5x4 => k_asm); (case kKx4 => first | exact rfl | assumption); (case kdx4 => ktr_room); (case kux4 => ktr_units)))
    intro ro no oys h8 tk8 hoys F8 N8 hro
    (try dsimp only)
    (repeat' (first | (k_unfold; (try dsimp only)) | ((with_reducible show wpAny _ _ (exec _ _) _ _ _); ((fail_if_success (with_reducible refine Mine.stop_of (by constructor) ?_))); k_fold) | (((fail_if_success (with_reducible refine Mine.stop_of (by constructor) ?_))); ((fail_if_success (with_reducible refine stop2_of (by constructor) ?_))); walk1) | (dsimp only; ((fail_if_success (with_reducible refine Mine.stop_of (by constructor) ?_))); ((fail_if_success (with_reducible refine stop2_of (by constructor) ?_))); walk1) | (dsimp only [List.nil_append, List.cons_append]; ((fail_if_success (with_reducible refine Mine.stop_of (by constructor) ?_))); ((fail_if_success (with_reducible refine stop2_of (by constructor) ?_))); walk1)))
    refine' read w mean mg mb ro oys no y ?k1x5 ?k2x5 ?k3x5 ?k4x5 ?k5x5 ?kKx5 ?kXB ?kTB (.head _) hoys (Nat.le_trans yl (by rw [LS.plen]; decide)) oky.1 ?kdx5 ?kux5 ?kRx5
    (((case k1x5 => k_asm); (case k2x5 => k_asm); (case k3x5 => k_asm); (case k4x5 => k_asm); (case k5x5 => k_asm); (case kKx5 => first | exact rfl | assumption); (case kdx5 => ktr_room); (case kux5 => ktr_units)))
    case kXB => k_asm
    case kTB => k_asm
    intro t9 h9 tk9 F9 N9
    (try dsimp only)
    (repeat' (first | (k_unfold; (try dsimp only)) | ((with_reducible show wpAny _ _ (exec _ _) _ _ _); ((fail_if_success (with_reducible refine Mine.stop_of (by constructor) ?_))); k_fold) | (((fail_if_success (with_reducible refine Mine.stop_of (by constructor) ?_))); ((fail_if_success (with_reducible refine stop2_of (by constructor) ?_))); walk1) | (dsimp only; ((fail_if_success (with_reducible refine Mine.stop_of (by constructor) ?_))); ((fail_if_success (with_reducible refine stop2_of (by constructor) ?_))); walk1) | (dsimp only [List.nil_append, List.cons_append]; ((fail_if_success (with_reducible refine Mine.stop_of (by constructor) ?_))); ((fail_if_success (with_reducible refine stop2_of (by constructor) ?_))); walk1)))
    refine' prepared w mean mg mb y t9 ?k1x6 ?k2x6 ?k3x6 ?k4x6 ?k5x6 h122 ?kKx6 (Nat.le_trans yl (by rw [LS.plen]; decide)) oky.1 ?kdx6 ?kux6 ?kRx6
    (((case k1x6 => k_asm); (case k2x6 => k_asm); (case k3x6 => k_asm); (case k4x6 => k_asm); (case k5x6 => k_asm); (case kKx6 => first | exact rfl | assumption); (case kdx6 => ktr_room); (case kux6 => ktr_units)))
    intro t10 h10 tk10 F10 N10
    (try dsimp only)
    rw [oky.2, Array.toArray_toList]
    (repeat' (first | (k_unfold; (try dsimp only)) | ((with_reducible show wpAny _ _ (exec _ _) _ _ _); ((fail_if_success (with_reducible refine Mine.stop_of (by constructor) ?_))); k_fold) | (((fail_if_success (with_reducible refine Mine.stop_of (by constructor) ?_))); ((fail_if_success (with_reducible refine stop2_of (by constructor) ?_))); walk1) | (dsimp only; ((fail_if_success (with_reducible refine Mine.stop_of (by constructor) ?_))); ((fail_if_success (with_reducible refine stop2_of (by constructor) ?_))); walk1) | (dsimp only [List.nil_append, List.cons_append]; ((fail_if_success (with_reducible refine Mine.stop_of (by constructor) ?_))); ((fail_if_success (with_reducible refine stop2_of (by constructor) ?_))); walk1)))
    · exfalso; exact absurd ‹(({ cps := (pathF S).cps } : Str) != pathF S) = true› (by rw [ne_eta]; decide)
    refine' rows w mean mg mb (pathF S) t10 _ _ _ _ _ _ _ _ _ _ _ _ _ _ _ _ _ _ ?k1x7 ?k2x7 ?k3x7 ?k4x7 ?k5x7 ?kKx7 LS.rows ?kdx7 ?kux7 ?kRx7
    (((case k1x7 => k_asm); (case k2x7 => k_asm); (case k3x7 => k_asm); (case k4x7 => k_asm); (case k5x7 => k_asm); (case kKx7 => first | exact rfl | assumption); (case kdx7 => ktr_room); (case kux7 => ktr_units)))
    intro rr rn rys h11 tk11 hrys F11 N11 hrr
    (try dsimp only)
    (repeat' (first | (k_unfold; (try dsimp only)) | ((with_reducible show wpAny _ _ (exec _ _) _ _ _); ((fail_if_success (with_reducible refine Mine.stop_of (by constructor) ?_))); k_fold) | (((fail_if_success (with_reducible refine Mine.stop_of (by constructor) ?_))); ((fail_if_success (with_reducible refine stop2_of (by constructor) ?_))); walk1) | (dsimp only; ((fail_if_success (with_reducible refine Mine.stop_of (by constructor) ?_))); ((fail_if_success (with_reducible refine stop2_of (by constructor) ?_))); walk1) | (dsimp only [List.nil_append, List.cons_append]; ((fail_if_success (with_reducible refine Mine.stop_of (by constructor) ?_))); ((fail_if_success (with_reducible refine stop2_of (by constructor) ?_))); walk1)))
    have hrr206 := hrr (206, tabObj #[]) (by first | k_mem | simp)
    have hrr258 := hrr (258, tabObj #[]) (by first | k_mem | simp)
    have C1 : CodeHd (ghostOf s₁.heap [(260, 258), (210, 206)]) 210 206 := by assumption
    have C2 : CodeHd (ghostOf s₁.heap [(260, 258), (210, 206)]) 260 258 := by assumption
    have hl0 := ‹258 < s₁.heap.objs.size ∧ 206 < s₁.heap.objs.size›
    have hst := ‹r < st ∧ _ ∧ 258 < st ∧ 206 < st›
    rename_i oc9 _ _ _ _ _ _ _ _ _ _ _ _ _ _ _ _ _ _ 
    have N11b : News (ghostOf s₁.heap [(260, 258), (210, 206)]) s₁.heap.objs.size h11 [(206, tabObj #[]), (rr, listOf rys.toArray rn), (258, tabObj #[]), (st, listOf sv.toArray sn), (s₁.heap.objs.size + 1, oc9)] := news_sub N11 (sub_cons (by k_mem) (sub_cons (by k_mem) (sub_cons (by k_mem) (sub_cons (by k_mem) (sub_cons (by k_mem) sub_nil)))))
    clear N11
    refine wpAny_with_toks (Nat.le_refl _) ?_
    refine' line w mean mg mb rr rys rn (rowsG (pathF S).cps.toList).1 (rowF S) ?k1x8 ?k2x8 ?k3x8 ?k4x8 ?k5x8 C1 ?kKx8 ?k206 (Ne.symm hrr206) hrys LS.line ?kdx8 ?kux8 ?kRx8
    (((case k1x8 => k_asm); (case k2x8 => k_asm); (case k3x8 => k_asm); (case k4x8 => k_asm); (case k5x8 => k_asm); (case kKx8 => first | exact rfl | assumption); (case kdx8 => ktr_room); (case kux8 => ktr_units)))
    case k206 =>
      intro p hp
      simp only [List.mem_cons, List.not_mem_nil, or_false] at hp
      rcases hp with h | h | h
      · rw [h]; decide
      · rw [h]; exact Nat.ne_of_gt hst.2.2.2
      · rw [h]; exact Nat.ne_of_gt (Nat.lt_succ_of_lt hl0.2)
    intro t12 h12 tk12 g12 ps12 hg12 F12 N12 ht12
    dsimp only at ht12
    (try dsimp only)
    walk1
    dsimp only
    generalize htk : tk12 + 1 = tkA
    have rl := LS.rlen
    (repeat' (first | (k_unfold; (try dsimp only)) | ((with_reducible show wpAny _ _ (exec _ _) _ _ _); ((fail_if_success (with_reducible refine Mine.stop_of (by constructor) ?_))); k_fold) | (((fail_if_success (with_reducible refine Mine.stop_of (by constructor) ?_))); ((fail_if_success (with_reducible refine stop2_of (by constructor) ?_))); walk1) | (dsimp only; ((fail_if_success (with_reducible refine Mine.stop_of (by constructor) ?_))); ((fail_if_success (with_reducible refine stop2_of (by constructor) ?_))); walk1) | (dsimp only [List.nil_append, List.cons_append]; ((fail_if_success (with_reducible refine Mine.stop_of (by constructor) ?_))); ((fail_if_success (with_reducible refine stop2_of (by constructor) ?_))); walk1)))
    refine wpAny_with_toks (Nat.le_refl _) ?_
    dsimp only
    refine SC.replaceW (neN (by omega)) (neN (by omega)) (neN (by omega)) (by decide +kernel) (by omega) (by decide +kernel) ?_
    intro tq kq hkq
    dsimp only at hkq
    have rl1 : (Txt.replace (rowF S) (Str.ofString "f") (Str.ofString "(")).length = 12 := LS.blen1
    (repeat' (first | (k_unfold; (try dsimp only)) | ((with_reducible show wpAny _ _ (exec _ _) _ _ _); ((fail_if_success (with_reducible refine Mine.stop_of (by constructor) ?_))); k_fold) | (((fail_if_success (with_reducible refine Mine.stop_of (by constructor) ?_))); ((fail_if_success (with_reducible refine stop2_of (by constructor) ?_))); walk1) | (dsimp only; ((fail_if_success (with_reducible refine Mine.stop_of (by constructor) ?_))); ((fail_if_success (with_reducible refine stop2_of (by constructor) ?_))); walk1) | (dsimp only [List.nil_append, List.cons_append]; ((fail_if_success (with_reducible refine Mine.stop_of (by constructor) ?_))); ((fail_if_success (with_reducible refine stop2_of (by constructor) ?_))); walk1)))
    refine wpAny_with_toks (Nat.le_refl _) ?_
    dsimp only
    refine SC.replaceW (neN (by omega)) (neN (by omega)) (neN (by omega)) (by decide +kernel) (by omega) (by decide +kernel) ?_
    intro tr kr hkr
    have hB := LS.brk
    rw [show Txt.replace (Txt.replace (rowF S) (Str.ofString "f") (Str.ofString "(")) (Str.ofString "s") (Str.ofString ")") = brkF S from rfl]
    (repeat' (first | (k_unfold; (try dsimp only)) | ((with_reducible show wpAny _ _ (exec _ _) _ _ _); ((fail_if_success (with_reducible refine Mine.stop_of (by constructor) ?_))); k_fold) | (((fail_if_success (with_reducible refine Mine.stop_of (by constructor) ?_))); ((fail_if_success (with_reducible refine stop2_of (by constructor) ?_))); walk1) | (dsimp only; ((fail_if_success (with_reducible refine Mine.stop_of (by constructor) ?_))); ((fail_if_success (with_reducible refine stop2_of (by constructor) ?_))); walk1) | (dsimp only [List.nil_append, List.cons_append]; ((fail_if_success (with_reducible refine Mine.stop_of (by constructor) ?_))); ((fail_if_success (with_reducible refine stop2_of (by constructor) ?_))); walk1)))
    refine' check w mean mg mb (brkF S) tr ?k1x9 ?k2x9 ?k3x9 ?k4x9 ?k5x9 ?kKx9 ⟨Nat.le_trans hB.1 (by decide), hB.2⟩ ?kdx9 ?kux9 ?kRx9
    (((case k1x9 => k_asm); (case k2x9 => k_asm); (case k3x9 => k_asm); (case k4x9 => k_asm); (case k5x9 => k_asm); (case kKx9 => first | exact rfl | assumption); (case kdx9 => ktr_room); (case kux9 => ktr_units)))
    intro h13 tk13 g13 hg13 F13 N13
    (try dsimp only)
    rw [LS.chk]
    (repeat' (first | (k_unfold; (try dsimp only)) | ((with_reducible show wpAny _ _ (exec _ _) _ _ _); ((fail_if_success (with_reducible refine Mine.stop_of (by constructor) ?_))); k_fold) | (((fail_if_success (with_reducible refine Mine.stop_of (by constructor) ?_))); ((fail_if_success (with_reducible refine stop2_of (by constructor) ?_))); walk1) | (dsimp only; ((fail_if_success (with_reducible refine Mine.stop_of (by constructor) ?_))); ((fail_if_success (with_reducible refine stop2_of (by constructor) ?_))); walk1) | (dsimp only [List.nil_append, List.cons_append]; ((fail_if_success (with_reducible refine Mine.stop_of (by constructor) ?_))); ((fail_if_success (with_reducible refine stop2_of (by constructor) ?_))); walk1)))
    have hR : ∀ u, Txt.sliceBy (brkF S) none none (-1, u) = revF S := fun u => rfl
    rw [hR]
    refine' check w mean mg mb (revF S) _ ?k1x10 ?k2x10 ?k3x10 ?k4x10 ?k5x10 ?kKx10 LS.rbrk ?kdx10 ?kux10 ?kRx10
    (((case k1x10 => k_asm); (case k2x10 => k_asm); (case k3x10 => k_asm); (case k4x10 => k_asm); (case k5x10 => k_asm); (case kKx10 => first | exact rfl | assumption); (case kdx10 => ktr_room); (case kux10 => ktr_units)))
    intro h14 tk14 g14 hg14 F14 N14
    (try dsimp only)
    rw [LS.rchk]
    (repeat' (first | (k_unfold; (try dsimp only)) | ((with_reducible show wpAny _ _ (exec _ _) _ _ _); ((fail_if_success (with_reducible refine Mine.stop_of (by constructor) ?_))); k_fold) | (((fail_if_success (with_reducible refine Mine.stop_of (by constructor) ?_))); ((fail_if_success (with_reducible refine stop2_of (by constructor) ?_))); walk1) | (dsimp only; ((fail_if_success (with_reducible refine Mine.stop_of (by constructor) ?_))); ((fail_if_success (with_reducible refine stop2_of (by constructor) ?_))); walk1) | (dsimp only [List.nil_append, List.cons_append]; ((fail_if_success (with_reducible refine Mine.stop_of (by constructor) ?_))); ((fail_if_success (with_reducible refine stop2_of (by constructor) ?_))); walk1)))
    refine' rises w mean mg mb (brkF S) _ ?k1x11 ?k2x11 ?k3x11 ?k4x11 ?k5x11 ?kKx11 hB.1 LS.spl LS.frt ?kdx11 ?kux11 ?kRx11
    (((case k1x11 => k_asm); (case k2x11 => k_asm); (case k3x11 => k_asm); (case k4x11 => k_asm); (case k5x11 => k_asm); (case kKx11 => first | exact rfl | assumption); (case kdx11 => ktr_room); (case kux11 => ktr_units)))
    intro rs rsn rsys h15 tk15 g15 hg15 hrs F15 N15 hrr2
    (try dsimp only)
    have hrs258 := hrr2 (258, tabObj #[]) (by first | k_mem | simp)
    (repeat' (first | (k_unfold; (try dsimp only)) | ((with_reducible show wpAny _ _ (exec _ _) _ _ _); ((fail_if_success (with_reducible refine Mine.stop_of (by constructor) ?_))); k_fold) | (((fail_if_success (with_reducible refine Mine.stop_of (by constructor) ?_))); ((fail_if_success (with_reducible refine stop2_of (by constructor) ?_))); walk1) | (dsimp only; ((fail_if_success (with_reducible refine Mine.stop_of (by constructor) ?_))); ((fail_if_success (with_reducible refine stop2_of (by constructor) ?_))); walk1) | (dsimp only [List.nil_append, List.cons_append]; ((fail_if_success (with_reducible refine Mine.stop_of (by constructor) ?_))); ((fail_if_success (with_reducible refine stop2_of (by constructor) ?_))); walk1)))
    refine box fun zG => ?_
    obtain ⟨s0, s1, s2, s3, s4, s5, v0, v1, v2, v3, v4, v5, rfl, eS⟩ := ints6 hJ2 LS.len6
    refine zG ?_
    clear zG
    refine LCg.ListComp_U (F₀ := by k_asm) (by with_unfolding_all rfl) (by decide) (by rfl) (by decide) (by rfl) ?_
    (repeat' (first | (k_unfold; (try dsimp only)) | ((with_reducible show wpAny _ _ (exec _ _) _ _ _); ((fail_if_success (with_reducible refine Mine.stop_of (by constructor) ?_))); k_fold) | (((fail_if_success (with_reducible refine Mine.stop_of (by constructor) ?_))); ((fail_if_success (with_reducible refine stop2_of (by constructor) ?_))); walk1) | (dsimp only; ((fail_if_success (with_reducible refine Mine.stop_of (by constructor) ?_))); ((fail_if_success (with_reducible refine stop2_of (by constructor) ?_))); walk1) | (dsimp only [List.nil_append, List.cons_append]; ((fail_if_success (with_reducible refine Mine.stop_of (by constructor) ?_))); ((fail_if_success (with_reducible refine stop2_of (by constructor) ?_))); walk1)))
    refine' max_list_N rfl ?mF ?mN ?ml hJ2 (by rw [LS.len6]; decide) ?_
    case mF => k_asm
    case mN => k_asm
    case ml => exact News.isList (by k_asm) (by k_mem)
    intro h16 M tM tk16 F16 N16 hM1 hM2
    have hMb := LS.bd M hM1
    (repeat' (first | (k_unfold; (try dsimp only)) | ((with_reducible show wpAny _ _ (exec _ _) _ _ _); ((fail_if_success (with_reducible refine Mine.stop_of (by constructor) ?_))); k_fold) | (((fail_if_success (with_reducible refine Mine.stop_of (by constructor) ?_))); ((fail_if_success (with_reducible refine stop2_of (by constructor) ?_))); walk1) | (dsimp only; ((fail_if_success (with_reducible refine Mine.stop_of (by constructor) ?_))); ((fail_if_success (with_reducible refine stop2_of (by constructor) ?_))); walk1) | (dsimp only [List.nil_append, List.cons_append]; ((fail_if_success (with_reducible refine Mine.stop_of (by constructor) ?_))); ((fail_if_success (with_reducible refine stop2_of (by constructor) ?_))); walk1)))
    (have hrg := ‹IsRange _ _ _ _ _ _ _ _›)
    refine LCg.CompSrc.range rfl (by (first | k_asm | assumption)) (by (first | k_asm | assumption)) hrg (range_small hMb.1 (by omega)) (range_size hMb.1) (Nat.le_trans (show (M + 1).toNat ≤ 100 by omega) (by decide)) (fun g => restU_of (fun i ys nw => nw = _ ∧ IntsAre ys ((List.range i).map fun (k : Nat) => ((List.count (k : Int) S : Nat) : Int))) ?cturn ?cfin _ 0 [] _ rfl (Nat.zero_le _) ⟨rfl, .nil⟩)
    case cturn =>
      intro i ys nw v I oI C oC D m₂ h17 tk17 E' hi hJ5 hJ6
      refine box fun zG => ?_
      obtain ⟨rfl, hys2⟩ := hJ5
      obtain ⟨tv, rfl⟩ := hJ6
      refine zG ?_
      clear zG
      intro hC hx F17 N17 off ne
      (repeat' (first | (k_unfold; (try dsimp only)) | ((with_reducible show wpAny _ _ (exec _ _) _ _ _); ((fail_if_success (with_reducible refine Mine.stop_of (by constructor) ?_))); k_fold) | (((fail_if_success (with_reducible refine Mine.stop_of (by constructor) ?_))); ((fail_if_success (with_reducible refine stop2_of (by constructor) ?_))); walk1) | (dsimp only; ((fail_if_success (with_reducible refine Mine.stop_of (by constructor) ?_))); ((fail_if_success (with_reducible refine stop2_of (by constructor) ?_))); walk1) | (dsimp only [List.nil_append, List.cons_append]; ((fail_if_success (with_reducible refine Mine.stop_of (by constructor) ?_))); ((fail_if_success (with_reducible refine stop2_of (by constructor) ?_))); walk1)))
      refine LCg.CompEnd.intro (by (first | k_asm | assumption)) (by (first | k_asm | assumption)) _ (fun p hp => hp) off trivial ⟨rfl, ?_⟩
      rw [List.range_succ, List.map_append, Int.zero_add]
      exact intsAre_snoc hys2
    case cfin =>
      intro ys nw hJ5
      refine box fun zG => ?_
      obtain ⟨rfl, hys2⟩ := hJ5
      refine zG ?_
      clear zG
      intro D h17 tk17 F17 N17 off
      refine' ne_ints_same ?q1 hrs ?q2 hys2 ?q3 (LS.rise M hM1 hM2) ?_
      case q1 => exact News.isList (by k_asm) (by k_mem)
      case q2 => exact News.isList (by k_asm) (by k_mem)
      case q3 => ktr_units
      (repeat' (first | (k_unfold; (try dsimp only)) | ((with_reducible show wpAny _ _ (exec _ _) _ _ _); ((fail_if_success (with_reducible refine Mine.stop_of (by constructor) ?_))); k_fold) | (((fail_if_success (with_reducible refine Mine.stop_of (by constructor) ?_))); ((fail_if_success (with_reducible refine stop2_of (by constructor) ?_))); walk1) | (dsimp only; ((fail_if_success (with_reducible refine Mine.stop_of (by constructor) ?_))); ((fail_if_success (with_reducible refine stop2_of (by constructor) ?_))); walk1) | (dsimp only [List.nil_append, List.cons_append]; ((fail_if_success (with_reducible refine Mine.stop_of (by constructor) ?_))); ((fail_if_success (with_reducible refine stop2_of (by constructor) ?_))); walk1)))
      rename News _ _ _ _ => N40
      rename Fr _ _ _ _ => F40
      refine' near_assign (n := 6) (xi := Str.ofString "i") (xj := Str.ofString "j") (condS S) F40 N40 ?e1 ?e2 ?e3 ?e4 ?e5 ?e6 ?e7 ?e8 ?e9 ?e10 ?e11 ?e12 ?e13 ?e14 ?e15 ?h ?rng ?test ?elt ?fin
      case e1 => rfl
      case e2 => with_unfolding_all rfl
      case e3 => rfl
      case e4 => rfl
      case e5 => rfl
      case e6 => with_unfolding_all rfl
      case e7 => decide
      case e8 => rfl
      case e9 => decide
      case e10 => with_unfolding_all rfl
      case e11 => with_unfolding_all rfl
      case e12 => decide +kernel
      case e13 => decide
      case e14 => exact fun _ => rfl
      case e15 => exact fun _ _ => rfl
      case h =>
        (repeat' (first | (k_unfold; (try dsimp only)) | ((with_reducible show wpAny _ _ (exec _ _) _ _ _); ((fail_if_success (with_reducible refine Mine.stop_of (by constructor) ?_))); k_fold) | (((fail_if_success (with_reducible refine Mine.stop_of (by constructor) ?_))); ((fail_if_success (with_reducible refine stop2_of (by constructor) ?_))); walk1) | (dsimp only; ((fail_if_success (with_reducible refine Mine.stop_of (by constructor) ?_))); ((fail_if_success (with_reducible refine stop2_of (by constructor) ?_))); walk1) | (dsimp only [List.nil_append, List.cons_append]; ((fail_if_success (with_reducible refine Mine.stop_of (by constructor) ?_))); ((fail_if_success (with_reducible refine stop2_of (by constructor) ?_))); walk1)))
        exact ⟨_, _, _, _, _, _, rfl, rfl, by assumption, by k_asm, by k_asm⟩
      case rng =>
        intro I C D j tj h tk oC m₂ oI ys E' hj hC hm F N
        (repeat' (first | (k_unfold; (try dsimp only)) | ((with_reducible show wpAny _ _ (exec _ _) _ _ _); ((fail_if_success (with_reducible refine Mine.stop_of (by constructor) ?_))); k_fold) | (((fail_if_success (with_reducible refine Mine.stop_of (by constructor) ?_))); ((fail_if_success (with_reducible refine stop2_of (by constructor) ?_))); walk1) | (dsimp only; ((fail_if_success (with_reducible refine Mine.stop_of (by constructor) ?_))); ((fail_if_success (with_reducible refine stop2_of (by constructor) ?_))); walk1) | (dsimp only [List.nil_append, List.cons_append]; ((fail_if_success (with_reducible refine Mine.stop_of (by constructor) ?_))); ((fail_if_success (with_reducible refine stop2_of (by constructor) ?_))); walk1)))
        exact ⟨_, _, _, _, _, _, rfl, rfl, by assumption, by k_asm, by k_asm⟩
      case elt =>
        intro C h tk E'
        (repeat' (first | (k_unfold; (try dsimp only)) | ((with_reducible show wpAny _ _ (exec _ _) _ _ _); ((fail_if_success (with_reducible refine Mine.stop_of (by constructor) ?_))); k_fold) | (((fail_if_success (with_reducible refine Mine.stop_of (by constructor) ?_))); ((fail_if_success (with_reducible refine stop2_of (by constructor) ?_))); walk1) | (dsimp only; ((fail_if_success (with_reducible refine Mine.stop_of (by constructor) ?_))); ((fail_if_success (with_reducible refine stop2_of (by constructor) ?_))); walk1) | (dsimp only [List.nil_append, List.cons_append]; ((fail_if_success (with_reducible refine Mine.stop_of (by constructor) ?_))); ((fail_if_success (with_reducible refine stop2_of (by constructor) ?_))); walk1)))
        exact ⟨_, rfl⟩
      case test =>
        intro I C D j tj i ti I2 h tk oC m₂ oI2 oI ys E' hi hj hC hmj hmi F N
        refine box fun zG => ?_
        obtain ⟨tj2, hj2⟩ := ints_at ‹IntsAre _ S› (i := j) (by rw [LS.len6]; exact hj)
        obtain ⟨ti2, hi2⟩ := ints_at ‹IntsAre _ S› (i := i) (by rw [LS.len6]; omega)
        refine zG ?_
        clear zG
        (repeat' (first | (k_unfold; (try dsimp only)) | ((with_reducible show wpAny _ _ (exec _ _) _ _ _); ((fail_if_success (with_reducible refine Mine.stop_of (by constructor) ?_))); k_fold) | (((fail_if_success (with_reducible refine Mine.stop_of (by constructor) ?_))); ((fail_if_success (with_reducible refine stop2_of (by constructor) ?_))); (((fail_if_success (with_reducible show wpAny _ _ (subscriptTail _ _ _ _) _ _ _)); (fail_if_success (with_reducible show wpAny _ _ (compareOp CmpOp.In _ _) _ _ _)))); walk1) | (dsimp only; ((fail_if_success (with_reducible refine Mine.stop_of (by constructor) ?_))); ((fail_if_success (with_reducible refine stop2_of (by constructor) ?_))); (((fail_if_success (with_reducible show wpAny _ _ (subscriptTail _ _ _ _) _ _ _)); (fail_if_success (with_reducible show wpAny _ _ (compareOp CmpOp.In _ _) _ _ _)))); walk1)))
        rename News _ _ _ _ => N41
        refine item_any (News.isList N41 (by k_mem)) (by omega) (by simpa using hj2) (by omega) ?_
        (repeat' (first | (k_unfold; (try dsimp only)) | ((with_reducible show wpAny _ _ (exec _ _) _ _ _); ((fail_if_success (with_reducible refine Mine.stop_of (by constructor) ?_))); k_fold) | (((fail_if_success (with_reducible refine Mine.stop_of (by constructor) ?_))); ((fail_if_success (with_reducible refine stop2_of (by constructor) ?_))); (((fail_if_success (with_reducible show wpAny _ _ (subscriptTail _ _ _ _) _ _ _)); (fail_if_success (with_reducible show wpAny _ _ (compareOp CmpOp.In _ _) _ _ _)))); walk1) | (dsimp only; ((fail_if_success (with_reducible refine Mine.stop_of (by constructor) ?_))); ((fail_if_success (with_reducible refine stop2_of (by constructor) ?_))); (((fail_if_success (with_reducible show wpAny _ _ (subscriptTail _ _ _ _) _ _ _)); (fail_if_success (with_reducible show wpAny _ _ (compareOp CmpOp.In _ _) _ _ _)))); walk1)))
        rename News _ _ _ _ => N42
        refine item_any (News.isList N42 (by k_mem)) (by omega) (by simpa using hi2) (by omega) ?_
        (repeat' (first | (k_unfold; (try dsimp only)) | ((with_reducible show wpAny _ _ (exec _ _) _ _ _); ((fail_if_success (with_reducible refine Mine.stop_of (by constructor) ?_))); k_fold) | (((fail_if_success (with_reducible refine Mine.stop_of (by constructor) ?_))); ((fail_if_success (with_reducible refine stop2_of (by constructor) ?_))); (((fail_if_success (with_reducible show wpAny _ _ (subscriptTail _ _ _ _) _ _ _)); (fail_if_success (with_reducible show wpAny _ _ (compareOp CmpOp.In _ _) _ _ _)))); walk1) | (dsimp only; ((fail_if_success (with_reducible refine Mine.stop_of (by constructor) ?_))); ((fail_if_success (with_reducible refine stop2_of (by constructor) ?_))); (((fail_if_success (with_reducible show wpAny _ _ (subscriptTail _ _ _ _) _ _ _)); (fail_if_success (with_reducible show wpAny _ _ (compareOp CmpOp.In _ _) _ _ _)))); walk1)))
        rename News _ _ _ _ => N43
        refine in_01 (N43 _ (.head _)).1 rfl rfl ?_
        (repeat' (first | (k_unfold; (try dsimp only)) | ((with_reducible show wpAny _ _ (exec _ _) _ _ _); ((fail_if_success (with_reducible refine Mine.stop_of (by constructor) ?_))); k_fold) | (((fail_if_success (with_reducible refine Mine.stop_of (by constructor) ?_))); ((fail_if_success (with_reducible refine stop2_of (by constructor) ?_))); (((fail_if_success (with_reducible show wpAny _ _ (subscriptTail _ _ _ _) _ _ _)); (fail_if_success (with_reducible show wpAny _ _ (compareOp CmpOp.In _ _) _ _ _)))); walk1) | (dsimp only; ((fail_if_success (with_reducible refine Mine.stop_of (by constructor) ?_))); ((fail_if_success (with_reducible refine stop2_of (by constructor) ?_))); (((fail_if_success (with_reducible show wpAny _ _ (subscriptTail _ _ _ _) _ _ _)); (fail_if_success (with_reducible show wpAny _ _ (compareOp CmpOp.In _ _) _ _ _)))); walk1)))
        exact ⟨rfl, _, _, rfl, by k_asm, news_tl N43⟩
      case fin =>
        intro D2 h18 tk18 nys hny F18 N18 hD2
        (repeat' (first | (k_unfold; (try dsimp only)) | ((with_reducible show wpAny _ _ (exec _ _) _ _ _); ((fail_if_success (with_reducible refine Mine.stop_of (by constructor) ?_))); k_fold) | (((fail_if_success (with_reducible refine Mine.stop_of (by constructor) ?_))); ((fail_if_success (with_reducible refine stop2_of (by constructor) ?_))); walk1) | (dsimp only; ((fail_if_success (with_reducible refine Mine.stop_of (by constructor) ?_))); ((fail_if_success (with_reducible refine stop2_of (by constructor) ?_))); walk1) | (dsimp only [List.nil_append, List.cons_append]; ((fail_if_success (with_reducible refine Mine.stop_of (by constructor) ?_))); ((fail_if_success (with_reducible refine stop2_of (by constructor) ?_))); walk1)))
        refine' pairs w mean mg mb (rowF S) t12 ?k1x12 ?k2x12 ?k3x12 ?k4x12 ?k5x12 ?kKx12 (by rw [LS.rlen]; decide) ?kdx12 ?kux12 ?kRx12
        (((case k1x12 => k_asm); (case k2x12 => k_asm); (case k3x12 => k_asm); (case k4x12 => k_asm); (case k5x12 => k_asm); (case kKx12 => first | exact rfl | assumption); (case kdx12 => ktr_room); (case kux12 => ktr_units)))
        intro tpn h19 tk19 F19 N19
        (try dsimp only)
        (repeat' (first | (k_unfold; (try dsimp only)) | ((with_reducible show wpAny _ _ (exec _ _) _ _ _); ((fail_if_success (with_reducible refine Mine.stop_of (by constructor) ?_))); k_fold) | (((fail_if_success (with_reducible refine Mine.stop_of (by constructor) ?_))); ((fail_if_success (with_reducible refine stop2_of (by constructor) ?_))); walk1) | (dsimp only; ((fail_if_success (with_reducible refine Mine.stop_of (by constructor) ?_))); ((fail_if_success (with_reducible refine stop2_of (by constructor) ?_))); walk1) | (dsimp only [List.nil_append, List.cons_append]; ((fail_if_success (with_reducible refine Mine.stop_of (by constructor) ?_))); ((fail_if_success (with_reducible refine stop2_of (by constructor) ?_))); walk1)))
        have hJ9 := ‹IntsAre [Value.int s0 v0, Value.int s1 v1, Value.int s2 v2, Value.int s3 v3, Value.int s4 v4, Value.int s5 v5] S›
        rename News _ _ _ _ => N21
        rename Fr _ _ _ _ => F21
        obtain ⟨L8, hL8⟩ := nmAllX N21
        have hlm8 : (st, listOf #[Value.int s0 v0, Value.int s1 v1, Value.int s2 v2, Value.int s3 v3, Value.int s4 v4, Value.int s5 v5] sn) ∈ L8 := by rw [hL8]; first | k_mem | simp
        have hD2m : (D2, LCg.lst nys) ∈ L8 := by rw [hL8]; first | k_mem | simp
        have h6 : (6 : Nat) ≤ sizeLine := by decide
        refine LCt.ListComp_T (F₀ := F21) (by with_unfolding_all rfl) (by decide) (by rfl) (by decide) (by rfl) ?_
        walk1
        rw [← hL8] at N21
        refine LCt.CompSrcT.ledger rfl (by k_asm) N21 hlm8 h6 (fun g => restT_of (fun i ys nw => nw = L8 ∧ ys.length = ((S.take i).filter fun k => decide (0 < k)).length) ?dturn ?dfin _ 0 [] _ rfl (Nat.zero_le _) ⟨rfl, by simp⟩)
        case dturn =>
          intro i ys nw v I oI C oC D m₂ h22 tk22 E' hi4 hJ5 hv
          refine box fun zG => ?_
          obtain ⟨rfl, hys4⟩ := hJ5
          have hi6 : i < S.length := by rw [LS.len6]; exact hi4
          obtain ⟨tv, hv2⟩ := ints_at hJ9 hi6
          obtain rfl : v = .int (S.getD i 0) tv := by
            have e : (#[Value.int s0 v0, Value.int s1 v1, Value.int s2 v2, Value.int s3 v3, Value.int s4 v4, Value.int s5 v5] : Array Value)[i]? = some (.int (S.getD i 0) tv) := by simpa using hv2
            rw [e] at hv
            exact (Option.some.inj hv).symm
          refine zG ?_
          clear zG
          intro hC hx F22 N22 off ne
          (repeat' (first | (k_unfold; (try dsimp only)) | ((with_reducible show wpAny _ _ (exec _ _) _ _ _); ((fail_if_success (with_reducible refine Mine.stop_of (by constructor) ?_))); k_fold) | (((fail_if_success (with_reducible refine Mine.stop_of (by constructor) ?_))); ((fail_if_success (with_reducible refine stop2_of (by constructor) ?_))); walk1) | (dsimp only; ((fail_if_success (with_reducible refine Mine.stop_of (by constructor) ?_))); ((fail_if_success (with_reducible refine stop2_of (by constructor) ?_))); walk1) | (dsimp only [List.nil_append, List.cons_append]; ((fail_if_success (with_reducible refine Mine.stop_of (by constructor) ?_))); ((fail_if_success (with_reducible refine stop2_of (by constructor) ?_))); walk1)))
          all_goals
            refine LCg.CompEnd.intro (by (first | k_asm | assumption)) (by (first | k_asm | assumption)) _ (fun p hp => hp) off (.inr ⟨_, hlm8, rfl, _, rfl⟩) ⟨rfl, ?_⟩
            rw [cnt_snoc _ hi6]
            first
            | (rw [List.length_append, List.length_singleton, hys4, if_pos (show decide (0 < S.getD i 0) = true by rw [decide_eq_true_eq]; assumption)]; done)
            | (rw [hys4, if_neg (show ¬ (decide (0 < S.getD i 0) = true) by rw [decide_eq_true_eq]; assumption), Nat.add_zero]; done)
        case dfin =>
          intro ys nw hJ5
          refine box fun zG => ?_
          obtain ⟨rfl, hys4⟩ := hJ5
          refine zG ?_
          clear zG
          intro D h22 tk22 F22 N22 off
          have hys5 : ys.length = (S.filter fun k => decide (0 < k)).length := by
            rw [hys4]
            congr 2
            exact List.take_of_length_le (by rw [LS.len6]; exact Nat.le_refl 6)
          have hys6 : ys.length ≤ 6 := by rw [hys5]; exact Nat.le_trans (List.length_filter_le _ _) LS.len
          try dsimp only
          (repeat' (first | (k_unfold; (try dsimp only)) | ((with_reducible show wpAny _ _ (exec _ _) _ _ _); ((fail_if_success (with_reducible refine Mine.stop_of (by constructor) ?_))); k_fold) | (((fail_if_success (with_reducible refine Mine.stop_of (by constructor) ?_))); ((fail_if_success (with_reducible refine stop2_of (by constructor) ?_))); walk1) | (dsimp only; ((fail_if_success (with_reducible refine Mine.stop_of (by constructor) ?_))); ((fail_if_success (with_reducible refine stop2_of (by constructor) ?_))); walk1) | (dsimp only [List.nil_append, List.cons_append]; ((fail_if_success (with_reducible refine Mine.stop_of (by constructor) ?_))); ((fail_if_success (with_reducible refine stop2_of (by constructor) ?_))); walk1)))
          try dsimp only
          refine Calls.call_len_list (News.isList N22 (.head _)) (by show ((ys.length : Nat) : Int) < 2 ^ 63; omega) ?_
          try dsimp only
          (repeat' (first | (k_unfold; (try dsimp only)) | ((with_reducible show wpAny _ _ (exec _ _) _ _ _); ((fail_if_success (with_reducible refine Mine.stop_of (by constructor) ?_))); k_fold) | (((fail_if_success (with_reducible refine Mine.stop_of (by constructor) ?_))); ((fail_if_success (with_reducible refine stop2_of (by constructor) ?_))); walk1) | (dsimp only; ((fail_if_success (with_reducible refine Mine.stop_of (by constructor) ?_))); ((fail_if_success (with_reducible refine stop2_of (by constructor) ?_))); walk1) | (dsimp only [List.nil_append, List.cons_append]; ((fail_if_success (with_reducible refine Mine.stop_of (by constructor) ?_))); ((fail_if_success (with_reducible refine stop2_of (by constructor) ?_))); walk1)))
          rename News _ _ _ _ => N23
          have hn15 : nys.length ≤ 1000 := by rw [hny]; exact Nat.le_trans (cntT_le _ (n := 6) (by decide)) (by decide)
          try dsimp only
          refine Calls.call_len_list (News.isList N23 (.tail _ hD2m)) (by show ((nys.length : Nat) : Int) < 2 ^ 63; omega) ?_
          try dsimp only
          (repeat' (first | (k_unfold; (try dsimp only)) | ((with_reducible show wpAny _ _ (exec _ _) _ _ _); ((fail_if_success (with_reducible refine Mine.stop_of (by constructor) ?_))); k_fold) | (((fail_if_success (with_reducible refine Mine.stop_of (by constructor) ?_))); ((fail_if_success (with_reducible refine stop2_of (by constructor) ?_))); ((fail_if_success (with_reducible show wpAny _ _ (compareOp _ _ _) _ _ _))); walk1) | (dsimp only; ((fail_if_success (with_reducible refine Mine.stop_of (by constructor) ?_))); ((fail_if_success (with_reducible refine stop2_of (by constructor) ?_))); ((fail_if_success (with_reducible show wpAny _ _ (compareOp _ _ _) _ _ _))); walk1)))
          have epn : pairsF (rowF S) + ((ys.toArray.size : Nat) : Int) = 21 + ((nys.toArray.size : Nat) : Int) := by
            rw [List.size_toArray, List.size_toArray, hys5, hny]; exact LS.pn
          rw [epn]
          try dsimp only
          walk1
          try dsimp only
          rw [bne_self_eq_false]
          (repeat' (first | (k_unfold; (try dsimp only)) | ((with_reducible show wpAny _ _ (exec _ _) _ _ _); ((fail_if_success (with_reducible refine Mine.stop_of (by constructor) ?_))); k_fold) | (((fail_if_success (with_reducible refine Mine.stop_of (by constructor) ?_))); ((fail_if_success (with_reducible refine stop2_of (by constructor) ?_))); walk1) | (dsimp only; ((fail_if_success (with_reducible refine Mine.stop_of (by constructor) ?_))); ((fail_if_success (with_reducible refine stop2_of (by constructor) ?_))); walk1) | (dsimp only [List.nil_append, List.cons_append]; ((fail_if_success (with_reducible refine Mine.stop_of (by constructor) ?_))); ((fail_if_success (with_reducible refine stop2_of (by constructor) ?_))); walk1)))
          rename News _ _ _ _ => N24
          rename Fr _ _ _ _ => F24
          refine box fun zG => ?_
          obtain ⟨fin, flv, hsim, hfin⟩ := LS.sim
          refine zG ?_
          clear zG
          have N25 : News (ghostOf s₁.heap [(260, 258), (210, 206)]) s₁.heap.objs.size h22 ((258, tabObj #[]) :: (rs, listOf rsys.toArray rsn) :: [(206, tabObj ps12)]) := news_sub N24 (by
            rw [hL8]
            exact sub_cons (by k_mem) (sub_cons (by k_mem) (sub_cons (by k_mem) sub_nil)))
          clear N24
          refine' walk w mean mg mb (rowF S) t12 rs rsys rsn (risesF (brkF S)) ?k1x13 ?k2x13 ?k3x13 ?k4x13 ?k5x13 C2 ?kKx13 ?k258 (Ne.symm hrs258) hrs (by rw [LS.rlen]; decide) LS.rl fin (pathF S) flv hsim hfin ?kdx13 ?kux13 ?kRx13
          (((case k1x13 => k_asm); (case k2x13 => k_asm); (case k3x13 => k_asm); (case k4x13 => k_asm); (case k5x13 => k_asm); (case kKx13 => first | exact rfl | assumption); (case kdx13 => ktr_room); (case kux13 => ktr_units)))
          case k258 =>
            intro p hp
            simp only [List.mem_cons, List.not_mem_nil, or_false] at hp
            rw [hp]
            show (206 : Nat) ≠ 258
            decide
          intro t25 h25 tk25 g25 ps25 hg25 F25 N26
          try dsimp only
          (repeat' (first | (k_unfold; (try dsimp only)) | ((with_reducible show wpAny _ _ (exec _ _) _ _ _); ((fail_if_success (with_reducible refine Mine.stop_of (by constructor) ?_))); k_fold) | (((fail_if_success (with_reducible refine Mine.stop_of (by constructor) ?_))); ((fail_if_success (with_reducible refine stop2_of (by constructor) ?_))); walk1) | (dsimp only; ((fail_if_success (with_reducible refine Mine.stop_of (by constructor) ?_))); ((fail_if_success (with_reducible refine stop2_of (by constructor) ?_))); walk1) | (dsimp only [List.nil_append, List.cons_append]; ((fail_if_success (with_reducible refine Mine.stop_of (by constructor) ?_))); ((fail_if_success (with_reducible refine stop2_of (by constructor) ?_))); walk1)))
          rw [beq_self_eq_true]
          rename Fr _ _ _ _ => F27
          refine' endG_true ?rais ?pst F27 ?os ?bare ?grown
          case rais => exact fun _ => rfl
          case os => exact rfl
          case pst => exact post9 _
          case bare =>
            have b0 : AllBare s₁.gens := by rw [hg]; exact AllBare.empty
            exact hg25 (hg15 (hg14 (hg13 (hg12 b0))))
          case grown => exact ⟨GrownAt.of N26 (.head _), GrownAt.of N26 (.tail _ (.tail _ (.head _))), trivial⟩
end
end Mine
theorem PySem.Challenge.cw_kl0050_01_holds : PySem.Challenge.rw_kl0050_01.Holds :=
  Mine.top
