import PyProof.Rows.All
import Wide.All
import OpenK.AllK
import Wide.FinOn
import PySem.Challenge.RW_rl0086_01
open PySem PySem.W PyProof.Rows
set_option Elab.async false
set_option maxRecDepth 100000
set_option linter.unusedVariables false
namespace MineT
/-- the program's text with the rows that the law's head keeps -/
def vw : Program := { PySem.Challenge.pw_rl0086_01 with main := { PySem.Challenge.pw_rl0086_01.main with body := match PySem.Challenge.pw_rl0086_01.main.body with
  | [a, _, c, d, e, f, g, _, i, _, k, _, m, n, o, p, q, r, s] => [a, c, d, e, f, g, i, k, m, n, o, p, q, r, s]
  | l => l } }
theorem head_keep {p : Prop} (_ : True) (h : p) : p := h
theorem row_said : (OpenLaw.row PySem.Challenge.rw_rl0086_01).wellSaid = true := by decide +kernel
theorem law_said : OpenLaw.wellSaid PySem.Challenge.rw_rl0086_01 = true := by
  unfold OpenLaw.wellSaid
  rw [row_said]
  decide +kernel
section
local macro_rules | `(tactic| o_law) => `(tactic| refine holds_law law_said fun _ => ?_)
section
set_option hygiene false in
local macro_rules | `(tactic| o_head $_) => `(tactic| refine head_keep ?hw ?hc)
local macro_rules | `(tactic| w_witness2) => `(tactic| trivial)
open_top h0 for PySem.Challenge.rw_rl0086_01
end
end

/-- the addresses of the objects that the law's head writes out -/
def ads : List Addr := [2, 3, 15, 17, 18, 20, 21, 22, 29, 30, 31, 32, 35, 42, 43, 44, 47, 54, 55, 56, 59, 61, 62, 64, 65, 66, 68, 69, 71, 72,
    80, 82, 83, 85, 86, 87, 89, 90, 92, 93, 94, 96, 97, 99, 100, 101, 103, 104, 106, 107, 108, 109, 110, 111, 112, 125,
    127, 128, 130, 131, 132, 134, 135, 137, 138, 139, 141, 142, 144, 145, 146, 148, 149, 151, 152, 153, 155, 156, 158,
    159, 160, 162, 163, 165, 166, 167, 169, 170, 172, 173, 174, 175, 176, 177, 178, 181, 183, 184, 186, 187, 188, 191,
    192, 193, 196, 197, 198, 200, 201, 203, 204, 205, 207, 208, 210, 211, 212, 215, 216, 217, 220, 221]
theorem ads_are : ∀ P, ads = (h0.heap_1 P).map (·.1) := fun _ => by kernel_rfl
noncomputable abbrev hk : Hook := kmHook h0.heap_1 ads ads_are [182]
noncomputable abbrev hX (s : Shared) : Bool := xlAt vw [] s && recOk (RowW.records (OpenRow.toRowW PySem.Challenge.rw_rl0086_01.row)) s
/-- an object that the head writes out -/
noncomputable def ob (P : Params) (a : Nat) : Obj := match (h0.heap_1 P).lookup a with
  | some o => o
  | none => boot_o_0 P
/-- the bare function in a code object: that of a function that the head writes out -/
noncomputable def fb (P : Params) (a : Nat) : Obj := match (ob P a).data with
  | .func f => ⟨.none, none, .func { name := f.name, qualname := f.qualname, params := f.params, body := f.body, scope := f.scope, globals := 0, closure := [], defaults := .none, kwdefaults := .none }, #[]⟩
  | _ => boot_o_0 P
noncomputable def o_11_1 (P : Params) : Obj := (Obj.mk (Value.type "tuple") (Option.none) (Data.seq #[] 0) #[])
noncomputable def o_12_1 (P : Params) : Obj := (Obj.mk Value.none (Option.none) (Data.fields #[]) #[])
noncomputable def o_13_1 (P : Params) : Obj := (Obj.mk (Value.type "code") (Option.none) (Data.fields #[(Value.str (Str.ofString "<module>") 182), (Value.str (Str.ofString "<module>") 183), (Value.str (Str.ofString "/claim/cut.py") 184), (Value.int 1 0), (Value.int 0 0), (Value.int 0 0), (Value.int 0 0), (Value.int 0 0), (Value.ref 11), (Value.bool Bool.false), (Value.int 181 0), (Value.ref 12), Value.none, Value.none, Value.none, Value.none, (Value.int 185 0), (Value.int 1 0), (Value.str (Str.ofString "/claim/cut.py") 186)]) #[])
noncomputable def o_14_1 (P : Params) : Obj := (Obj.mk (Value.type "frame") (Option.none) Data.plain #[(Option.some (Value.ref 13)), (Option.some (Value.ref 3)), (Option.some (Value.ref 3)), (Option.none), (Option.some (Value.str (Str.ofString "__main__") 164)), (Option.none), (Option.some (Value.ref 0))])
noncomputable def o_16_2 (P : Params) : Obj := (Obj.mk Value.none (Option.none) (Data.fields #[]) #[])
noncomputable def o_23_2 (P : Params) : Obj := (Obj.mk (Value.type "builtin_function_or_method") (Option.none) (Data.fields #[(Value.builtin "type.__prepare__"), (Value.type "type")]) #[])
noncomputable def o_24_2 (P : Params) : Obj := (Obj.mk (Value.type "dict") (Option.none) (Data.dict #[(DictEntry.mk (PyData.keyHash P (Str.ofString "__module__")) (Value.str (Str.ofString "__module__") 203) (Value.str (Str.ofString "cpy313.ftplib") 194)), (DictEntry.mk (PyData.keyHash P (Str.ofString "__qualname__")) (Value.str (Str.ofString "__qualname__") 205) (Value.str (Str.ofString "Error") 204)), (DictEntry.mk (PyData.keyHash P (Str.ofString "__firstlineno__")) (Value.str (Str.ofString "__firstlineno__") 207) (Value.int 5 206)), (DictEntry.mk (PyData.keyHash P (Str.ofString "__static_attributes__")) (Value.str (Str.ofString "__static_attributes__") 208) (Value.ref 29))] 4) #[])
noncomputable def o_25_2 (P : Params) : Obj := (Obj.mk (Value.type "tuple") (Option.none) (Data.seq #[] 0) #[])
noncomputable def o_26_2 (P : Params) : Obj := (Obj.mk Value.none (Option.none) (Data.fields #[]) #[])
noncomputable def o_27_2 (P : Params) : Obj := (Obj.mk (Value.type "code") (Option.none) (Data.fields #[(Value.str (Str.ofString "Error") 198), (Value.str (Str.ofString "Error") 199), (Value.str (Str.ofString "/claim/cut.py") 200), (Value.int 5 0), (Value.int 0 0), (Value.int 0 0), (Value.int 0 0), (Value.int 0 0), (Value.ref 25), (Value.bool Bool.false), (Value.int 181 0), (Value.ref 26), Value.none, Value.none, Value.none, Value.none, (Value.int 201 0), (Value.int 5 0), (Value.str (Str.ofString "/claim/cut.py") 202)]) #[])
noncomputable def o_28_2 (P : Params) : Obj := (Obj.mk (Value.type "frame") (Option.none) Data.plain #[(Option.some (Value.ref 27)), (Option.some (Value.ref 3)), (Option.some (Value.ref 24)), (Option.none), (Option.some (Value.str (Str.ofString "cpy313.ftplib") 194)), (Option.none), (Option.some (Value.ref 0))])
noncomputable def o_33_2 (P : Params) : Obj := (Obj.mk (Value.type "super") (Option.none) (Data.fields #[(Value.ref 31), (Value.ref 31), (Value.ref 31)]) #[])
noncomputable def o_34_2 (P : Params) : Obj := (Obj.mk (Value.type "builtin_function_or_method") (Option.none) (Data.fields #[(Value.builtin "object.__init_subclass__"), (Value.ref 31)]) #[])
noncomputable def o_36_2 (P : Params) : Obj := (Obj.mk (Value.type "builtin_function_or_method") (Option.none) (Data.fields #[(Value.builtin "type.__prepare__"), (Value.type "type")]) #[])
noncomputable def o_37_2 (P : Params) : Obj := (Obj.mk (Value.type "dict") (Option.none) (Data.dict #[(DictEntry.mk (PyData.keyHash P (Str.ofString "__module__")) (Value.str (Str.ofString "__module__") 223) (Value.str (Str.ofString "cpy313.ftplib") 194)), (DictEntry.mk (PyData.keyHash P (Str.ofString "__qualname__")) (Value.str (Str.ofString "__qualname__") 225) (Value.str (Str.ofString "error_reply") 224)), (DictEntry.mk (PyData.keyHash P (Str.ofString "__firstlineno__")) (Value.str (Str.ofString "__firstlineno__") 227) (Value.int 7 226)), (DictEntry.mk (PyData.keyHash P (Str.ofString "__static_attributes__")) (Value.str (Str.ofString "__static_attributes__") 228) (Value.ref 42))] 4) #[])
noncomputable def o_38_2 (P : Params) : Obj := (Obj.mk (Value.type "tuple") (Option.none) (Data.seq #[] 0) #[])
noncomputable def o_39_2 (P : Params) : Obj := (Obj.mk Value.none (Option.none) (Data.fields #[]) #[])
noncomputable def o_40_2 (P : Params) : Obj := (Obj.mk (Value.type "code") (Option.none) (Data.fields #[(Value.str (Str.ofString "error_reply") 218), (Value.str (Str.ofString "error_reply") 219), (Value.str (Str.ofString "/claim/cut.py") 220), (Value.int 7 0), (Value.int 0 0), (Value.int 0 0), (Value.int 0 0), (Value.int 0 0), (Value.ref 38), (Value.bool Bool.false), (Value.int 181 0), (Value.ref 39), Value.none, Value.none, Value.none, Value.none, (Value.int 221 0), (Value.int 7 0), (Value.str (Str.ofString "/claim/cut.py") 222)]) #[])
noncomputable def o_41_2 (P : Params) : Obj := (Obj.mk (Value.type "frame") (Option.none) Data.plain #[(Option.some (Value.ref 40)), (Option.some (Value.ref 3)), (Option.some (Value.ref 37)), (Option.none), (Option.some (Value.str (Str.ofString "cpy313.ftplib") 194)), (Option.none), (Option.some (Value.ref 0))])
noncomputable def o_45_2 (P : Params) : Obj := (Obj.mk (Value.type "super") (Option.none) (Data.fields #[(Value.ref 44), (Value.ref 44), (Value.ref 44)]) #[])
noncomputable def o_46_2 (P : Params) : Obj := (Obj.mk (Value.type "builtin_function_or_method") (Option.none) (Data.fields #[(Value.builtin "object.__init_subclass__"), (Value.ref 44)]) #[])
noncomputable def o_48_2 (P : Params) : Obj := (Obj.mk (Value.type "builtin_function_or_method") (Option.none) (Data.fields #[(Value.builtin "type.__prepare__"), (Value.type "type")]) #[])
noncomputable def o_49_2 (P : Params) : Obj := (Obj.mk (Value.type "dict") (Option.none) (Data.dict #[(DictEntry.mk (PyData.keyHash P (Str.ofString "__module__")) (Value.str (Str.ofString "__module__") 239) (Value.str (Str.ofString "cpy313.ftplib") 194)), (DictEntry.mk (PyData.keyHash P (Str.ofString "__qualname__")) (Value.str (Str.ofString "__qualname__") 241) (Value.str (Str.ofString "error_proto") 240)), (DictEntry.mk (PyData.keyHash P (Str.ofString "__firstlineno__")) (Value.str (Str.ofString "__firstlineno__") 243) (Value.int 9 242)), (DictEntry.mk (PyData.keyHash P (Str.ofString "__static_attributes__")) (Value.str (Str.ofString "__static_attributes__") 244) (Value.ref 54))] 4) #[])
noncomputable def o_50_2 (P : Params) : Obj := (Obj.mk (Value.type "tuple") (Option.none) (Data.seq #[] 0) #[])
noncomputable def o_51_2 (P : Params) : Obj := (Obj.mk Value.none (Option.none) (Data.fields #[]) #[])
noncomputable def o_52_2 (P : Params) : Obj := (Obj.mk (Value.type "code") (Option.none) (Data.fields #[(Value.str (Str.ofString "error_proto") 234), (Value.str (Str.ofString "error_proto") 235), (Value.str (Str.ofString "/claim/cut.py") 236), (Value.int 9 0), (Value.int 0 0), (Value.int 0 0), (Value.int 0 0), (Value.int 0 0), (Value.ref 50), (Value.bool Bool.false), (Value.int 181 0), (Value.ref 51), Value.none, Value.none, Value.none, Value.none, (Value.int 237 0), (Value.int 9 0), (Value.str (Str.ofString "/claim/cut.py") 238)]) #[])
noncomputable def o_53_2 (P : Params) : Obj := (Obj.mk (Value.type "frame") (Option.none) Data.plain #[(Option.some (Value.ref 52)), (Option.some (Value.ref 3)), (Option.some (Value.ref 49)), (Option.none), (Option.some (Value.str (Str.ofString "cpy313.ftplib") 194)), (Option.none), (Option.some (Value.ref 0))])
noncomputable def o_57_2 (P : Params) : Obj := (Obj.mk (Value.type "super") (Option.none) (Data.fields #[(Value.ref 56), (Value.ref 56), (Value.ref 56)]) #[])
noncomputable def o_58_2 (P : Params) : Obj := (Obj.mk (Value.type "builtin_function_or_method") (Option.none) (Data.fields #[(Value.builtin "object.__init_subclass__"), (Value.ref 56)]) #[])
noncomputable def o_3_3 (P : Params) : Obj := (Obj.mk (Value.type "dict") (Option.none) (Data.dict #[(DictEntry.mk (PyData.keyHash P (Str.ofString "__name__")) (Value.str (Str.ofString "__name__") 165) (Value.str (Str.ofString "cpy313.tabnanny") 332)), (DictEntry.mk (PyData.keyHash P (Str.ofString "__doc__")) (Value.str (Str.ofString "__doc__") 166) Value.none), (DictEntry.mk (PyData.keyHash P (Str.ofString "__package__")) (Value.str (Str.ofString "__package__") 167) Value.none), (DictEntry.mk (PyData.keyHash P (Str.ofString "__loader__")) (Value.str (Str.ofString "__loader__") 168) (Value.builtin "__main__.__loader__#opaque")), (DictEntry.mk (PyData.keyHash P (Str.ofString "__spec__")) (Value.str (Str.ofString "__spec__") 169) Value.none), (DictEntry.mk (PyData.keyHash P (Str.ofString "__annotations__")) (Value.str (Str.ofString "__annotations__") 170) (Value.ref 6)), (DictEntry.mk (PyData.keyHash P (Str.ofString "__builtins__")) (Value.str (Str.ofString "__builtins__") 171) (Value.ref 4)), (DictEntry.mk (PyData.keyHash P (Str.ofString "__file__")) (Value.str (Str.ofString "__file__") 173) (Value.str (Str.ofString "/claim/cut.py") 172)), (DictEntry.mk (PyData.keyHash P (Str.ofString "__cached__")) (Value.str (Str.ofString "__cached__") 174) Value.none), (DictEntry.mk (PyData.keyHash P (Str.ofString "_wall")) (Value.str (Str.ofString "_wall") 193) (Value.ref 21)), (DictEntry.mk (PyData.keyHash P (Str.ofString "Error")) (Value.str (Str.ofString "Error") 215) (Value.ref 31)), (DictEntry.mk (PyData.keyHash P (Str.ofString "error_reply")) (Value.str (Str.ofString "error_reply") 231) (Value.ref 44)), (DictEntry.mk (PyData.keyHash P (Str.ofString "error_proto")) (Value.str (Str.ofString "error_proto") 247) (Value.ref 56)), (DictEntry.mk (PyData.keyHash P (Str.ofString "parse229")) (Value.str (Str.ofString "parse229") 260) (Value.ref 65)), (DictEntry.mk (PyData.keyHash P (Str.ofString "parse257")) (Value.str (Str.ofString "parse257") 271) (Value.ref 72)), (DictEntry.mk (PyData.keyHash P (Str.ofString "_netrclex")) (Value.str (Str.ofString "_netrclex") 331) (Value.ref 110))] 16) #[])
noncomputable def o_12_3 (P : Params) : Obj := (Obj.mk Value.none (Option.none) (Data.fields #[(Value.int 1 0), (Value.int 0 0), (Value.ref 20), (Value.int 5 0), (Value.int 0 0), (Value.ref 27), (Value.int 7 0), (Value.int 0 0), (Value.ref 40), (Value.int 9 0), (Value.int 0 0), (Value.ref 52), (Value.int 11 0), (Value.int 0 0), (Value.ref 64), (Value.int 28 0), (Value.int 0 0), (Value.ref 71), (Value.int 46 0), (Value.int 0 0), (Value.ref 78)]) #[])
noncomputable def o_60_3 (P : Params) : Obj := (Obj.mk Value.none (Option.none) (Data.fields #[]) #[])
noncomputable def o_67_3 (P : Params) : Obj := (Obj.mk Value.none (Option.none) (Data.fields #[]) #[])
noncomputable def o_73_3 (P : Params) : Obj := (Obj.mk (Value.type "tuple") (Option.none) (Data.seq #[] 0) #[])
noncomputable def o_74_3 (P : Params) : Obj := (Obj.mk (Value.type "builtin_function_or_method") (Option.none) (Data.fields #[(Value.builtin "type.__prepare__"), (Value.type "type")]) #[])
noncomputable def o_75_3 (P : Params) : Obj := (Obj.mk (Value.type "dict") (Option.none) (Data.dict #[(DictEntry.mk (PyData.keyHash P (Str.ofString "__module__")) (Value.str (Str.ofString "__module__") 281) (Value.str (Str.ofString "cpy313.netrc") 272)), (DictEntry.mk (PyData.keyHash P (Str.ofString "__qualname__")) (Value.str (Str.ofString "__qualname__") 283) (Value.str (Str.ofString "_netrclex") 282)), (DictEntry.mk (PyData.keyHash P (Str.ofString "__firstlineno__")) (Value.str (Str.ofString "__firstlineno__") 285) (Value.int 46 284)), (DictEntry.mk (PyData.keyHash P (Str.ofString "__init__")) (Value.str (Str.ofString "__init__") 293) (Value.ref 86)), (DictEntry.mk (PyData.keyHash P (Str.ofString "_read_char")) (Value.str (Str.ofString "_read_char") 301) (Value.ref 93)), (DictEntry.mk (PyData.keyHash P (Str.ofString "get_token")) (Value.str (Str.ofString "get_token") 311) (Value.ref 100)), (DictEntry.mk (PyData.keyHash P (Str.ofString "push_token")) (Value.str (Str.ofString "push_token") 319) (Value.ref 107)), (DictEntry.mk (PyData.keyHash P (Str.ofString "__static_attributes__")) (Value.str (Str.ofString "__static_attributes__") 324) (Value.ref 108))] 8) #[])
noncomputable def o_76_3 (P : Params) : Obj := (Obj.mk (Value.type "tuple") (Option.none) (Data.seq #[] 0) #[])
noncomputable def o_77_3 (P : Params) : Obj := (Obj.mk Value.none (Option.none) (Data.fields #[(Value.int 48 0), (Value.int 4 0), (Value.ref 85), (Value.int 54 0), (Value.int 4 0), (Value.ref 92), (Value.int 60 0), (Value.int 4 0), (Value.ref 99), (Value.int 87 0), (Value.int 4 0), (Value.ref 106)]) #[])
noncomputable def o_78_3 (P : Params) : Obj := (Obj.mk (Value.type "code") (Option.none) (Data.fields #[(Value.str (Str.ofString "_netrclex") 276), (Value.str (Str.ofString "_netrclex") 277), (Value.str (Str.ofString "/claim/cut.py") 278), (Value.int 46 0), (Value.int 0 0), (Value.int 0 0), (Value.int 0 0), (Value.int 0 0), (Value.ref 76), (Value.bool Bool.false), (Value.int 181 0), (Value.ref 77), Value.none, Value.none, Value.none, Value.none, (Value.int 279 0), (Value.int 46 0), (Value.str (Str.ofString "/claim/cut.py") 280)]) #[])
noncomputable def o_79_3 (P : Params) : Obj := (Obj.mk (Value.type "frame") (Option.none) Data.plain #[(Option.some (Value.ref 78)), (Option.some (Value.ref 3)), (Option.some (Value.ref 75)), (Option.none), (Option.some (Value.str (Str.ofString "cpy313.netrc") 272)), (Option.none), (Option.some (Value.ref 0))])
noncomputable def o_81_3 (P : Params) : Obj := (Obj.mk Value.none (Option.none) (Data.fields #[]) #[])
noncomputable def o_88_3 (P : Params) : Obj := (Obj.mk Value.none (Option.none) (Data.fields #[]) #[])
noncomputable def o_95_3 (P : Params) : Obj := (Obj.mk Value.none (Option.none) (Data.fields #[]) #[])
noncomputable def o_102_3 (P : Params) : Obj := (Obj.mk Value.none (Option.none) (Data.fields #[]) #[])
noncomputable def o_113_3 (P : Params) : Obj := (Obj.mk (Value.type "super") (Option.none) (Data.fields #[(Value.ref 110), (Value.ref 110), (Value.ref 110)]) #[])
noncomputable def o_114_3 (P : Params) : Obj := (Obj.mk (Value.type "builtin_function_or_method") (Option.none) (Data.fields #[(Value.builtin "object.__init_subclass__"), (Value.ref 110)]) #[])
noncomputable def o_3_4 (P : Params) : Obj := (Obj.mk (Value.type "dict") (Option.none) (Data.dict #[(DictEntry.mk (PyData.keyHash P (Str.ofString "__name__")) (Value.str (Str.ofString "__name__") 165) (Value.str (Str.ofString "cpy313.tabnanny") 332)), (DictEntry.mk (PyData.keyHash P (Str.ofString "__doc__")) (Value.str (Str.ofString "__doc__") 166) Value.none), (DictEntry.mk (PyData.keyHash P (Str.ofString "__package__")) (Value.str (Str.ofString "__package__") 167) Value.none), (DictEntry.mk (PyData.keyHash P (Str.ofString "__loader__")) (Value.str (Str.ofString "__loader__") 168) (Value.builtin "__main__.__loader__#opaque")), (DictEntry.mk (PyData.keyHash P (Str.ofString "__spec__")) (Value.str (Str.ofString "__spec__") 169) Value.none), (DictEntry.mk (PyData.keyHash P (Str.ofString "__annotations__")) (Value.str (Str.ofString "__annotations__") 170) (Value.ref 6)), (DictEntry.mk (PyData.keyHash P (Str.ofString "__builtins__")) (Value.str (Str.ofString "__builtins__") 171) (Value.ref 4)), (DictEntry.mk (PyData.keyHash P (Str.ofString "__file__")) (Value.str (Str.ofString "__file__") 173) (Value.str (Str.ofString "/claim/cut.py") 172)), (DictEntry.mk (PyData.keyHash P (Str.ofString "__cached__")) (Value.str (Str.ofString "__cached__") 174) Value.none), (DictEntry.mk (PyData.keyHash P (Str.ofString "_wall")) (Value.str (Str.ofString "_wall") 193) (Value.ref 21)), (DictEntry.mk (PyData.keyHash P (Str.ofString "Error")) (Value.str (Str.ofString "Error") 215) (Value.ref 31)), (DictEntry.mk (PyData.keyHash P (Str.ofString "error_reply")) (Value.str (Str.ofString "error_reply") 231) (Value.ref 44)), (DictEntry.mk (PyData.keyHash P (Str.ofString "error_proto")) (Value.str (Str.ofString "error_proto") 247) (Value.ref 56)), (DictEntry.mk (PyData.keyHash P (Str.ofString "parse229")) (Value.str (Str.ofString "parse229") 260) (Value.ref 65)), (DictEntry.mk (PyData.keyHash P (Str.ofString "parse257")) (Value.str (Str.ofString "parse257") 271) (Value.ref 72)), (DictEntry.mk (PyData.keyHash P (Str.ofString "_netrclex")) (Value.str (Str.ofString "_netrclex") 331) (Value.ref 110)), (DictEntry.mk (PyData.keyHash P (Str.ofString "Whitespace")) (Value.str (Str.ofString "Whitespace") 429) (Value.ref 176))] 17) #[])
noncomputable def o_12_4 (P : Params) : Obj := (Obj.mk Value.none (Option.none) (Data.fields #[(Value.int 1 0), (Value.int 0 0), (Value.ref 20), (Value.int 5 0), (Value.int 0 0), (Value.ref 27), (Value.int 7 0), (Value.int 0 0), (Value.ref 40), (Value.int 9 0), (Value.int 0 0), (Value.ref 52), (Value.int 11 0), (Value.int 0 0), (Value.ref 64), (Value.int 28 0), (Value.int 0 0), (Value.ref 71), (Value.int 46 0), (Value.int 0 0), (Value.ref 78), (Value.int 90 0), (Value.int 0 0), (Value.ref 120)]) #[])
noncomputable def o_115_4 (P : Params) : Obj := (Obj.mk (Value.type "tuple") (Option.none) (Data.seq #[] 0) #[])
noncomputable def o_116_4 (P : Params) : Obj := (Obj.mk (Value.type "builtin_function_or_method") (Option.none) (Data.fields #[(Value.builtin "type.__prepare__"), (Value.type "type")]) #[])
noncomputable def o_117_4 (P : Params) : Obj := (Obj.mk (Value.type "dict") (Option.none) (Data.dict #[(DictEntry.mk (PyData.keyHash P (Str.ofString "__module__")) (Value.str (Str.ofString "__module__") 341) (Value.str (Str.ofString "cpy313.tabnanny") 332)), (DictEntry.mk (PyData.keyHash P (Str.ofString "__qualname__")) (Value.str (Str.ofString "__qualname__") 343) (Value.str (Str.ofString "Whitespace") 342)), (DictEntry.mk (PyData.keyHash P (Str.ofString "__firstlineno__")) (Value.str (Str.ofString "__firstlineno__") 345) (Value.int 90 344)), (DictEntry.mk (PyData.keyHash P (Str.ofString "S")) (Value.str (Str.ofString "S") 349) (Value.str (Str.ofString " ") 347)), (DictEntry.mk (PyData.keyHash P (Str.ofString "T")) (Value.str (Str.ofString "T") 350) (Value.str (Str.ofString "\t") 348)), (DictEntry.mk (PyData.keyHash P (Str.ofString "__init__")) (Value.str (Str.ofString "__init__") 365) (Value.ref 131)), (DictEntry.mk (PyData.keyHash P (Str.ofString "longest_run_of_spaces")) (Value.str (Str.ofString "longest_run_of_spaces") 372) (Value.ref 138)), (DictEntry.mk (PyData.keyHash P (Str.ofString "indent_level")) (Value.str (Str.ofString "indent_level") 384) (Value.ref 145)), (DictEntry.mk (PyData.keyHash P (Str.ofString "equal")) (Value.str (Str.ofString "equal") 392) (Value.ref 152)), (DictEntry.mk (PyData.keyHash P (Str.ofString "not_equal_witness")) (Value.str (Str.ofString "not_equal_witness") 400) (Value.ref 159)), (DictEntry.mk (PyData.keyHash P (Str.ofString "less")) (Value.str (Str.ofString "less") 408) (Value.ref 166)), (DictEntry.mk (PyData.keyHash P (Str.ofString "not_less_witness")) (Value.str (Str.ofString "not_less_witness") 416) (Value.ref 173)), (DictEntry.mk (PyData.keyHash P (Str.ofString "__static_attributes__")) (Value.str (Str.ofString "__static_attributes__") 422) (Value.ref 174))] 13) #[])
noncomputable def o_118_4 (P : Params) : Obj := (Obj.mk (Value.type "tuple") (Option.none) (Data.seq #[] 0) #[])
noncomputable def o_119_4 (P : Params) : Obj := (Obj.mk Value.none (Option.none) (Data.fields #[(Value.int 93 0), (Value.int 4 0), (Value.ref 130), (Value.int 116 0), (Value.int 4 0), (Value.ref 137), (Value.int 119 0), (Value.int 4 0), (Value.ref 144), (Value.int 126 0), (Value.int 4 0), (Value.ref 151), (Value.int 129 0), (Value.int 4 0), (Value.ref 158), (Value.int 132 0), (Value.int 4 0), (Value.ref 165), (Value.int 135 0), (Value.int 4 0), (Value.ref 172)]) #[])
noncomputable def o_120_4 (P : Params) : Obj := (Obj.mk (Value.type "code") (Option.none) (Data.fields #[(Value.str (Str.ofString "Whitespace") 336), (Value.str (Str.ofString "Whitespace") 337), (Value.str (Str.ofString "/claim/cut.py") 338), (Value.int 90 0), (Value.int 0 0), (Value.int 0 0), (Value.int 0 0), (Value.int 0 0), (Value.ref 118), (Value.bool Bool.false), (Value.int 181 0), (Value.ref 119), Value.none, Value.none, Value.none, Value.none, (Value.int 339 0), (Value.int 90 0), (Value.str (Str.ofString "/claim/cut.py") 340)]) #[])
noncomputable def o_121_4 (P : Params) : Obj := (Obj.mk (Value.type "frame") (Option.none) Data.plain #[(Option.some (Value.ref 120)), (Option.some (Value.ref 3)), (Option.some (Value.ref 117)), (Option.none), (Option.some (Value.str (Str.ofString "cpy313.tabnanny") 332)), (Option.none), (Option.some (Value.ref 0))])
noncomputable def o_122_4 (P : Params) : Obj := (Obj.mk (Value.type "str_ascii_iterator") (Option.none) (Data.fields #[Value.none, (Value.int 2 0)]) #[])
noncomputable def o_123_4 (P : Params) : Obj := (Obj.mk (Value.type "tuple") (Option.none) (Data.seq #[] 0) #[])
noncomputable def o_124_4 (P : Params) : Obj := (Obj.mk (Value.type "StopIteration") (Option.none) (Data.fields #[(Value.ref 123), Value.none, Value.none, Value.none, (Value.bool Bool.false), Value.none]) #[])
noncomputable def o_126_4 (P : Params) : Obj := (Obj.mk Value.none (Option.none) (Data.fields #[]) #[])
noncomputable def o_133_4 (P : Params) : Obj := (Obj.mk Value.none (Option.none) (Data.fields #[]) #[])
noncomputable def o_140_4 (P : Params) : Obj := (Obj.mk Value.none (Option.none) (Data.fields #[]) #[])
noncomputable def o_147_4 (P : Params) : Obj := (Obj.mk Value.none (Option.none) (Data.fields #[]) #[])
noncomputable def o_154_4 (P : Params) : Obj := (Obj.mk Value.none (Option.none) (Data.fields #[]) #[])
noncomputable def o_161_4 (P : Params) : Obj := (Obj.mk Value.none (Option.none) (Data.fields #[]) #[])
noncomputable def o_168_4 (P : Params) : Obj := (Obj.mk Value.none (Option.none) (Data.fields #[]) #[])
noncomputable def o_179_4 (P : Params) : Obj := (Obj.mk (Value.type "super") (Option.none) (Data.fields #[(Value.ref 176), (Value.ref 176), (Value.ref 176)]) #[])
noncomputable def o_180_4 (P : Params) : Obj := (Obj.mk (Value.type "builtin_function_or_method") (Option.none) (Data.fields #[(Value.builtin "object.__init_subclass__"), (Value.ref 176)]) #[])
noncomputable def o_12_5 (P : Params) : Obj := (Obj.mk Value.none (Option.none) (Data.fields #[(Value.int 1 0), (Value.int 0 0), (Value.ref 20), (Value.int 5 0), (Value.int 0 0), (Value.ref 27), (Value.int 7 0), (Value.int 0 0), (Value.ref 40), (Value.int 9 0), (Value.int 0 0), (Value.ref 52), (Value.int 11 0), (Value.int 0 0), (Value.ref 64), (Value.int 28 0), (Value.int 0 0), (Value.ref 71), (Value.int 46 0), (Value.int 0 0), (Value.ref 78), (Value.int 90 0), (Value.int 0 0), (Value.ref 120), (Value.int 138 0), (Value.int 0 0), (Value.ref 186), (Value.int 143 0), (Value.int 0 0), (Value.ref 191), (Value.int 149 0), (Value.int 0 0), (Value.ref 196), (Value.int 151 0), (Value.int 0 0), (Value.ref 203), (Value.int 155 0), (Value.int 0 0), (Value.ref 210), (Value.int 162 0), (Value.int 0 0), (Value.ref 215), (Value.int 174 0), (Value.int 0 0), (Value.ref 220)]) #[])
noncomputable def o_182_5 (P : Params) : Obj := (Obj.mk Value.none (Option.none) (Data.fields #[]) #[])
noncomputable def o_189_5 (P : Params) : Obj := (Obj.mk Value.none (Option.none) (Data.fields #[]) #[])
noncomputable def o_194_5 (P : Params) : Obj := (Obj.mk Value.none (Option.none) (Data.fields #[]) #[])
noncomputable def o_199_5 (P : Params) : Obj := (Obj.mk Value.none (Option.none) (Data.fields #[]) #[])
noncomputable def o_206_5 (P : Params) : Obj := (Obj.mk Value.none (Option.none) (Data.fields #[]) #[])
noncomputable def o_213_5 (P : Params) : Obj := (Obj.mk Value.none (Option.none) (Data.fields #[]) #[])
noncomputable def o_218_5 (P : Params) : Obj := (Obj.mk Value.none (Option.none) (Data.fields #[]) #[])
noncomputable def H_1 (P : Params) : Heap := ⟨#[(boot_o_0 P), (boot_o_1 P), (boot_o_2 P), (boot_o_3 P), (boot_o_4 P), (boot_o_5 P), (boot_o_6 P), (boot_o_7 P), (boot_o_8 P), (boot_o_9 P), (boot_o_10 P), (o_11_1 P), (o_12_1 P), (o_13_1 P), (o_14_1 P)], (Life.mk [] [] [] 0 [] [] Bool.false #[] [] 0 Bool.false Bool.false Bool.false 0 [2000, 10, 10] Bool.false 0 Bool.true [] [] 0 Bool.false)⟩
noncomputable def H_3 (P : Params) : Heap := ⟨#[(boot_o_0 P), (boot_o_1 P), (ob P 2), (o_3_3 P), (boot_o_4 P), (boot_o_5 P), (boot_o_6 P), (boot_o_7 P), (boot_o_8 P), (boot_o_9 P), (boot_o_10 P), (o_11_1 P), (o_12_3 P), (o_13_1 P), (o_14_1 P), (ob P 15), (o_16_2 P), (ob P 17), (ob P 18), (fb P 21), (ob P 20), (ob P 21), (ob P 22), (o_23_2 P), (o_24_2 P), (o_25_2 P), (o_26_2 P), (o_27_2 P), (o_28_2 P), (ob P 29), (ob P 30), (ob P 31), (ob P 32), (o_33_2 P), (o_34_2 P), (ob P 35), (o_36_2 P), (o_37_2 P), (o_38_2 P), (o_39_2 P), (o_40_2 P), (o_41_2 P), (ob P 42), (ob P 43), (ob P 44), (o_45_2 P), (o_46_2 P), (ob P 47), (o_48_2 P), (o_49_2 P), (o_50_2 P), (o_51_2 P), (o_52_2 P), (o_53_2 P), (ob P 54), (ob P 55), (ob P 56), (o_57_2 P), (o_58_2 P), (ob P 59), (o_60_3 P), (ob P 61), (ob P 62), (fb P 65), (ob P 64), (ob P 65), (ob P 66), (o_67_3 P), (ob P 68), (ob P 69), (fb P 72), (ob P 71), (ob P 72), (o_73_3 P), (o_74_3 P), (o_75_3 P), (o_76_3 P), (o_77_3 P), (o_78_3 P), (o_79_3 P), (ob P 80), (o_81_3 P), (ob P 82), (ob P 83), (fb P 86), (ob P 85), (ob P 86), (ob P 87), (o_88_3 P), (ob P 89), (ob P 90), (fb P 93), (ob P 92), (ob P 93), (ob P 94), (o_95_3 P), (ob P 96), (ob P 97), (fb P 100), (ob P 99), (ob P 100), (ob P 101), (o_102_3 P), (ob P 103), (ob P 104), (fb P 107), (ob P 106), (ob P 107), (ob P 108), (ob P 109), (ob P 110), (ob P 111), (ob P 112), (o_113_3 P), (o_114_3 P)], (Life.mk [] [] [] 0 [] [] Bool.false #[] [] 0 Bool.false Bool.false Bool.false 0 [2000, 10, 10] Bool.false 0 Bool.true [] [] 0 Bool.false)⟩
noncomputable def H_4 (P : Params) : Heap := ⟨#[(boot_o_0 P), (boot_o_1 P), (ob P 2), (o_3_4 P), (boot_o_4 P), (boot_o_5 P), (boot_o_6 P), (boot_o_7 P), (boot_o_8 P), (boot_o_9 P), (boot_o_10 P), (o_11_1 P), (o_12_4 P), (o_13_1 P), (o_14_1 P), (ob P 15), (o_16_2 P), (ob P 17), (ob P 18), (fb P 21), (ob P 20), (ob P 21), (ob P 22), (o_23_2 P), (o_24_2 P), (o_25_2 P), (o_26_2 P), (o_27_2 P), (o_28_2 P), (ob P 29), (ob P 30), (ob P 31), (ob P 32), (o_33_2 P), (o_34_2 P), (ob P 35), (o_36_2 P), (o_37_2 P), (o_38_2 P), (o_39_2 P), (o_40_2 P), (o_41_2 P), (ob P 42), (ob P 43), (ob P 44), (o_45_2 P), (o_46_2 P), (ob P 47), (o_48_2 P), (o_49_2 P), (o_50_2 P), (o_51_2 P), (o_52_2 P), (o_53_2 P), (ob P 54), (ob P 55), (ob P 56), (o_57_2 P), (o_58_2 P), (ob P 59), (o_60_3 P), (ob P 61), (ob P 62), (fb P 65), (ob P 64), (ob P 65), (ob P 66), (o_67_3 P), (ob P 68), (ob P 69), (fb P 72), (ob P 71), (ob P 72), (o_73_3 P), (o_74_3 P), (o_75_3 P), (o_76_3 P), (o_77_3 P), (o_78_3 P), (o_79_3 P), (ob P 80), (o_81_3 P), (ob P 82), (ob P 83), (fb P 86), (ob P 85), (ob P 86), (ob P 87), (o_88_3 P), (ob P 89), (ob P 90), (fb P 93), (ob P 92), (ob P 93), (ob P 94), (o_95_3 P), (ob P 96), (ob P 97), (fb P 100), (ob P 99), (ob P 100), (ob P 101), (o_102_3 P), (ob P 103), (ob P 104), (fb P 107), (ob P 106), (ob P 107), (ob P 108), (ob P 109), (ob P 110), (ob P 111), (ob P 112), (o_113_3 P), (o_114_3 P), (o_115_4 P), (o_116_4 P), (o_117_4 P), (o_118_4 P), (o_119_4 P), (o_120_4 P), (o_121_4 P), (o_122_4 P), (o_123_4 P), (o_124_4 P), (ob P 125), (o_126_4 P), (ob P 127), (ob P 128), (fb P 131), (ob P 130), (ob P 131), (ob P 132), (o_133_4 P), (ob P 134), (ob P 135), (fb P 138), (ob P 137), (ob P 138), (ob P 139), (o_140_4 P), (ob P 141), (ob P 142), (fb P 145), (ob P 144), (ob P 145), (ob P 146), (o_147_4 P), (ob P 148), (ob P 149), (fb P 152), (ob P 151), (ob P 152), (ob P 153), (o_154_4 P), (ob P 155), (ob P 156), (fb P 159), (ob P 158), (ob P 159), (ob P 160), (o_161_4 P), (ob P 162), (ob P 163), (fb P 166), (ob P 165), (ob P 166), (ob P 167), (o_168_4 P), (ob P 169), (ob P 170), (fb P 173), (ob P 172), (ob P 173), (ob P 174), (ob P 175), (ob P 176), (ob P 177), (ob P 178), (o_179_4 P), (o_180_4 P)], (Life.mk [] [] [] 0 [] [] Bool.false #[] [] 0 Bool.false Bool.false Bool.false 0 [2000, 10, 10] Bool.false 0 Bool.true [] [] 0 Bool.false)⟩
noncomputable def H_5 (P : Params) : Heap := ⟨#[(boot_o_0 P), (boot_o_1 P), (ob P 2), (ob P 3), (boot_o_4 P), (boot_o_5 P), (boot_o_6 P), (boot_o_7 P), (boot_o_8 P), (boot_o_9 P), (boot_o_10 P), (o_11_1 P), (o_12_5 P), (o_13_1 P), (o_14_1 P), (ob P 15), (o_16_2 P), (ob P 17), (ob P 18), (fb P 21), (ob P 20), (ob P 21), (ob P 22), (o_23_2 P), (o_24_2 P), (o_25_2 P), (o_26_2 P), (o_27_2 P), (o_28_2 P), (ob P 29), (ob P 30), (ob P 31), (ob P 32), (o_33_2 P), (o_34_2 P), (ob P 35), (o_36_2 P), (o_37_2 P), (o_38_2 P), (o_39_2 P), (o_40_2 P), (o_41_2 P), (ob P 42), (ob P 43), (ob P 44), (o_45_2 P), (o_46_2 P), (ob P 47), (o_48_2 P), (o_49_2 P), (o_50_2 P), (o_51_2 P), (o_52_2 P), (o_53_2 P), (ob P 54), (ob P 55), (ob P 56), (o_57_2 P), (o_58_2 P), (ob P 59), (o_60_3 P), (ob P 61), (ob P 62), (fb P 65), (ob P 64), (ob P 65), (ob P 66), (o_67_3 P), (ob P 68), (ob P 69), (fb P 72), (ob P 71), (ob P 72), (o_73_3 P), (o_74_3 P), (o_75_3 P), (o_76_3 P), (o_77_3 P), (o_78_3 P), (o_79_3 P), (ob P 80), (o_81_3 P), (ob P 82), (ob P 83), (fb P 86), (ob P 85), (ob P 86), (ob P 87), (o_88_3 P), (ob P 89), (ob P 90), (fb P 93), (ob P 92), (ob P 93), (ob P 94), (o_95_3 P), (ob P 96), (ob P 97), (fb P 100), (ob P 99), (ob P 100), (ob P 101), (o_102_3 P), (ob P 103), (ob P 104), (fb P 107), (ob P 106), (ob P 107), (ob P 108), (ob P 109), (ob P 110), (ob P 111), (ob P 112), (o_113_3 P), (o_114_3 P), (o_115_4 P), (o_116_4 P), (o_117_4 P), (o_118_4 P), (o_119_4 P), (o_120_4 P), (o_121_4 P), (o_122_4 P), (o_123_4 P), (o_124_4 P), (ob P 125), (o_126_4 P), (ob P 127), (ob P 128), (fb P 131), (ob P 130), (ob P 131), (ob P 132), (o_133_4 P), (ob P 134), (ob P 135), (fb P 138), (ob P 137), (ob P 138), (ob P 139), (o_140_4 P), (ob P 141), (ob P 142), (fb P 145), (ob P 144), (ob P 145), (ob P 146), (o_147_4 P), (ob P 148), (ob P 149), (fb P 152), (ob P 151), (ob P 152), (ob P 153), (o_154_4 P), (ob P 155), (ob P 156), (fb P 159), (ob P 158), (ob P 159), (ob P 160), (o_161_4 P), (ob P 162), (ob P 163), (fb P 166), (ob P 165), (ob P 166), (ob P 167), (o_168_4 P), (ob P 169), (ob P 170), (fb P 173), (ob P 172), (ob P 173), (ob P 174), (ob P 175), (ob P 176), (ob P 177), (ob P 178), (o_179_4 P), (o_180_4 P), (ob P 181), (o_182_5 P), (ob P 183), (ob P 184), (fb P 187), (ob P 186), (ob P 187), (ob P 188), (o_189_5 P), (fb P 192), (ob P 191), (ob P 192), (ob P 193), (o_194_5 P), (fb P 197), (ob P 196), (ob P 197), (ob P 198), (o_199_5 P), (ob P 200), (ob P 201), (fb P 204), (ob P 203), (ob P 204), (ob P 205), (o_206_5 P), (ob P 207), (ob P 208), (fb P 211), (ob P 210), (ob P 211), (ob P 212), (o_213_5 P), (fb P 216), (ob P 215), (ob P 216), (ob P 217), (o_218_5 P), (fb P 221), (ob P 220), (ob P 221)], (Life.mk [] [] [] 0 [] [] Bool.false #[] [] 0 Bool.false Bool.false Bool.false 0 [2000, 10, 10] Bool.false 0 Bool.true [] [] 0 Bool.false)⟩

noncomputable abbrev PW : Program := PySem.Challenge.pw_rl0086_01
noncomputable abbrev row0 : String := "special-get-raises"
noncomputable abbrev stAt (H : Params → Heap) (k : Nat) (w : World) (os : OsState) : Shared := ⟨H w.params, Array.mk [], boot_drawn, k, os⟩
noncomputable abbrev envT : Env := { scope := PW.main.scope, locals := mainNs, globals := mainNs, cells := [], code := .ref 13, frame := some 14 }
noncomputable abbrev codeT : Code := .body (behindTheImports PW) envT
noncomputable abbrev qT : Pos := ⟨0, 0, 0, 0⟩
noncomputable def sts1 : List Stmt := PW.main.body.take 10
noncomputable def sts3 : List Stmt := (PW.main.body.drop 10).take 1
noncomputable def sts4 : List Stmt := PW.main.body.drop 11
theorem sts_all : behindTheImports PW = sts1 ++ (sts3 ++ (sts4 ++ [])) := by kernel_rfl
theorem run_0 (w : World) (os : OsState) : topGo treeTable PW w 11 (some (.ref 6)) 12 (stAt boot_heap boot_toks w os) (topStub PW) =
    some (stAt H_1 187 w os, ⟨denote treeTable codeT, codeT, qT, [topFrame qT]⟩) := by kernel_rfl
theorem run_b (w : World) (os : OsState) : segRun treeTable PW w 11 (some (.ref 6)) 1 1 (stAt H_1 187 w os) (blockOf (behindTheImports PW) envT codeT qT [topFrame qT]) =
    some (.next, stAt H_1 187 w os, codeT, qT) := by kernel_rfl
theorem run_1 (w : World) (os : OsState) : segRun treeTable PW w 11 (some (.ref 6)) 1 1070 (stAt H_1 187 w os) (piecesOf sts1 envT codeT qT [topFrame qT]) =
    some (.next, stAt H_3 334 w os, codeT, ⟨89, 0, 89, 8⟩) := by kernel_rfl
theorem run_3b (w : World) (os : OsState) : (segRun treeTable PW (w.withFollow row0 false) 11 (some (.ref 6)) 1 489 (stAt H_3 334 (w.withFollow row0 false) os) (piecesOf sts3 envT codeT ⟨89, 0, 89, 8⟩ [topFrame qT]),
    segRun treeTable PW (w.withFollow row0 true) 11 (some (.ref 6)) 1 489 (stAt H_3 334 (w.withFollow row0 true) os) (piecesOf sts3 envT codeT ⟨89, 0, 89, 8⟩ [topFrame qT])) =
    (some (.next, stAt H_4 430 (w.withFollow row0 false) os, codeT, ⟨90, 0, 136, 16⟩), some (.next, stAt H_4 430 (w.withFollow row0 true) os, codeT, ⟨90, 0, 136, 16⟩)) := by kernel_rfl
theorem run_3 (w : World) (os : OsState) : segRun treeTable PW w 11 (some (.ref 6)) 1 489 (stAt H_3 334 w os) (piecesOf sts3 envT codeT ⟨89, 0, 89, 8⟩ [topFrame qT]) =
    some (.next, stAt H_4 430 w os, codeT, ⟨90, 0, 136, 16⟩) :=
  byRow2 row0 (P := fun w => segRun treeTable PW w 11 (some (.ref 6)) 1 489 (stAt H_3 334 w os) (piecesOf sts3 envT codeT ⟨89, 0, 89, 8⟩ [topFrame qT]) =
    some (.next, stAt H_4 430 w os, codeT, ⟨90, 0, 136, 16⟩)) (fun w => (Prod.mk.inj (run_3b w os)).1) (fun w => (Prod.mk.inj (run_3b w os)).2) w
theorem run_4 (w : World) (os : OsState) : segRun treeTable PW w 11 (some (.ref 6)) 1 208 (stAt H_4 430 w os) (piecesOf sts4 envT codeT ⟨90, 0, 136, 16⟩ [topFrame qT]) =
    some (.next, stAt H_5 484 w os, codeT, ⟨174, 0, 208, 68⟩) := by kernel_rfl
theorem run_e (w : World) (os : OsState) : topRun treeTable PW w 11 (some (.ref 6)) 2 (stAt H_5 484 w os) ⟨doneF .next, codeT, ⟨174, 0, 208, 68⟩, [topFrame qT]⟩ = some (stAt H_5 484 w os) := by kernel_rfl
theorem run_all (w : World) (os : OsState) : topRun treeTable PW w 11 (some (.ref 6)) 1782 (stAt boot_heap boot_toks w os) (topStub PW) = some (stAt H_5 484 w os) :=
  go_top (n := 12) (N := 1770) (run_0 w os) (piece_block (n := 1) (N := 1769) (run_b w os)
    ((congrArg (fun l => topRun treeTable PW w 11 (some (.ref 6)) 1769 (stAt H_1 187 w os) (restOf l envT codeT qT [topFrame qT])) sts_all).trans
      (piece_app (n := 1070) (N := 699) (run_1 w os) (piece_app (n := 489) (N := 210) (run_3 w os) (piece_app (n := 208) (N := 2) (run_4 w os) (piece_nil (run_e w os)))))))
theorem head_open : ∀ w : World, (fencedOpening treeTable PW w 3654).map (fun s => (s.heap, s.gens, s.drawn, s.toks)) = some (boot_heap w.params, Array.mk [], boot_drawn, boot_toks) :=
  boot_open (by kernel_rfl) (by decide) fun _ => by kernel_rfl
theorem head_size (w : World) : ((boot_heap w.params).isNs mainGlobals && (Array.mk [] : Array GenState).size == 0, (boot_heap w.params).objs.size, (boot_heap w.params).nsMap mainGlobals "__annotations__") = (true, 11, some (.ref 6)) := by kernel_rfl
theorem head_looks (w : World) : (fun os => ((staticsOk (importedModules PW.main.body) (boot_heap w.params) (H_5 w.params) && namesBound PW (H_5 w.params) && gensDone ⟨H_5 w.params, Array.mk [], boot_drawn, 484, os⟩ && laidKept (boot_heap w.params) (H_5 w.params)),
        openSeen vw [PySem.Str.ofString "Whitespace"] (importedModules PW.main.body) hX true ⟨H_5 w.params, Array.mk [], boot_drawn, 484, os⟩, hk.obs ⟨H_5 w.params, Array.mk [], boot_drawn, 484, os⟩)) = fun _ => (true, openGood vw [PySem.Str.ofString "Whitespace"], hk.val w) := by kernel_rfl
theorem head_left : LeftO PySem.Challenge.pw_rl0086_01 vw [PySem.Str.ofString "Whitespace"] hX hk.obs hk.val 3654 :=
  LeftO.of_pieces head_open head_size run_all (by decide) head_looks
section
local macro_rules | `(tactic| o_law) => `(tactic| refine holds_law law_said fun _ => ?_)
local macro_rules | `(tactic| k_head) => `(tactic| o_head (kmHook h0.heap_1 ads ads_are [182]))
set_option hygiene false in
local macro_rules | `(tactic| o_head $H) => `(tactic| (
  refine holds_open (q := vw) (loose := [PySem.Str.ofString "Whitespace"]) (Xt := hX) (XP := XL vw []) (Yf := Hook.obs $H) (Ya := Hook.val $H) (YP := Hook.says $H) (N := 3654) head_left (Hook.of $H) (Hook.keeps $H) (fun s e => xl_of s (Bool.and_eq_true_iff.mp e).1) XL.keeps (by rfl) (by rfl) (by rfl) (fun s e => recFacts_of (Bool.and_eq_true_iff.mp e).2) (by rfl) (by first | assumption | decide +kernel) (by decide +kernel) ⟨rfl, rfl, rfl, rfl, rfl, by decide +kernel⟩ ?hw ?hc
  (case' hc => rename_i sd; clear sd)))
set_option maxHeartbeats 8000000 in
open_top hd for PySem.Challenge.rw_rl0086_01
end
end MineT
set_option linter.unusedVariables true
namespace Mine
set_option hygiene false in
local macro_rules | `(tactic| walk_at "lk") => `(tactic| first | assumption | with_reducible exact st_same _ _ _ | (refine st_ne (by kernel_rfl) ?_; walk_at "lk"))
set_option hygiene false in
local macro_rules | `(tactic| walk_at "len") => `(tactic| first | omega | (simp only [List.length_append, rep_len, itemL, List.length_cons, List.length_nil]; first | done | omega))
set_option hygiene false in
local macro_rules | `(tactic| walk_at "mem") => `(tactic| first | assumption | exact List.mem_cons_self | (refine List.mem_cons_of_mem _ ?_; walk_at "mem") | (refine List.mem_append_right _ ?_; walk_at "mem"))
set_option hygiene false in
local macro_rules | `(tactic| walk_at "pt") => `(tactic| first | exact Pt.head | exact Pt.tail (by walk_at "pt"))
set_option hygiene false in
local macro_rules | `(tactic| walk_at "ln") => `(tactic| first | with_reducible rfl | (refine st_ne (by kernel_rfl) ?_; walk_at "ln"))
set_option hygiene false in
local macro_rules | `(tactic| walk_at "nm") => `(tactic| first | with_reducible refine r_name C (by walk_at "lk") ?_ | with_reducible refine r_cname C (by walk_at "mem") (by assumption) (by walk_at "lk") ?_ | with_reducible refine r_ccellX C (by assumption) (by walk_at "mem") (by assumption) ?_ | with_reducible refine r_ccellC C (by assumption) (by walk_at "mem") (by assumption) ?_ | (first
  | with_reducible refine n_str G C ?_
  | with_reducible refine n_len G C ?_
  | with_reducible refine n_range G C ?_
  | with_reducible refine n_sum G C ?_
  | with_reducible refine n_enumerate G C ?_
  | with_reducible refine n_list G C ?_
  | with_reducible refine n_tuple G C ?_
  | with_reducible refine n_iter G C ?_
  | with_reducible refine n_int G C ?_
  | with_reducible refine n_isinstance G C ?_
  | with_reducible refine n_sorted G C ?_
  | with_reducible refine n_parse229 G C ?_
  | with_reducible refine n_parse257 G C ?_
  | with_reducible refine n_error_reply G C ?_
  | with_reducible refine n_error_proto G C ?_
  | with_reducible refine n_netrclex G C ?_
  | with_reducible refine n_Whitespace G C ?_
  | with_reducible refine n_law_lexer G C ?_
  | with_reducible refine n_law_spelled G C ?_
  | with_reducible refine n_law_lead G C ?_
  | with_reducible refine n_law_reply G C ?_
  | with_reducible refine n_law_answer G C ?_
  | with_reducible refine n_law_back G C ?_))
set_option hygiene false in
local macro_rules | `(tactic| walk_at "ev") => `(tactic| first
  | ((with_reducible show wpAny _ _ (eval (Expr.Name _ _) _) _ _ _); walk_at "nm")
  | ((with_reducible show wpAny _ _ (eval (Expr.BinOp _ _ _ _) _) _ _ _); with_reducible refine wpAny_BinOp ?_)
  | ((with_reducible show wpAny _ _ (eval (Expr.Constant (Const.int _) _ _) _) _ _ _); with_reducible refine r_int C ?_; intro t s C)
  | ((with_reducible show wpAny _ _ (eval (Expr.Constant (Const.str _) _ _) _) _ _ _); walk_at "lit")
  | ((with_reducible show wpAny _ _ (eval (Expr.Constant (Const.bool _) _ _) _) _ _ _); with_reducible refine wpAny_Constant_bool ?_)
  | ((with_reducible show wpAny _ _ (eval (Expr.Constant Const.none _ _) _) _ _ _); with_reducible refine wpAny_Constant_none ?_)
  | ((with_reducible show wpAny _ _ (eval (Expr.Subscript _ _ _) _) _ _ _); with_reducible refine Subscript_ ?_)
  | ((with_reducible show wpAny _ _ (eval (Expr.Slice _ _ _ _) _) _ _ _); with_reducible refine wpAny_Slice ?_)
  | ((with_reducible show wpAny _ _ (eval (Expr.Compare _ [_] [_] _) _) _ _ _); with_reducible refine c_cmp ?_)
  | ((with_reducible show wpAny _ _ (eval (Expr.IfExp _ _ _ _) _) _ _ _); with_reducible refine IfExp_ ?_)
  | ((with_reducible show wpAny _ _ (eval (Expr.Call (Expr.Attribute _ _ _) _ _ _) _) _ _ _); with_reducible refine c_meth ?_)
  | ((with_reducible show wpAny _ _ (eval (Expr.Call (Expr.Name _ _) _ _ _) _) _ _ _); with_reducible refine c_callN ?_)
  | ((with_reducible show wpAny _ _ (eval (Expr.UnaryOp UnaryOp.USub _ _) _) _ _ _); with_reducible refine c_neg ?_)
  | ((with_reducible show wpAny _ _ (eval (Expr.Tuple _ _ _) _) _ _ _); with_reducible refine Tuple_ ?_)
  | ((with_reducible show wpAny _ _ (eval (Expr.List _ _) _) _ _ _); with_reducible refine List_ ?_)
  | ((with_reducible show wpAny _ _ (eval (Expr.Attribute _ _ _) _) _ _ _); with_reducible refine c_attr ?_))
set_option hygiene false in
local macro_rules | `(tactic| walk_at "op") => `(tactic| first
  | ((with_reducible show wpAny _ _ (binaryOp Operator.Add (Value.int _ _) (Value.int _ _)) _ _ _); with_reducible refine r_addI C ?_; intro t s C)
  | ((with_reducible show wpAny _ _ (binaryOp Operator.Sub (Value.int _ _) (Value.int _ _)) _ _ _); with_reducible refine r_subI C ?_; intro t s C)
  | ((with_reducible show wpAny _ _ (binaryOp Operator.Add (Value.str _ _) (Value.str _ _)) _ _ _); with_reducible refine r_addS C (by walk_at "len") ?_; intro t s C)
  | ((with_reducible show wpAny _ _ (binaryOp Operator.Mult (Value.str _ _) (Value.int _ _)) _ _ _); with_reducible refine r_mulS C (by walk_at "len") (by walk_at "len") (by walk_at "len") ?_; intro t s C)
  | ((with_reducible show wpAny _ _ (binaryOp Operator.Mod (Value.int _ _) (Value.int _ _)) _ _ _); with_reducible refine r_modI C (by decide) ?_; intro t s C)
  | ((with_reducible show wpAny _ _ (binaryOp Operator.FloorDiv (Value.int _ _) (Value.int _ _)) _ _ _); with_reducible refine r_divI C (by decide) (by decide) ?_; intro t s C))
set_option hygiene false in
local macro_rules | `(tactic| walk_at "cmp") => `(tactic| first
  | ((with_reducible show wpAny _ _ (compareOp CmpOp.Eq (Value.str _ _) (Value.str _ _)) _ _ _); with_reducible refine r_eqS ?_)
  | ((with_reducible show wpAny _ _ (compareOp CmpOp.NotEq (Value.str _ _) (Value.str _ _)) _ _ _); with_reducible refine r_neS ?_)
  | ((with_reducible show wpAny _ _ (compareOp CmpOp.In (Value.str _ _) (Value.str _ _)) _ _ _); with_reducible refine r_inS ?_)
  | ((with_reducible show wpAny _ _ (compareOp CmpOp.Eq (Value.int _ _) (Value.int _ _)) _ _ _); with_reducible refine PyProof.Rows.eq_int ?_)
  | ((with_reducible show wpAny _ _ (compareOp CmpOp.NotEq (Value.int _ _) (Value.int _ _)) _ _ _); with_reducible refine PyProof.Rows.ne_int ?_)
  | ((with_reducible show wpAny _ _ (compareOp CmpOp.Lt (Value.int _ _) (Value.int _ _)) _ _ _); with_reducible refine PyProof.Rows.lt_int ?_)
  | ((with_reducible show wpAny _ _ (compareOp CmpOp.LtE (Value.int _ _) (Value.int _ _)) _ _ _); with_reducible refine PyProof.Rows.le_int ?_)
  | ((with_reducible show wpAny _ _ (compareOp CmpOp.Gt (Value.int _ _) (Value.int _ _)) _ _ _); with_reducible refine PyProof.Rows.gt_int ?_)
  | ((with_reducible show wpAny _ _ (compareOp CmpOp.GtE (Value.int _ _) (Value.int _ _)) _ _ _); with_reducible refine PyProof.Rows.ge_int ?_))
set_option hygiene false in
local macro_rules | `(tactic| walk_at "ex") => `(tactic| first
  | ((with_reducible show wpAny _ _ (exec (Stmt.Assign [Expr.Name _ _] _ _) _) _ _ _); with_reducible refine c_assign ?_)
  | ((with_reducible show wpAny _ _ (exec (Stmt.Assign [Expr.Attribute _ _ _] _ _) _) _ _ _); with_reducible refine c_assignA ?_)
  | ((with_reducible show wpAny _ _ (exec (Stmt.Assign [Expr.Subscript _ _ _] _ _) _) _ _ _); with_reducible refine c_assignS ?_)
  | ((with_reducible show wpAny _ _ (exec (Stmt.Assign [_, _, _] _ _) _) _ _ _); with_reducible refine c_assign3 ?_)
  | ((with_reducible show wpAny _ _ (exec (Stmt.For _ _ _ _ _) _) _ _ _); with_reducible refine c_for ?_)
  | ((with_reducible show wpAny _ _ (exec (Stmt.Return (some _) _) _) _ _ _); with_reducible refine wpAny_Return_some ?_)
  | ((with_reducible show wpAny _ _ (exec (Stmt.If _ _ _ _) _) _ _ _); with_reducible refine wpAny_If ?_)
  | ((with_reducible show wpAny _ _ (exec (Stmt.Expr _ _) _) _ _ _); with_reducible refine c_expr ?_)
  | ((with_reducible show wpAny _ _ (exec (Stmt.Break _) _) _ _ _); with_reducible refine wpAny_Break ?_)
  | ((with_reducible show wpAny _ _ (exec (Stmt.Continue _) _) _ _ _); with_reducible refine wpAny_Continue ?_)
  | ((with_reducible show wpAny _ _ (exec (Stmt.AugAssign (Expr.Attribute _ _ _) _ _ _) _) _ _ _); with_reducible refine c_augA ?_)
  | ((with_reducible show wpAny _ _ (exec (Stmt.AugAssign (Expr.Name _ _) _ _ _) _) _ _ _); with_reducible refine c_augN C (by walk_at "lk") ?_))
set_option hygiene false in
local macro_rules | `(tactic| walk_at "go") => `(tactic| first
  | ((with_reducible show wpAny _ _ (eval _ _) _ _ _); walk_at "ev")
  | ((with_reducible show wpAny _ _ (binaryOp _ _ _) _ _ _); walk_at "op")
  | ((with_reducible show wpAny _ _ (storeName _ _ _) _ _ _); first | (with_reducible refine r_store C ?_; intro s C; (try dsimp only)) | (with_reducible refine p_storeC C (by assumption) (by walk_at "pt") (by assumption) ?_; intro oc s hoc C; (try dsimp only)))
  | ((with_reducible show wpAny _ _ (unaryOp UnaryOp.USub (Value.int _ _)) _ _ _); with_reducible refine r_negI C ?_; intro t s C)
  | ((with_reducible show wpAny _ _ (callWith _ (Value.builtin _) [] (backTo _ (starEach [] _)) _) _ _ _); with_reducible refine c_method0 ?_)
  | ((with_reducible show wpAny _ _ (spliced _) _ _ _); first | with_reducible refine c_more ?_ | with_reducible refine spliced_none ?_)
  | ((with_reducible show wpAny _ _ (execs (_ :: _) _) _ _ _); with_reducible refine wpAny_execs_cons ?_)
  | ((with_reducible show wpAny _ _ (execs [] _) _ _ _); with_reducible refine wpAny_execs_nil ?_)
  | ((with_reducible show wpAny _ _ (exec _ _) _ _ _); walk_at "ex")
  | ((with_reducible show wpAny _ _ (compareOp _ _ _) _ _ _); walk_at "cmp")
  | ((with_reducible show wpAny _ _ (truthy (Value.bool _)) _ _ _); with_reducible refine wpAny_truthy_bool ?_)
  | ((with_reducible show wpAny _ _ (isTrue (Expr.Compare _ [_] [_] _) _ _) _ _ _); with_reducible refine c_isCmp ?_)
  | ((with_reducible show wpAny _ _ (isTrue (Expr.BoolOp BoolOp.Or (_ :: _) _) _ _) _ _ _); with_reducible refine isTrue_or ?_)
  | ((with_reducible show wpAny _ _ (isTrue (Expr.BoolOp BoolOp.And (_ :: _) _) _ _) _ _ _); with_reducible refine isTrue_and ?_)
  | ((with_reducible show wpAny _ _ (isTrue (Expr.BoolOp BoolOp.Or [] _) _ _) _ _ _); with_reducible refine isTrue_or_nil ?_)
  | ((with_reducible show wpAny _ _ (isTrue (Expr.BoolOp BoolOp.And [] _) _ _) _ _ _); with_reducible refine isTrue_and_nil ?_)
  | ((with_reducible show wpAny _ _ (assign (Expr.Name _ _) _ _) _ _ _); with_reducible refine c_assignN ?_)
  | ((with_reducible show wpAny _ _ (assignInOrder (_ :: _) (_ :: _)) _ _ _); with_reducible refine c_inOrder ?_)
  | ((with_reducible show wpAny _ _ (assignInOrder [] _) _ _ _); with_reducible refine c_inOrder0 ?_)
  | ((with_reducible show wpAny _ _ (bindName _ _ _) _ _ _); with_reducible refine c_bindN ?_)
  | ((with_reducible show wpAny _ _ (call _ (_ ++ _)) _ _ _); simp only [List.cons_append, List.nil_append])
  | ((with_reducible show wpAny _ _ (evalPart none _) _ _ _); with_reducible refine wpAny_evalPart_none ?_)
  | ((with_reducible show wpAny _ _ (evalPart (some _) _) _ _ _); with_reducible refine wpAny_evalPart_some ?_)
  | ((with_reducible show wpAny _ _ (getMethod (Value.str _ _) _ _) _ _ _); first | with_reducible refine PySem.GM.join ?_ | with_reducible refine PySem.GM.find ?_ | with_reducible refine PySem.GM.split ?_ | with_reducible refine PySem.GM.replace ?_ | with_reducible refine PySem.GM.count ?_)
  | ((with_reducible show wpAny _ _ (callWith _ (Value.type _) _ _ _) _ _ _); with_reducible refine c_type1 ?_)
  | ((with_reducible show wpAny _ _ (callWith _ (Value.builtin _) [] _ _) _ _ _); with_reducible refine c_builtin1 ?_)
  | ((with_reducible show wpAny _ _ (callWith _ (Value.builtin _) (_ :: _) _ _) _ _ _); first | with_reducible refine c_method1 ?_ | with_reducible refine c_method0 ?_)
  | ((with_reducible show wpAny _ _ (isTrue (Expr.Name _ _) _ _) _ _ _); with_reducible refine c_isVal ?_)
  | ((with_reducible show wpAny _ _ (isTrue (Expr.Attribute _ _ _) _ _) _ _ _); with_reducible refine c_isVal ?_)
  | ((with_reducible show wpAny _ _ (inplaceOp Operator.Add (Value.int _ _) (Value.int _ _)) _ _ _); with_reducible refine r_iaddI C ?_; intro t s C)
  | ((with_reducible show wpAny _ _ (inplaceOp Operator.Add (Value.str _ _) (Value.str _ _)) _ _ _); with_reducible refine r_iaddS C (by walk_at "len") ?_; intro t s C))
set_option hygiene false in
local macro_rules | `(tactic| walk_at "lit") => `(tactic| (
  (first
  | with_reducible refine lit0 C ?_
  | with_reducible refine lit1 C ?_
  | with_reducible refine lit2 C ?_
  | with_reducible refine lit3 C ?_
  | with_reducible refine lit4 C ?_
  | with_reducible refine lit5 C ?_
  | with_reducible refine lit6 C ?_
  | with_reducible refine lit7 C ?_
  | with_reducible refine lit8 C ?_
  | with_reducible refine lit9 C ?_
  | with_reducible refine lit10 C ?_
  | with_reducible refine lit11 C ?_
  | with_reducible refine lit12 C ?_
  | with_reducible refine lit13 C ?_
  | with_reducible refine lit14 C ?_
  | with_reducible refine lit15 C ?_
  | with_reducible refine lit16 C ?_
  | with_reducible refine lit17 C ?_
  | with_reducible refine lit18 C ?_
  | with_reducible refine lit19 C ?_
  | with_reducible refine lit20 C ?_
  | with_reducible refine lit21 C ?_
  | with_reducible refine lit22 C ?_
  | with_reducible refine lit23 C ?_
  | with_reducible refine lit24 C ?_
  | with_reducible refine lit25 C ?_
  | with_reducible refine lit26 C ?_); intro t s C))
noncomputable abbrev P0 : Program := PySem.Challenge.rw_rl0086_01.row.prog
noncomputable abbrev KF (w : World) : Frag := MineT.h0.heap_1 w.params
noncomputable abbrev VW : Program := MineT.vw
noncomputable abbrev LS : List Str := looseW VW [Str.ofString "Whitespace"]
noncomputable abbrev MM (w : World) : Model := model P0 w

structure Gx (w : World) (g : Heap) : Prop where
  kin : (KF w).In g
  top : ∃ p lo mean mg mb, Top p lo mean mg mb g

structure Ax (D U : Nat) (A : Around) (env : Env) (g : Heap) : Prop where
  below : ∃ A₀ base outer, Below A₀ base outer g ∧ A.frames = some (env :: outer)
  hd : A.handled = none
  dep : A.depth + D < recursionLimit
  un : A.units + U < cLine

structure Cx (g : Heap) (L : Addr) (m : Str → Option Value) (ν : List (Addr × Obj)) (z s : Shared) : Prop where
  fr : Fr g L s.heap m
  nw : News g L s.heap ν
  nd : (ν.map (·.1)).Nodup
  eq : s = { z with heap := s.heap, toks := s.toks }

/-- a name set -/
def st (m : Str → Option Value) (x : Str) (v : Value) : Str → Option Value := fun y => if y = x then some v else m y
theorem st_same (m : Str → Option Value) (x : Str) (v : Value) : st m x v x = some v := if_pos rfl
theorem st_ne {m : Str → Option Value} {x y : Str} {v : Value} {r : Option Value} (h : (y == x) = false) (e : m y = r) : st m x v y = r := by
  rw [← e]; exact if_neg (by simpa using h)
/-- the names bound at a call -/
def bm (binds : List (Str × Value)) : Str → Option Value := binds.foldl (fun m p => st m p.1 p.2) (fun _ => none)
theorem bm_go (binds : List (Str × Value)) : ∀ m : Str → Option Value, (fun y => (binds.reverse.lookup y).or (m y)) = binds.foldl (fun m p => st m p.1 p.2) m := by
  induction binds with
  | nil => intro m; funext y; simp
  | cons p r ih =>
    intro m
    rw [List.foldl_cons, ← ih]
    funext y
    rw [List.reverse_cons, List.lookup_append, Option.or_assoc]
    congr 1
    unfold st
    obtain ⟨k, v⟩ := p
    by_cases h : y = k
    · subst h; simp
    · have : (y == k) = false := by simpa using h
      simp [List.lookup_cons, this, h]
theorem bm_eq (binds : List (Str × Value)) : (fun y => binds.reverse.lookup y) = bm binds := by
  have := bm_go binds (fun _ => none)
  unfold bm
  rw [← this]
  funext y
  simp

section
variable {w : World} {A : Around} {g : Heap} {L : Addr} {m : Str → Option Value} {ν : List (Addr × Obj)} {z s : Shared} {D U : Nat} {Q : Value → Shared → Prop} {E : Value → Shared → Prop}

def retv : Flow → Value
  | .ret v => v
  | _ => .none

theorem Cx.at (C : Cx g L m ν z s) {h' g' : Heap} {L' : Addr} {k : Nat} {m' : Str → Option Value} {ν' : List (Addr × Obj)} (F : Fr g' L' h' m') (N : News g' L' h' ν') (nd : (ν'.map (·.1)).Nodup) : Cx g' L' m' ν' z { s with heap := h', toks := k } :=
  ⟨F, N, nd, by rw [C.eq]⟩
theorem Cx.tk (C : Cx g L m ν z s) (k : Nat) : Cx g L m ν z { s with toks := k } := C.at C.fr C.nw C.nd

theorem r_enter {f : Addr} {args : List Value} {binds : List (Str × Value)} {cn : Str} {cs : Scope} {a : Addr} {ccd : Value} {cl : List (Str × Addr)} {name qual : Str} {params : Arguments} {body : List Stmt} {scope : Scope} {dV kV doc pm cdv ct oc : Value} {an od : Option Addr} {osl : Array (Option Value)}
    (G : Gx w g) (X : Ax (D + 1) (U + 8) A (envX cn cs L a ccd cl) g) (C : Cx g L m ν z s) (hke : cs.kind = .function)
    (ho : (KF w).lookup f = some ⟨oc, od, .func (fnOf name qual params body scope dV kV doc pm an cdv ct), osl⟩)
    (hcd : codeIn (KF w) cdv qual = true)
    (hbind : BindsTo s (fnOf name qual params body scope dV kV doc pm an cdv ct) ⟨args, []⟩ binds)
    (hloc : ∀ y ∈ binds, scope.names.lookup y.1 = some .local)
    (hco : scope.isCoroutine = false) (hgen : scope.isGenerator = false) (hk : scope.kind = .function)
    (hcell : ∀ x ∈ scope.names, x.2 ≠ .cell)
    (h : ∀ g' L' s', Gx w g' → Ax D U (A.deeper (envX qual scope L' f cdv [])) (envX qual scope L' f cdv []) g' → (∀ b o, g.get? b = some o → g'.get? b = some o) → Cx g' L' (bm binds) ν z s' →
      wpAny (MM w) (A.deeper (envX qual scope L' f cdv [])) (execs body (envX qual scope L' f cdv []))
        (fun fl s'' => ∃ m' ν', Cx g' L' m' ν' z s'' ∧ (Cx g L m ν' z s'' → Q (retv fl) s''))
        (fun e s' => wpAny (MM w) (A.deeper (envX qual scope L' f cdv [])) (leaving (envX qual scope L' f cdv []) e) (fun _ s'' => E e s'') (fun e' s'' => E e' s'') s') s') :
    wpAny (MM w) A (call (.ref f) args) Q E s := by
  obtain ⟨A₀, base, outer, B, hA⟩ := X.below
  obtain ⟨p, lo, mean, mg, mb, T⟩ := G.top
  have hd := X.dep
  have hu := X.un
  refine wpAny_call (code_def B C.fr G.kin C.nw T hA rfl hke ho hcd (by omega) hbind hloc (fun g' L' h₁ FG F' N' B' X' T' => ?_) hco hgen hk hcell)
  refine wpAny_mono (h g' L' _ ⟨X', p, lo, mean, mg, mb, T'⟩ ⟨⟨A, base, _, B', ?_⟩, X.hd, ?_, ?_⟩ (fun b o e => FG.keep b o e) (bm_eq binds ▸ C.at F' N' C.nd)) ?_ ?_
  · show A.frames.map _ = _
    rw [hA]; rfl
  · show A.depth + 1 + D < _
    omega
  · show A.units + 3 + U < _
    omega
  · rintro fl s'' ⟨m', ν', C', k⟩
    refine ⟨L', m', ν', C'.fr, C'.nw, fun F N => ?_⟩
    have := k ⟨F, N, C'.nd, C'.eq⟩
    cases fl <;> exact this
  · exact fun _ _ h => h
end
def S (l : List Nat) : Str := ⟨l.toArray⟩
abbrev u (x : Str) : List Nat := x.cps.toList
theorem S_u (x : Str) : S (u x) = x := by simp [S, u]
theorem S_inj {a b : List Nat} : S a = S b ↔ a = b := ⟨fun h => by have := congrArg (fun x => x.cps.toList) h; simpa [S] using this, fun h => by rw [h]⟩
theorem S_len (a : List Nat) : (S a).length = a.length := by simp [S, Str.length]
theorem S_app (a b : List Nat) : S a ++ S b = S (a ++ b) := by
  show Str.append _ _ = _
  simp [S, Str.append]
theorem S_beq (a b : List Nat) : (S a == S b) = decide (a = b) := by
  rw [Bool.eq_iff_iff, beq_iff_eq, decide_eq_true_eq, S_inj]
theorem S_bne (a b : List Nat) : (S a != S b) = !decide (a = b) := by rw [bne, S_beq]
section
variable {w : World} {A : Around} {g : Heap} {L : Addr} {m : Str → Option Value} {ν : List (Addr × Obj)} {z s : Shared} {D U : Nat} {Q : Value → Shared → Prop} {E : Value → Shared → Prop}
  {cn : Str} {cs : Scope} {a : Addr} {ccd : Value} {cl : List (Str × Addr)} {x : Str} {pos : Pos} {v : Value}

theorem r_name (C : Cx g L m ν z s) (hv : m x = some v) (h : Q v s) (hk : cs.kind = .function := by kernel_rfl) (hx : (envX cn cs L a ccd cl).kindOf x = some .local := by kernel_rfl) (hd : (x == ("__debug__" : Str)) = false := by kernel_rfl) :
    wpAny (MM w) A (eval (.Name x pos) (envX cn cs L a ccd cl)) Q E s := nameX_L C.fr hv h hk hx hd
theorem r_glob {env : Env} (G : Gx w g) (C : Cx g L m ν z s) (e : nsIn (KF w) mainGlobals x = some (some v)) (h : Q v s) (hg : env.globals = mainGlobals := by kernel_rfl) (hk : env.scope.kind = .function := by kernel_rfl) (hx : env.kindOf x = some .globalImplicit := by kernel_rfl) (hd : (x == ("__debug__" : Str)) = false := by kernel_rfl) :
    wpAny (MM w) A (eval (.Name x pos) env) Q E s := by
  obtain ⟨p, lo, mean, mg, mb, T⟩ := G.top
  exact nameG_K C.fr G.kin (topRead_of T) e h hg hk hx hd
theorem r_boot {env : Env} (G : Gx w g) (C : Cx g L m ν z s) (e : nsIn (KF w) mainGlobals x = some none) (hv : bootBuiltins x = some v) (hn : x ≠ "__name__") (h : Q v s) (hg : env.globals = mainGlobals := by kernel_rfl) (hb : env.builtins = builtinsNs := by kernel_rfl) (hk : env.scope.kind = .function := by kernel_rfl) (hx : env.kindOf x = some .globalImplicit := by kernel_rfl) (hd : (x == ("__debug__" : Str)) = false := by kernel_rfl) :
    wpAny (MM w) A (eval (.Name x pos) env) Q E s := by
  obtain ⟨p, lo, mean, mg, mb, T⟩ := G.top
  have T' := topRead_of T
  exact Calls.Name_function_global hk hx (Calls.loadGlobal_builtin (env := env) (by rw [hg]; exact T'.g.keeps C.fr.keep) (mg_none_of G.kin T'.g e) (by rw [hb]; exact T'.b.keeps C.fr.keep) ((T'.builtins x hn).trans hv) h) hd
theorem r_store {Q : Unit → Shared → Prop} (C : Cx g L m ν z s) (k : ∀ s', Cx g L (st m x v) ν z s' → Q () s') (hk : cs.kind = .function := by kernel_rfl) (hx : cs.names.lookup x = some .local := by decide +kernel) :
    wpAny (MM w) A (storeName (envX cn cs L a ccd cl) x v) Q E s := storeX_L C.fr C.nw (fun _ F N => k _ (C.at F N C.nd)) hk hx
theorem r_int {env : Env} {i : Int} {kk : Nat} (C : Cx g L m ν z s) (k : ∀ t s', Cx g L m ν z s' → Q (.int i t) s') : wpAny (MM w) A (eval (.Constant (.int i) kk pos) env) Q E s :=
  wpAny_Constant_int (k _ _ (C.tk _))
theorem r_str {env : Env} {y : Str} {kk : Nat} (C : Cx g L m ν z s) (k : ∀ t s', Cx g L m ν z s' → Q (.str (S (u y)) t) s') : wpAny (MM w) A (eval (.Constant (.str y) kk pos) env) Q E s :=
  wpAny_Constant_str (by rw [← S_u y]; exact (by simpa using k _ _ (C.tk _)))
end
/-- repeat a text -/
def rep (n : Int) (l : List Nat) : List Nat := (List.replicate n.toNat l).flatten
theorem foldl_app (l : List Nat) : ∀ (n : Nat) (acc : Array Nat), (List.replicate n l.toArray).foldl (· ++ ·) acc = acc ++ ((List.replicate n l).flatten).toArray
  | 0, acc => by simp
  | n + 1, acc => by
    rw [List.replicate_succ, List.foldl_cons, foldl_app l n]
    apply Array.ext'
    simp [List.replicate_succ]
theorem S_mul (l : List Nat) (n : Int) : Txt.mul (S l) n = S (rep n l) := by
  unfold Txt.mul rep
  by_cases h1 : n < 1
  · rw [if_pos h1]
    have : n.toNat = 0 := by omega
    rw [this]; rfl
  · rw [if_neg h1]
    by_cases h2 : (n == 1 || (S l).length == 0) = true
    · rw [if_pos h2]
      rcases Bool.or_eq_true_iff.mp h2 with h | h
      · have : n = 1 := by simpa using h
        subst this; simp
      · have : l = [] := by rw [S_len] at h; exact List.eq_nil_of_length_eq_zero (by simpa using h)
        subst this; simp
    · rw [if_neg h2]
      show (⟨_⟩ : Str) = S _
      unfold S
      congr 1
      have := foldl_app l n.toNat #[]
      simpa using this
theorem rep_len (n : Int) (l : List Nat) : (rep n l).length = n.toNat * l.length := by simp [rep]
section
variable {w : World} {A : Around} {g : Heap} {L : Addr} {m : Str → Option Value} {ν : List (Addr × Obj)} {z s : Shared} {D U : Nat} {Q : Value → Shared → Prop} {E : Value → Shared → Prop}
  {a b : Int} {t t' : Tok} {p q : List Nat}
theorem r_addI (C : Cx g L m ν z s) (k : ∀ t s', Cx g L m ν z s' → Q (.int (a + b) t) s') : wpAny (MM w) A (binaryOp .Add (.int a t) (.int b t')) Q E s := PyProof.Rows.add_int (k _ _ (C.tk _))
theorem r_iaddI (C : Cx g L m ν z s) (k : ∀ t s', Cx g L m ν z s' → Q (.int (a + b) t) s') : wpAny (MM w) A (inplaceOp .Add (.int a t) (.int b t')) Q E s := PyProof.Rows.iadd_int (k _ _ (C.tk _))
theorem r_subI (C : Cx g L m ν z s) (k : ∀ t s', Cx g L m ν z s' → Q (.int (a - b) t) s') : wpAny (MM w) A (binaryOp .Sub (.int a t) (.int b t')) Q E s := PyProof.Rows.sub_int (k _ _ (C.tk _))
theorem r_modI (C : Cx g L m ν z s) (hb : b ≠ 0) (k : ∀ t s', Cx g L m ν z s' → Q (.int (a.fmod b) t) s') : wpAny (MM w) A (binaryOp .Mod (.int a t) (.int b t')) Q E s := PyProof.Rows.mod_int hb (k _ _ (C.tk _))
theorem r_divI (C : Cx g L m ν z s) (hb : b ≠ 0) (hs : b.natAbs < 1073741824) (k : ∀ t s', Cx g L m ν z s' → Q (.int (a.fdiv b) t) s') : wpAny (MM w) A (binaryOp .FloorDiv (.int a t) (.int b t')) Q E s :=
  PyProof.Rows.floordiv_int hb (k _ _ (C.tk _)) (Or.inl (PyProof.noPylong_small hs))
theorem bits_small {a : Int} (h : a.natAbs < 2 ^ 64) : Builtin.Int.intBits a ≤ 64 := by
  unfold Builtin.Int.intBits
  split
  · omega
  · rename_i hne
    have := Nat.log2_lt (n := a.natAbs) (k := 64) (by first | omega | (intro h0; exact absurd h0 (by first | assumption | simpa using hne)))
    omega
end
section
variable {w : World} {A : Around} {g : Heap} {L : Addr} {m : Str → Option Value} {ν : List (Addr × Obj)} {z s : Shared} {D U : Nat} {Q : Value → Shared → Prop} {E : Value → Shared → Prop}
  {a b : Int} {t t' : Tok} {p q : List Nat}
theorem r_mulI (C : Cx g L m ν z s) (hs : a.natAbs < 2 ^ 64) (k : ∀ t s', Cx g L m ν z s' → Q (.int (a * b) t) s') : wpAny (MM w) A (binaryOp .Mult (.int a t) (.int b t')) Q E s :=
  PyProof.Rows.mul_int (k _ _ (C.tk _)) (IntMulOk.of_left (bits_small hs))
theorem r_powI (C : Cx g L m ν z s) (hb : 0 ≤ b) (hs : (Builtin.Int.intBits a : Int) * b ≤ 2 ^ 27) (k : ∀ t s', Cx g L m ν z s' → Q (.int (a ^ b.toNat) t) s') : wpAny (MM w) A (binaryOp .Pow (.int a t) (.int b t')) Q E s :=
  PyProof.Rows.pow_int hb hs (k _ _ (C.tk _))
theorem r_addS (C : Cx g L m ν z s) (hs : p.length + q.length ≤ 16777216) (k : ∀ t s', Cx g L m ν z s' → Q (.str (S (p ++ q)) t) s') : wpAny (MM w) A (binaryOp .Add (.str (S p) t) (.str (S q) t')) Q E s :=
  PyProof.Rows.add_str (fun _ _ => by rw [S_app]; exact k _ _ (C.tk _)) (by rw [S_len, S_len, sizeLine_eq]; exact hs)
theorem r_iaddS (C : Cx g L m ν z s) (hs : p.length + q.length ≤ 16777216) (k : ∀ t s', Cx g L m ν z s' → Q (.str (S (p ++ q)) t) s') : wpAny (MM w) A (inplaceOp .Add (.str (S p) t) (.str (S q) t')) Q E s :=
  PyProof.Rows.iadd_str (fun _ _ => by rw [S_app]; exact k _ _ (C.tk _)) (by rw [S_len, S_len, sizeLine_eq]; exact hs)
theorem mulOk {l : List Nat} {n : Int} (hn : n ≤ 1000) (hn0 : -1000 ≤ n) (hl : l.length ≤ 1000) : MulOk (S l) n := by
  refine ⟨by simp only [Bool.or_eq_false_iff, decide_eq_false_iff_not]; constructor <;> omega, fun h _ => ?_, fun h _ => ?_⟩
  · rw [S_len]
    have : (1000 : Int) ≤ (2 ^ 63 - 1) / n := by
      refine (Int.le_ediv_iff_mul_le (by omega)).mpr ?_
      omega
    omega
  · rw [S_len]
    unfold Builtin.Str.tooLong
    have : l.length * n.toNat ≤ 1000 * 1000 := Nat.mul_le_mul hl (by omega)
    simp only [sizeLine_eq, decide_eq_false_iff_not]
    omega
theorem r_mulS (C : Cx g L m ν z s) (h1 : b ≤ 1000) (h0 : -1000 ≤ b) (hs : p.length ≤ 1000) (k : ∀ t s', Cx g L m ν z s' → Q (.str (S (rep b p)) t) s') : wpAny (MM w) A (binaryOp .Mult (.str (S p) t) (.int b t')) Q E s :=
  SB.mul (mulOk h1 h0 hs) fun _ _ => by rw [S_mul]; exact k _ _ (C.tk _)
theorem r_eqS (h : Q (.bool (decide (p = q))) s) : wpAny (MM w) A (compareOp .Eq (.str (S p) t) (.str (S q) t')) Q E s := PyProof.Rows.eq_str (by rw [S_beq]; exact h)
theorem r_neS (h : Q (.bool (!decide (p = q))) s) : wpAny (MM w) A (compareOp .NotEq (.str (S p) t) (.str (S q) t')) Q E s := PyProof.Rows.ne_str (by rw [S_bne]; exact h)
end
section
variable {w : World} {A : Around} {g : Heap} {L : Addr} {m : Str → Option Value} {ν : List (Addr × Obj)} {z s : Shared} {D U : Nat} {Q : Value → Shared → Prop} {E : Value → Shared → Prop}
  {env : Env} {pos : Pos}
theorem n_parse229 (G : Gx w g) (C : Cx g L m ν z s) (h : Q (.ref 65) s) (hg : env.globals = mainGlobals := by kernel_rfl) (hb : env.builtins = builtinsNs := by kernel_rfl) (hk : env.scope.kind = .function := by kernel_rfl) (hx : env.kindOf (Str.ofString "parse229") = some .globalImplicit := by kernel_rfl) :
    wpAny (MM w) A (eval (.Name (Str.ofString "parse229") pos) env) Q E s := r_glob G C (by kernel_rfl) h hg hk hx
theorem n_parse257 (G : Gx w g) (C : Cx g L m ν z s) (h : Q (.ref 72) s) (hg : env.globals = mainGlobals := by kernel_rfl) (hb : env.builtins = builtinsNs := by kernel_rfl) (hk : env.scope.kind = .function := by kernel_rfl) (hx : env.kindOf (Str.ofString "parse257") = some .globalImplicit := by kernel_rfl) :
    wpAny (MM w) A (eval (.Name (Str.ofString "parse257") pos) env) Q E s := r_glob G C (by kernel_rfl) h hg hk hx
theorem n_error_reply (G : Gx w g) (C : Cx g L m ν z s) (h : Q (.ref 44) s) (hg : env.globals = mainGlobals := by kernel_rfl) (hb : env.builtins = builtinsNs := by kernel_rfl) (hk : env.scope.kind = .function := by kernel_rfl) (hx : env.kindOf (Str.ofString "error_reply") = some .globalImplicit := by kernel_rfl) :
    wpAny (MM w) A (eval (.Name (Str.ofString "error_reply") pos) env) Q E s := r_glob G C (by kernel_rfl) h hg hk hx
theorem n_error_proto (G : Gx w g) (C : Cx g L m ν z s) (h : Q (.ref 56) s) (hg : env.globals = mainGlobals := by kernel_rfl) (hb : env.builtins = builtinsNs := by kernel_rfl) (hk : env.scope.kind = .function := by kernel_rfl) (hx : env.kindOf (Str.ofString "error_proto") = some .globalImplicit := by kernel_rfl) :
    wpAny (MM w) A (eval (.Name (Str.ofString "error_proto") pos) env) Q E s := r_glob G C (by kernel_rfl) h hg hk hx
theorem n_netrclex (G : Gx w g) (C : Cx g L m ν z s) (h : Q (.ref 110) s) (hg : env.globals = mainGlobals := by kernel_rfl) (hb : env.builtins = builtinsNs := by kernel_rfl) (hk : env.scope.kind = .function := by kernel_rfl) (hx : env.kindOf (Str.ofString "_netrclex") = some .globalImplicit := by kernel_rfl) :
    wpAny (MM w) A (eval (.Name (Str.ofString "_netrclex") pos) env) Q E s := r_glob G C (by kernel_rfl) h hg hk hx
theorem n_Whitespace (G : Gx w g) (C : Cx g L m ν z s) (h : Q (.ref 176) s) (hg : env.globals = mainGlobals := by kernel_rfl) (hb : env.builtins = builtinsNs := by kernel_rfl) (hk : env.scope.kind = .function := by kernel_rfl) (hx : env.kindOf (Str.ofString "Whitespace") = some .globalImplicit := by kernel_rfl) :
    wpAny (MM w) A (eval (.Name (Str.ofString "Whitespace") pos) env) Q E s := r_glob G C (by kernel_rfl) h hg hk hx
theorem n_law_lexer (G : Gx w g) (C : Cx g L m ν z s) (h : Q (.ref 187) s) (hg : env.globals = mainGlobals := by kernel_rfl) (hb : env.builtins = builtinsNs := by kernel_rfl) (hk : env.scope.kind = .function := by kernel_rfl) (hx : env.kindOf (Str.ofString "_law_lexer") = some .globalImplicit := by kernel_rfl) :
    wpAny (MM w) A (eval (.Name (Str.ofString "_law_lexer") pos) env) Q E s := r_glob G C (by kernel_rfl) h hg hk hx
theorem n_law_spelled (G : Gx w g) (C : Cx g L m ν z s) (h : Q (.ref 192) s) (hg : env.globals = mainGlobals := by kernel_rfl) (hb : env.builtins = builtinsNs := by kernel_rfl) (hk : env.scope.kind = .function := by kernel_rfl) (hx : env.kindOf (Str.ofString "_law_spelled") = some .globalImplicit := by kernel_rfl) :
    wpAny (MM w) A (eval (.Name (Str.ofString "_law_spelled") pos) env) Q E s := r_glob G C (by kernel_rfl) h hg hk hx
theorem n_law_lead (G : Gx w g) (C : Cx g L m ν z s) (h : Q (.ref 197) s) (hg : env.globals = mainGlobals := by kernel_rfl) (hb : env.builtins = builtinsNs := by kernel_rfl) (hk : env.scope.kind = .function := by kernel_rfl) (hx : env.kindOf (Str.ofString "_law_lead") = some .globalImplicit := by kernel_rfl) :
    wpAny (MM w) A (eval (.Name (Str.ofString "_law_lead") pos) env) Q E s := r_glob G C (by kernel_rfl) h hg hk hx
theorem n_law_reply (G : Gx w g) (C : Cx g L m ν z s) (h : Q (.ref 204) s) (hg : env.globals = mainGlobals := by kernel_rfl) (hb : env.builtins = builtinsNs := by kernel_rfl) (hk : env.scope.kind = .function := by kernel_rfl) (hx : env.kindOf (Str.ofString "_law_reply") = some .globalImplicit := by kernel_rfl) :
    wpAny (MM w) A (eval (.Name (Str.ofString "_law_reply") pos) env) Q E s := r_glob G C (by kernel_rfl) h hg hk hx
theorem n_law_answer (G : Gx w g) (C : Cx g L m ν z s) (h : Q (.ref 211) s) (hg : env.globals = mainGlobals := by kernel_rfl) (hb : env.builtins = builtinsNs := by kernel_rfl) (hk : env.scope.kind = .function := by kernel_rfl) (hx : env.kindOf (Str.ofString "_law_answer") = some .globalImplicit := by kernel_rfl) :
    wpAny (MM w) A (eval (.Name (Str.ofString "_law_answer") pos) env) Q E s := r_glob G C (by kernel_rfl) h hg hk hx
theorem n_law_back (G : Gx w g) (C : Cx g L m ν z s) (h : Q (.ref 216) s) (hg : env.globals = mainGlobals := by kernel_rfl) (hb : env.builtins = builtinsNs := by kernel_rfl) (hk : env.scope.kind = .function := by kernel_rfl) (hx : env.kindOf (Str.ofString "_law_back") = some .globalImplicit := by kernel_rfl) :
    wpAny (MM w) A (eval (.Name (Str.ofString "_law_back") pos) env) Q E s := r_glob G C (by kernel_rfl) h hg hk hx
theorem n_sum (G : Gx w g) (C : Cx g L m ν z s) (h : Q (.builtin "sum") s) (hg : env.globals = mainGlobals := by kernel_rfl) (hb : env.builtins = builtinsNs := by kernel_rfl) (hk : env.scope.kind = .function := by kernel_rfl) (hx : env.kindOf (Str.ofString "sum") = some .globalImplicit := by kernel_rfl) :
    wpAny (MM w) A (eval (.Name (Str.ofString "sum") pos) env) Q E s := r_boot G C (by kernel_rfl) (by boot_fast) (by decide +kernel) h hg hb hk hx
theorem n_enumerate (G : Gx w g) (C : Cx g L m ν z s) (h : Q (.type "enumerate") s) (hg : env.globals = mainGlobals := by kernel_rfl) (hb : env.builtins = builtinsNs := by kernel_rfl) (hk : env.scope.kind = .function := by kernel_rfl) (hx : env.kindOf (Str.ofString "enumerate") = some .globalImplicit := by kernel_rfl) :
    wpAny (MM w) A (eval (.Name (Str.ofString "enumerate") pos) env) Q E s := r_boot G C (by kernel_rfl) (by boot_fast) (by decide +kernel) h hg hb hk hx
theorem n_range (G : Gx w g) (C : Cx g L m ν z s) (h : Q (.type "range") s) (hg : env.globals = mainGlobals := by kernel_rfl) (hb : env.builtins = builtinsNs := by kernel_rfl) (hk : env.scope.kind = .function := by kernel_rfl) (hx : env.kindOf (Str.ofString "range") = some .globalImplicit := by kernel_rfl) :
    wpAny (MM w) A (eval (.Name (Str.ofString "range") pos) env) Q E s := r_boot G C (by kernel_rfl) (by boot_fast) (by decide +kernel) h hg hb hk hx
theorem n_str (G : Gx w g) (C : Cx g L m ν z s) (h : Q (.type "str") s) (hg : env.globals = mainGlobals := by kernel_rfl) (hb : env.builtins = builtinsNs := by kernel_rfl) (hk : env.scope.kind = .function := by kernel_rfl) (hx : env.kindOf (Str.ofString "str") = some .globalImplicit := by kernel_rfl) :
    wpAny (MM w) A (eval (.Name (Str.ofString "str") pos) env) Q E s := r_boot G C (by kernel_rfl) (by boot_fast) (by decide +kernel) h hg hb hk hx
theorem n_len (G : Gx w g) (C : Cx g L m ν z s) (h : Q (.builtin "len") s) (hg : env.globals = mainGlobals := by kernel_rfl) (hb : env.builtins = builtinsNs := by kernel_rfl) (hk : env.scope.kind = .function := by kernel_rfl) (hx : env.kindOf (Str.ofString "len") = some .globalImplicit := by kernel_rfl) :
    wpAny (MM w) A (eval (.Name (Str.ofString "len") pos) env) Q E s := r_boot G C (by kernel_rfl) (by boot_fast) (by decide +kernel) h hg hb hk hx
theorem n_list (G : Gx w g) (C : Cx g L m ν z s) (h : Q (.type "list") s) (hg : env.globals = mainGlobals := by kernel_rfl) (hb : env.builtins = builtinsNs := by kernel_rfl) (hk : env.scope.kind = .function := by kernel_rfl) (hx : env.kindOf (Str.ofString "list") = some .globalImplicit := by kernel_rfl) :
    wpAny (MM w) A (eval (.Name (Str.ofString "list") pos) env) Q E s := r_boot G C (by kernel_rfl) (by boot_fast) (by decide +kernel) h hg hb hk hx
theorem n_tuple (G : Gx w g) (C : Cx g L m ν z s) (h : Q (.type "tuple") s) (hg : env.globals = mainGlobals := by kernel_rfl) (hb : env.builtins = builtinsNs := by kernel_rfl) (hk : env.scope.kind = .function := by kernel_rfl) (hx : env.kindOf (Str.ofString "tuple") = some .globalImplicit := by kernel_rfl) :
    wpAny (MM w) A (eval (.Name (Str.ofString "tuple") pos) env) Q E s := r_boot G C (by kernel_rfl) (by boot_fast) (by decide +kernel) h hg hb hk hx
theorem n_iter (G : Gx w g) (C : Cx g L m ν z s) (h : Q (.builtin "iter") s) (hg : env.globals = mainGlobals := by kernel_rfl) (hb : env.builtins = builtinsNs := by kernel_rfl) (hk : env.scope.kind = .function := by kernel_rfl) (hx : env.kindOf (Str.ofString "iter") = some .globalImplicit := by kernel_rfl) :
    wpAny (MM w) A (eval (.Name (Str.ofString "iter") pos) env) Q E s := r_boot G C (by kernel_rfl) (by boot_fast) (by decide +kernel) h hg hb hk hx
theorem n_int (G : Gx w g) (C : Cx g L m ν z s) (h : Q (.type "int") s) (hg : env.globals = mainGlobals := by kernel_rfl) (hb : env.builtins = builtinsNs := by kernel_rfl) (hk : env.scope.kind = .function := by kernel_rfl) (hx : env.kindOf (Str.ofString "int") = some .globalImplicit := by kernel_rfl) :
    wpAny (MM w) A (eval (.Name (Str.ofString "int") pos) env) Q E s := r_boot G C (by kernel_rfl) (by boot_fast) (by decide +kernel) h hg hb hk hx
theorem n_isinstance (G : Gx w g) (C : Cx g L m ν z s) (h : Q (.builtin "isinstance") s) (hg : env.globals = mainGlobals := by kernel_rfl) (hb : env.builtins = builtinsNs := by kernel_rfl) (hk : env.scope.kind = .function := by kernel_rfl) (hx : env.kindOf (Str.ofString "isinstance") = some .globalImplicit := by kernel_rfl) :
    wpAny (MM w) A (eval (.Name (Str.ofString "isinstance") pos) env) Q E s := r_boot G C (by kernel_rfl) (by boot_fast) (by decide +kernel) h hg hb hk hx
theorem n_sorted (G : Gx w g) (C : Cx g L m ν z s) (h : Q (.builtin "sorted") s) (hg : env.globals = mainGlobals := by kernel_rfl) (hb : env.builtins = builtinsNs := by kernel_rfl) (hk : env.scope.kind = .function := by kernel_rfl) (hx : env.kindOf (Str.ofString "sorted") = some .globalImplicit := by kernel_rfl) :
    wpAny (MM w) A (eval (.Name (Str.ofString "sorted") pos) env) Q E s := r_boot G C (by kernel_rfl) (by boot_fast) (by decide +kernel) h hg hb hk hx
end
section
variable {w : World} {A : Around} {g : Heap} {L : Addr} {m : Str → Option Value} {ν : List (Addr × Obj)} {z s : Shared} {D U : Nat} {Q : Value → Shared → Prop} {E : Value → Shared → Prop} {env : Env}
theorem c_callN {x : Str} {xp : Pos} {args : List Expr} {pos : Pos} (h : wpAny (MM w) A (eval (.Name x xp) env) (fun f s₁ => wpAny (MM w) A (callWith pos f [] (backTo pos (starEach args env)) []) Q E s₁) E s) :
    wpAny (MM w) A (eval (.Call (.Name x xp) args [] pos) env) Q E s := Call_ h
theorem c_assign {x pos' value pos} {Q : Flow → Shared → Prop} (h : wpAny (MM w) A (eval value env) (fun v s₁ => wpAny (MM w) A (storeName env x v) (fun _ => Q .next) E s₁) E s)
    (hs : swapsWith value (some (.Name x pos')) pos.line env = pure false := by kernel_rfl) :
    wpAny (MM w) A (exec (.Assign [.Name x pos'] value pos) env) Q E s := wpAny_Assign_Name h hs
theorem c_more {e : Expr} {rest : List Expr} {pos : Pos} {Q : List Value → Shared → Prop} (h : wpAny (MM w) A (eval e env) (fun v s₁ => wpAny (MM w) A (spliced (backTo pos (starEach rest env))) (fun vs s₂ => Q (v :: vs) s₂) E s₁) E s) (he : starEach (e :: rest) env = (false, eval e env) :: starEach rest env := by kernel_rfl) :
    wpAny (MM w) A (spliced (backTo pos (starEach (e :: rest) env))) Q E s := spliced_more h he
theorem c_type1 {pos : Pos} {T : String} {e : Expr} {rest : List Expr} (h : wpAny (MM w) A (spliced (backTo pos (starEach (e :: rest) env))) (fun vs s₁ => wpAny (MM w) A (call (.type T) vs) Q E s₁) E s)
    (he : starEach (e :: rest) env = (false, eval e env) :: starEach rest env := by kernel_rfl) (hplain : (backTo pos (starEach rest env)).any (·.1) = false := by kernel_rfl) :
    wpAny (MM w) A (callWith pos (.type T) [] (backTo pos (starEach (e :: rest) env)) []) Q E s := callWith_type1 h he hplain
theorem c_builtin1 {pos : Pos} {id : String} {e : Expr} {rest : List Expr} (h : wpAny (MM w) A (spliced (backTo pos (starEach (e :: rest) env))) (fun vs s₁ => wpAny (MM w) A (call (.builtin id) vs) Q E s₁) E s)
    (he : starEach (e :: rest) env = (false, eval e env) :: starEach rest env := by kernel_rfl) (hplain : (backTo pos (starEach rest env)).any (·.1) = false := by kernel_rfl) :
    wpAny (MM w) A (callWith pos (.builtin id) [] (backTo pos (starEach (e :: rest) env)) []) Q E s := callWith_builtin1 h he hplain
theorem c_method1 {pos : Pos} {id : String} {fst : List Value} {e : Expr} {rest : List Expr} (h : wpAny (MM w) A (spliced (backTo pos (starEach (e :: rest) env))) (fun vs s₁ => wpAny (MM w) A (call (.builtin id) (fst ++ vs)) Q E s₁) E s)
    (he : starEach (e :: rest) env = (false, eval e env) :: starEach rest env := by kernel_rfl) (hplain : (backTo pos (starEach rest env)).any (·.1) = false := by kernel_rfl) :
    wpAny (MM w) A (callWith pos (.builtin id) fst (backTo pos (starEach (e :: rest) env)) []) Q E s := callWith_method1 h he hplain
theorem c_meth {o : Expr} {name : Str} {apos pos : Pos} {args : List Expr} (h : wpAny (MM w) A (eval o env) (fun ov s₁ => wpAny (MM w) A (getMethod ov name (do return (← importBound o env).getD true)) (fun fx s₂ => wpAny (MM w) A (callWith pos fx.1 fx.2 (backTo pos (starEach args env)) []) Q E s₂) E s₁) E s)
    (he : eval (.Call (.Attribute o name apos) args [] pos) env = (do let ov ← eval o env; standAt apos.atName; let (f, first) ← holding [ov] (getMethod ov name (do return (← importBound o env).getD true)); callWith pos f first (backTo pos (starEach args env)) []) := by kernel_rfl) :
    wpAny (MM w) A (eval (.Call (.Attribute o name apos) args [] pos) env) Q E s := MethodCall_ h he
theorem c_cmp {l op r pos} (h : wpAny (MM w) A (eval l env) (fun a s₁ => wpAny (MM w) A (eval r env) (fun b s₂ => wpAny (MM w) A (compareOp op a b) Q E s₂) E s₁) E s) (hm : behindInMarks op r = false := by kernel_rfl) :
    wpAny (MM w) A (eval (.Compare l [op] [r] pos) env) Q E s := wpAny_Compare1 h hm
theorem c_isCmp {l op r pos whole} {Q : Bool → Shared → Prop} (h : wpAny (MM w) A (eval l env) (fun a s₁ => wpAny (MM w) A (eval r env) (fun b s₂ => wpAny (MM w) A (compareOp op a b) (fun c s₃ => wpAny (MM w) A (truthy c) Q E s₃) E s₂) E s₁) E s)
    (hm : behindInMarks op r = false := by kernel_rfl) : wpAny (MM w) A (isTrue (.Compare l [op] [r] pos) env whole) Q E s := wpAny_isTrue_Compare1 h hm
end
section
variable {w : World} {A : Around} {g : Heap} {L : Addr} {m : Str → Option Value} {ν : List (Addr × Obj)} {z s : Shared} {Q : Value → Shared → Prop} {E : Value → Shared → Prop} {env : Env} {kk : Nat} {pos : Pos}
theorem lit0 (C : Cx g L m ν z s) (k : ∀ t s', Cx g L m ν z s' → Q (.str (S []) t) s') : wpAny (MM w) A (eval (.Constant (.str (Str.ofString "")) kk pos) env) Q E s := by
  rw [show Str.ofString "" = S [] from by decide +kernel]; exact wpAny_Constant_str (k _ _ (C.tk _))
theorem lit1 (C : Cx g L m ν z s) (k : ∀ t s', Cx g L m ν z s' → Q (.str (S [32, 9]) t) s') : wpAny (MM w) A (eval (.Constant (.str (Str.ofString " \t")) kk pos) env) Q E s := by
  rw [show Str.ofString " \t" = S [32, 9] from by decide +kernel]; exact wpAny_Constant_str (k _ _ (C.tk _))
theorem lit2 (C : Cx g L m ν z s) (k : ∀ t s', Cx g L m ν z s' → Q (.str (S [50, 50, 57]) t) s') : wpAny (MM w) A (eval (.Constant (.str (Str.ofString "229")) kk pos) env) Q E s := by
  rw [show Str.ofString "229" = S [50, 50, 57] from by decide +kernel]; exact wpAny_Constant_str (k _ _ (C.tk _))
theorem lit3 (C : Cx g L m ν z s) (k : ∀ t s', Cx g L m ν z s' → Q (.str (S [40]) t) s') : wpAny (MM w) A (eval (.Constant (.str (Str.ofString "(")) kk pos) env) Q E s := by
  rw [show Str.ofString "(" = S [40] from by decide +kernel]; exact wpAny_Constant_str (k _ _ (C.tk _))
theorem lit4 (C : Cx g L m ν z s) (k : ∀ t s', Cx g L m ν z s' → Q (.str (S [41]) t) s') : wpAny (MM w) A (eval (.Constant (.str (Str.ofString ")")) kk pos) env) Q E s := by
  rw [show Str.ofString ")" = S [41] from by decide +kernel]; exact wpAny_Constant_str (k _ _ (C.tk _))
theorem lit5 (C : Cx g L m ν z s) (k : ∀ t s', Cx g L m ν z s' → Q (.str (S [50, 53, 55]) t) s') : wpAny (MM w) A (eval (.Constant (.str (Str.ofString "257")) kk pos) env) Q E s := by
  rw [show Str.ofString "257" = S [50, 53, 55] from by decide +kernel]; exact wpAny_Constant_str (k _ _ (C.tk _))
theorem lit6 (C : Cx g L m ν z s) (k : ∀ t s', Cx g L m ν z s' → Q (.str (S [32, 34]) t) s') : wpAny (MM w) A (eval (.Constant (.str (Str.ofString " \"")) kk pos) env) Q E s := by
  rw [show Str.ofString " \"" = S [32, 34] from by decide +kernel]; exact wpAny_Constant_str (k _ _ (C.tk _))
theorem lit7 (C : Cx g L m ν z s) (k : ∀ t s', Cx g L m ν z s' → Q (.str (S [10, 9, 13, 32]) t) s') : wpAny (MM w) A (eval (.Constant (.str (Str.ofString "\n\t\r ")) kk pos) env) Q E s := by
  rw [show Str.ofString "\n\t\r " = S [10, 9, 13, 32] from by decide +kernel]; exact wpAny_Constant_str (k _ _ (C.tk _))
theorem lit8 (C : Cx g L m ν z s) (k : ∀ t s', Cx g L m ν z s' → Q (.str (S [34, 92]) t) s') : wpAny (MM w) A (eval (.Constant (.str (Str.ofString "\"\\")) kk pos) env) Q E s := by
  rw [show Str.ofString "\"\\" = S [34, 92] from by decide +kernel]; exact wpAny_Constant_str (k _ _ (C.tk _))
theorem lit9 (C : Cx g L m ν z s) (k : ∀ t s', Cx g L m ν z s' → Q (.str (S [92, 32, 9, 10, 13]) t) s') : wpAny (MM w) A (eval (.Constant (.str (Str.ofString "\\ \t\n\r")) kk pos) env) Q E s := by
  rw [show Str.ofString "\\ \t\n\r" = S [92, 32, 9, 10, 13] from by decide +kernel]; exact wpAny_Constant_str (k _ _ (C.tk _))
theorem lit10 (C : Cx g L m ν z s) (k : ∀ t s', Cx g L m ν z s' → Q (.str (S [124, 34, 92, 32, 9, 10, 40, 53, 41, 124]) t) s') : wpAny (MM w) A (eval (.Constant (.str (Str.ofString "|\"\\ \t\n(5)|")) kk pos) env) Q E s := by
  rw [show Str.ofString "|\"\\ \t\n(5)|" = S [124, 34, 92, 32, 9, 10, 40, 53, 41, 124] from by decide +kernel]; exact wpAny_Constant_str (k _ _ (C.tk _))
theorem lit11 (C : Cx g L m ν z s) (k : ∀ t s', Cx g L m ν z s' → Q (.str (S [120, 34, 34, 32, 9]) t) s') : wpAny (MM w) A (eval (.Constant (.str (Str.ofString "x\"\" \t")) kk pos) env) Q E s := by
  rw [show Str.ofString "x\"\" \t" = S [120, 34, 34, 32, 9] from by decide +kernel]; exact wpAny_Constant_str (k _ _ (C.tk _))
theorem lit12 (C : Cx g L m ν z s) (k : ∀ t s', Cx g L m ν z s' → Q (.str (S [97, 110, 111, 116, 104, 101, 114, 32, 114, 101, 112, 108, 121]) t) s') : wpAny (MM w) A (eval (.Constant (.str (Str.ofString "another reply")) kk pos) env) Q E s := by
  rw [show Str.ofString "another reply" = S [97, 110, 111, 116, 104, 101, 114, 32, 114, 101, 112, 108, 121] from by decide +kernel]; exact wpAny_Constant_str (k _ _ (C.tk _))
theorem lit13 (C : Cx g L m ν z s) (k : ∀ t s', Cx g L m ν z s' → Q (.str (S [34]) t) s') : wpAny (MM w) A (eval (.Constant (.str (Str.ofString "\"")) kk pos) env) Q E s := by
  rw [show Str.ofString "\"" = S [34] from by decide +kernel]; exact wpAny_Constant_str (k _ _ (C.tk _))
theorem lit14 (C : Cx g L m ν z s) (k : ∀ t s', Cx g L m ν z s' → Q (.str (S [10]) t) s') : wpAny (MM w) A (eval (.Constant (.str (Str.ofString "\n")) kk pos) env) Q E s := by
  rw [show Str.ofString "\n" = S [10] from by decide +kernel]; exact wpAny_Constant_str (k _ _ (C.tk _))
theorem lit15 (C : Cx g L m ν z s) (k : ∀ t s', Cx g L m ν z s' → Q (.str (S [32]) t) s') : wpAny (MM w) A (eval (.Constant (.str (Str.ofString " ")) kk pos) env) Q E s := by
  rw [show Str.ofString " " = S [32] from by decide +kernel]; exact wpAny_Constant_str (k _ _ (C.tk _))
theorem lit16 (C : Cx g L m ν z s) (k : ∀ t s', Cx g L m ν z s' → Q (.str (S [121]) t) s') : wpAny (MM w) A (eval (.Constant (.str (Str.ofString "y")) kk pos) env) Q E s := by
  rw [show Str.ofString "y" = S [121] from by decide +kernel]; exact wpAny_Constant_str (k _ _ (C.tk _))
theorem lit17 (C : Cx g L m ν z s) (k : ∀ t s', Cx g L m ν z s' → Q (.str (S [110, 111, 116, 32, 116, 111, 32, 98, 101, 32, 114, 101, 97, 100]) t) s') : wpAny (MM w) A (eval (.Constant (.str (Str.ofString "not to be read")) kk pos) env) Q E s := by
  rw [show Str.ofString "not to be read" = S [110, 111, 116, 32, 116, 111, 32, 98, 101, 32, 114, 101, 97, 100] from by decide +kernel]; exact wpAny_Constant_str (k _ _ (C.tk _))
theorem lit18 (C : Cx g L m ν z s) (k : ∀ t s', Cx g L m ν z s' → Q (.str (S [34, 32, 34, 121]) t) s') : wpAny (MM w) A (eval (.Constant (.str (Str.ofString "\" \"y")) kk pos) env) Q E s := by
  rw [show Str.ofString "\" \"y" = S [34, 32, 34, 121] from by decide +kernel]; exact wpAny_Constant_str (k _ _ (C.tk _))
theorem lit19 (C : Cx g L m ν z s) (k : ∀ t s', Cx g L m ν z s' → Q (.str (S [50, 53, 55, 32, 34]) t) s') : wpAny (MM w) A (eval (.Constant (.str (Str.ofString "257 \"")) kk pos) env) Q E s := by
  rw [show Str.ofString "257 \"" = S [50, 53, 55, 32, 34] from by decide +kernel]; exact wpAny_Constant_str (k _ _ (C.tk _))
theorem lit20 (C : Cx g L m ν z s) (k : ∀ t s', Cx g L m ν z s' → Q (.str (S [92]) t) s') : wpAny (MM w) A (eval (.Constant (.str (Str.ofString "\\")) kk pos) env) Q E s := by
  rw [show Str.ofString "\\" = S [92] from by decide +kernel]; exact wpAny_Constant_str (k _ _ (C.tk _))
theorem lit21 (C : Cx g L m ν z s) (k : ∀ t s', Cx g L m ν z s' → Q (.str (S [9]) t) s') : wpAny (MM w) A (eval (.Constant (.str (Str.ofString "\t")) kk pos) env) Q E s := by
  rw [show Str.ofString "\t" = S [9] from by decide +kernel]; exact wpAny_Constant_str (k _ _ (C.tk _))
theorem lit22 (C : Cx g L m ν z s) (k : ∀ t s', Cx g L m ν z s' → Q (.str (S [50, 50, 57, 32]) t) s') : wpAny (MM w) A (eval (.Constant (.str (Str.ofString "229 ")) kk pos) env) Q E s := by
  rw [show Str.ofString "229 " = S [50, 50, 57, 32] from by decide +kernel]; exact wpAny_Constant_str (k _ _ (C.tk _))
theorem lit23 (C : Cx g L m ν z s) (k : ∀ t s', Cx g L m ν z s' → Q (.str (S [34, 34]) t) s') : wpAny (MM w) A (eval (.Constant (.str (Str.ofString "\"\"")) kk pos) env) Q E s := by
  rw [show Str.ofString "\"\"" = S [34, 34] from by decide +kernel]; exact wpAny_Constant_str (k _ _ (C.tk _))
theorem lit24 (C : Cx g L m ν z s) (k : ∀ t s', Cx g L m ν z s' → Q (.str (S [53]) t) s') : wpAny (MM w) A (eval (.Constant (.str (Str.ofString "5")) kk pos) env) Q E s := by
  rw [show Str.ofString "5" = S [53] from by decide +kernel]; exact wpAny_Constant_str (k _ _ (C.tk _))
theorem lit25 (C : Cx g L m ν z s) (k : ∀ t s', Cx g L m ν z s' → Q (.str (S [32, 10, 9, 13]) t) s') : wpAny (MM w) A (eval (.Constant (.str (Str.ofString " \n\t\r")) kk pos) env) Q E s := by
  rw [show Str.ofString " \n\t\r" = S [32, 10, 9, 13] from by decide +kernel]; exact wpAny_Constant_str (k _ _ (C.tk _))
theorem lit26 (C : Cx g L m ν z s) (k : ∀ t s', Cx g L m ν z s' → Q (.str (S [120]) t) s') : wpAny (MM w) A (eval (.Constant (.str (Str.ofString "x")) kk pos) env) Q E s := by
  rw [show Str.ofString "x" = S [120] from by decide +kernel]; exact wpAny_Constant_str (k _ _ (C.tk _))
end
section
variable {w : World} {A : Around} {g : Heap} {L : Addr} {m : Str → Option Value} {ν : List (Addr × Obj)} {z s : Shared} {D U : Nat} {Q : Value → Shared → Prop} {E : Value → Shared → Prop}
def itemL (l : List Nat) (i : Int) : List Nat := [l.getD i.toNat 0]
theorem S_item {l : List Nat} {i : Int} (h0 : 0 ≤ i) (h1 : i < l.length) : Txt.item (S l) i = S (itemL l i) := by
  unfold Txt.item Txt.charAt itemL
  have : PySem.seqIndex? i (S l).length = some i.toNat := by
    unfold PySem.seqIndex?
    rw [S_len]
    have e : (if i < 0 then i + (l.length : Int) else i) = i := if_neg (by omega)
    simp only [e]
    rw [if_pos (by simp only [Bool.and_eq_true, decide_eq_true_eq]; omega)]
  rw [this]
  simp [S]
theorem r_itemS {value slice : Expr} {l : List Nat} {i : Int} {t t' : Tok} (C : Cx g L m ν z s) (h0 : 0 ≤ i) (h1 : i < l.length) (hz : l.length ≤ 16777216) (k : ∀ t s', Cx g L m ν z s' → Q (.str (S (itemL l i)) t) s')
    (hs : subscripted slice false (.str (S l) t) (.int i t') = operate [.str (S l) t, .int i t'] (getItem (.str (S l) t) (.int i t')) := by kernel_rfl) (ht : ∀ r, letTemporaryGo value (.str (S l) t) r = pure () := by intro _; kernel_rfl) :
    wpAny (MM w) A (subscriptTail value slice (.str (S l) t) (.int i t')) Q E s := by
  have hlen := S_len l
  refine KXi.item (n := l.length) hlen (by omega) h1 hz (fun _ => ?_) hs ht
  rw [S_item h0 h1]
  exact k _ _ (C.tk _)
def dec (n : Int) : List Nat := u (Str.ofString (toString n))
theorem r_strI {i : Int} {t : Tok} (C : Cx g L m ν z s) (h : i.natAbs.log2 < 1920) (k : ∀ t s', Cx g L m ν z s' → Q (.str (S (dec i)) t) s') : wpAny (MM w) A (call (.type "str") [.int i t]) Q E s :=
  PySem.P.str_of_int h (by
    have := k s.toks _ (C.tk (s.toks + 1))
    rw [show S (dec i) = Str.ofString (toString i) from S_u _] at this
    exact this)
end
theorem fmod2 (a : Int) : 0 ≤ a.fmod 2 ∧ a.fmod 2 < 2 := ⟨Int.fmod_nonneg_of_pos a (by decide), Int.fmod_lt_of_pos a (by decide)⟩
def markL (kind : Int) : List Nat := itemL [124, 34, 92, 32, 9, 10, 40, 53, 41, 124] kind
def fieldL (size kind port : Int) : List Nat :=
  markL kind ++ rep (size.fmod 2) [120] ++ rep 2 (markL kind) ++ dec port ++ markL kind ++ rep (kind.fdiv 9) [121]
def replyL (size kind port : Int) : List Nat :=
  [50, 50, 57, 32] ++ rep (size.fmod 2) [41] ++ [40] ++ fieldL size kind port ++ rep (1 + size.fmod 2) [41]
set_option maxHeartbeats 1000000 in
theorem reply_spec {w : World} {A : Around} {g : Heap} {L : Addr} {m : Str → Option Value} {ν : List (Addr × Obj)} {z s : Shared} {D U : Nat} {Q : Value → Shared → Prop} {E : Value → Shared → Prop} {cn : Str} {cs : Scope} {a : Addr} {ccd : Value} {cl : List (Str × Addr)}
    {size kind port : Int} {t1 t2 t3 : Tok}
    (G : Gx w g) (X : Ax (D + 1) (U + 8) A (envX cn cs L a ccd cl) g) (C : Cx g L m ν z s) (hke : cs.kind = .function) (h0 : 0 ≤ kind) (h1 : kind < 10) (hp : (dec port).length ≤ 20) (hp' : port.natAbs.log2 < 1920)
    (k : ∀ t s', Cx g L m ν z s' → Q (.str (S (replyL size kind port)) t) s') :
    wpAny (MM w) A (call (.ref 204) [.int size t1, .int kind t2, .int port t3]) Q E s := by
  refine r_enter (binds := [(Str.ofString "size", .int size t1), (Str.ofString "kind", .int kind t2), (Str.ofString "port", .int port t3)]) G X C hke rfl (by kernel_rfl) (BindsTo.of_eq rfl) (locs rfl) rfl rfl rfl (by decide) ?_
  clear G X C
  intro g' L' s G X hg C
  simp only [bm, List.foldl] at C
  have f2 := fmod2 size
  have f9 : kind.fdiv 9 ≤ 1 ∧ 0 ≤ kind.fdiv 9 := by
    rw [Int.fdiv_eq_ediv_of_nonneg _ (by decide)]; omega
  repeat walk_at "go"
  with_reducible refine r_itemS C h0 (by walk_at "len") (by decide) ?_; intro t s C
  repeat walk_at "go"
  with_reducible refine r_strI C hp' ?_; intro t s C
  repeat walk_at "go"
  refine ⟨_, _, C, fun C => ?_⟩
  exact k _ _ C
/-- a cut between two places -/
def cut (l : List Nat) (i j : Nat) : List Nat := (l.take j).drop i
theorem range_map_get (l : List Nat) : ∀ (n i : Nat), i + n ≤ l.length → ((List.range n).map (fun k => k + i)).filterMap (fun k => l[k]?) = (l.drop i).take n
  | 0, _, _ => by simp
  | n + 1, i, h => by
    rw [List.range_succ, List.map_append, List.filterMap_append, range_map_get l n i (by omega)]
    have h2 : n + i < l.length := by omega
    simp only [List.map_cons, List.map_nil, List.filterMap_cons, List.filterMap_nil, List.getElem?_eq_getElem h2]
    rw [List.take_add_one, List.getElem?_drop, show i + n = n + i from Nat.add_comm _ _, List.getElem?_eq_getElem h2]
    rfl
theorem sliceRange_one (a b : Nat) : sliceRange (a : Int) (b : Int) 1 = (List.range (b - a)).map (fun k => k + a) := by
  unfold sliceRange
  simp only [show (1 : Int) > 0 from by decide, if_true]
  have e : (if (a : Int) < (b : Int) then ((b : Int) - (a : Int) + 1 - 1) / 1 else 0).toNat = b - a := by
    split
    · rw [Int.ediv_one]; omega
    · show (0 : Int).toNat = _; omega
  rw [e]
  apply List.map_congr_left
  intro k _
  rw [Int.one_mul]; omega
theorem cut_eq (l : List Nat) (a b : Nat) : (l.drop a).take (b - a) = cut l a b := by
  unfold cut
  rw [List.drop_take]
theorem filterMap_arr (l : List Nat) (xs : List Nat) : xs.filterMap (fun k => (S l).cps[k]?) = xs.filterMap (fun k => l[k]?) := by
  congr 1
  funext k
  simp [S]
theorem S_slice_of (l : List Nat) {lo hi : Option Int} {a b : Nat} (hb : b ≤ l.length) (hi' : Builtin.Str.strSliceIndices lo hi 1 l.length = (List.range (b - a)).map (fun k => k + a)) : Txt.slice (S l) lo hi = S (cut l a b) := by
  unfold Txt.slice
  rw [S_len, hi']
  have key : (((List.range (b - a)).map (fun k => k + a)).filterMap (fun k => (S l).cps[k]?)) = cut l a b := by
    rw [filterMap_arr]
    by_cases hab : a ≤ b
    · rw [range_map_get l (b - a) a (by omega), cut_eq l a b]
    · have e : b - a = 0 := by omega
      rw [e]
      simp only [List.range_zero, List.map_nil, List.filterMap_nil]
      unfold cut
      exact (List.drop_eq_nil_of_le (by rw [List.length_take]; omega)).symm
  split
  · rename_i h
    have hl : b - a = l.length := by simpa using h
    by_cases h0 : l.length = 0
    · have : l = [] := List.eq_nil_of_length_eq_zero h0
      subst this
      simp [cut]
    · have ha : a = 0 := by omega
      have hb' : b = l.length := by omega
      subst ha hb'
      simp [cut]
  · rw [key]; rfl
theorem S_slice_ss (l : List Nat) (i j : Nat) : Txt.slice (S l) (some (i : Int)) (some (j : Int)) = S (cut l i j) := by
  have e : cut l (min i l.length) (min j l.length) = cut l i j := by
    unfold cut
    by_cases hj : j ≤ l.length
    · rw [Nat.min_eq_left hj]
      by_cases hi : i ≤ l.length
      · rw [Nat.min_eq_left hi]
      · rw [Nat.min_eq_right (by omega), List.drop_eq_nil_of_le (by rw [List.length_take]; omega), List.drop_eq_nil_of_le (by rw [List.length_take]; omega)]
    · rw [show min j l.length = l.length from by omega, List.take_length, List.take_of_length_le (l := l) (i := j) (by omega)]
      by_cases hi : i ≤ l.length
      · rw [Nat.min_eq_left hi]
      · rw [Nat.min_eq_right (by omega), List.drop_eq_nil_of_le (by omega), List.drop_eq_nil_of_le (by omega)]
  rw [← e]
  refine S_slice_of l (Nat.min_le_right _ _) ?_
  rw [← sliceRange_one]
  unfold Builtin.Str.strSliceIndices
  simp only [show (1 : Int) > 0 from by decide, if_true]
  rw [if_neg (by omega), if_neg (by omega)]
  congr 1 <;> omega
theorem S_slice_ns (l : List Nat) (j : Nat) : Txt.slice (S l) none (some (j : Int)) = S (cut l 0 j) := by
  have e : cut l 0 (min j l.length) = cut l 0 j := by
    unfold cut
    by_cases hj : j ≤ l.length
    · rw [Nat.min_eq_left hj]
    · rw [show min j l.length = l.length from by omega, List.take_length, List.take_of_length_le (l := l) (i := j) (by omega)]
  rw [← e]
  refine S_slice_of l (Nat.min_le_right _ _) ?_
  rw [← sliceRange_one]
  unfold Builtin.Str.strSliceIndices
  simp only [show (1 : Int) > 0 from by decide, if_true]
  rw [if_neg (by omega)]
  congr 1; omega
section
variable {w : World} {A : Around} {g : Heap} {L : Addr} {m : Str → Option Value} {ν : List (Addr × Obj)} {z s : Shared} {D U : Nat} {Q : Value → Shared → Prop} {E : Value → Shared → Prop} {env : Env}
theorem c_while {test : Expr} {body orelse : List Stmt} {pos : Pos} {Q : Flow → Shared → Prop} (I : Nat → Shared → Prop) (n : Nat) (h0 : I n s)
    (turn : ∀ n s, I n s → wpAny (MM w) A (isTrue test env (eval test env)) (fun b s₁ => if b then wpAny (MM w) A (execs body env) (fun f s₂ => match f with | .next | .cont => ∃ n', n' < n ∧ I n' s₂ | .brk => Q .next s₂ | .ret v => Q (.ret v) s₂) (fun _ _ => False) s₁
      else wpAny (MM w) A (execs orelse env) Q (fun _ _ => False) s₁) (fun _ _ => False) s) :
    wpAny (MM w) A (exec (.While test body orelse pos) env) Q E s := by
  refine wpAny_While (codeAny_whileLoop I (fun n s hI => ?_) n h0)
  refine wpAny_mono (turn n s hI) (fun b s₁ h₁ => ?_) fun _ _ h => h.elim
  cases b with
  | true => exact wpAny_mono h₁ (fun f s₂ h₂ => by cases f <;> exact h₂) fun _ _ h => h.elim
  | false => exact wpAny_mono h₁ (fun f s₂ h₂ => h₂) fun _ _ h => h.elim
theorem r_lenS {l : List Nat} {t : Tok} (C : Cx g L m ν z s) (h : l.length ≤ 16777216) (k : ∀ t s', Cx g L m ν z s' → Q (.int l.length t) s') : wpAny (MM w) A (call (.builtin "len") [.str (S l) t]) Q E s :=
  PyProof.Rows.len_str (by rw [S_len]; omega) (by rw [S_len]; exact k _ _ (C.tk _))
theorem r_slice_ss {value slice : Expr} {l : List Nat} {i' j' : Int} {t ti tj : Tok} (i j : Nat) (C : Cx g L m ν z s) (hi : i' = (i : Int)) (hj : j' = (j : Int)) (h : l.length ≤ 16777216) (k : ∀ t s', Cx g L m ν z s' → Q (.str (S (cut l i j)) t) s')
    (hs : subscripted slice false (.str (S l) t) (.ref s.heap.objs.size) = operate [.ref s.heap.objs.size, .str (S l) t] (getItem (.str (S l) t) (.ref s.heap.objs.size)) := by kernel_rfl) (ht : ∀ r, letTemporaryGo value (.str (S l) t) r = pure () := by intro _; kernel_rfl) :
    wpAny (MM w) A (subscriptTail value slice (.str (S l) t) (.ref s.heap.objs.size)) Q E { s with heap := s.heap.push { cls := .type "slice", data := .fields #[.int i' ti, .int j' tj, .none] } } := by
  subst hi hj
  exact slice_strN_ss C.fr C.nw (fun _ _ _ F N => by rw [S_slice_ss]; exact k _ _ (C.at F N C.nd)) hs ht (by rw [S_len, sizeLine_eq]; exact h)
theorem r_slice_ns {value slice : Expr} {l : List Nat} {j' : Int} {t tj : Tok} (j : Nat) (C : Cx g L m ν z s) (hj : j' = (j : Int)) (h : l.length ≤ 16777216) (k : ∀ t s', Cx g L m ν z s' → Q (.str (S (cut l 0 j)) t) s')
    (hs : subscripted slice false (.str (S l) t) (.ref s.heap.objs.size) = operate [.ref s.heap.objs.size, .str (S l) t] (getItem (.str (S l) t) (.ref s.heap.objs.size)) := by kernel_rfl) (ht : ∀ r, letTemporaryGo value (.str (S l) t) r = pure () := by intro _; kernel_rfl) :
    wpAny (MM w) A (subscriptTail value slice (.str (S l) t) (.ref s.heap.objs.size)) Q E { s with heap := s.heap.push { cls := .type "slice", data := .fields #[.none, .int j' tj, .none] } } := by
  subst hj
  exact slice_strN_ns C.fr C.nw (fun _ _ _ F N => by rw [S_slice_ns]; exact k _ _ (C.at F N C.nd)) hs ht (by rw [S_len, sizeLine_eq]; exact h)
end
theorem ite_b {b : Bool} {P Q : Prop} (h1 : b = true → P) (h2 : b = false → Q) : if b = true then P else Q := by
  cases b with
  | true => rw [if_pos rfl]; exact h1 rfl
  | false => rw [if_neg (by decide)]; exact h2 rfl
theorem ite_t {b : Bool} {P Q : Prop} (hb : b = true) (h : P) : if b = true then P else Q := by rw [if_pos hb]; exact h
theorem ite_f {b : Bool} {P Q : Prop} (hb : b = false) (h : Q) : if b = true then P else Q := by rw [if_neg (by rw [hb]; decide)]; exact h
/-- what parse257 reads behind the opening mark -/
def p257 : List Nat → List Nat
  | [] => []
  | [c] => if c = 34 then [] else [c]
  | c :: d :: r => if c = 34 then (if d = 34 then 34 :: p257 r else []) else c :: p257 (d :: r)
theorem p257_plain {c : Nat} {r : List Nat} (h : c ≠ 34) : p257 (c :: r) = c :: p257 r := by
  cases r with
  | nil => simp [p257, h]
  | cons d r => simp [p257, h]
theorem drop_get (l : List Nat) (i : Nat) (h : i < l.length) : l.drop i = l.getD i 0 :: l.drop (i + 1) := by
  rw [List.drop_eq_getElem_cons h]
  simp [List.getD_eq_getElem?_getD, List.getElem?_eq_getElem h]
set_option maxHeartbeats 2000000 in
theorem hideH {M : Model} {A : Around} {α : Type} {c : Sem α} {Q : α → Shared → Prop} {E : Value → Shared → Prop} {s : Shared} {D U : Nat} {env : Env} {g : Heap} (X : Ax D U A env g)
    (h : ∀ A' Q' E', Ax D U A' env g → Q' = Q → E' = E → wpAny M A' c Q' E' s) : wpAny M A c Q E s := h A Q E X rfl rfl
theorem hideI {M : Model} {A : Around} {α : Type} {c : Sem α} {Q : α → Shared → Prop} {E : Value → Shared → Prop} {s : Shared}
    (h : ∀ Q' E', Q' = Q → E' = E → wpAny M A c Q' E' s) : wpAny M A c Q E s := h Q E rfl rfl
theorem parse257_spec {w : World} {A : Around} {g : Heap} {L : Addr} {m : Str → Option Value} {ν : List (Addr × Obj)} {z s : Shared} {D U : Nat} {Q : Value → Shared → Prop} {E : Value → Shared → Prop} {cn : Str} {cs : Scope} {a : Addr} {ccd : Value} {cl : List (Str × Addr)}
    {l : List Nat} {t1 : Tok}
    (G : Gx w g) (X : Ax (D + 1) (U + 8) A (envX cn cs L a ccd cl) g) (C : Cx g L m ν z s) (hke : cs.kind = .function) (hl : l.length ≤ 10000) (h3 : cut l 0 3 = [50, 53, 55]) (h5 : cut l 3 5 = [32, 34])
    (k : ∀ t s', Cx g L m ν z s' → Q (.str (S (p257 (l.drop 5))) t) s') :
    wpAny (MM w) A (call (.ref 72) [.str (S l) t1]) Q E s := by
  refine r_enter (binds := [(Str.ofString "resp", .str (S l) t1)]) G X C hke rfl (by kernel_rfl) (BindsTo.of_eq rfl) (locs rfl) rfl rfl rfl (by decide) ?_
  clear G X C
  intro g' L' s G X hg C
  simp only [bm, List.foldl] at C
  refine hideH X ?_; clear X; intro A' Q1 E1 X hq1 he1
  repeat walk_at "go"
  with_reducible refine r_slice_ns 3 C (by omega) (by omega) ?_; intro t s C
  repeat walk_at "go"
  refine ite_f (by rw [h3]; decide) ?_
  repeat walk_at "go"
  with_reducible refine r_slice_ss 3 5 C (by omega) (by omega) (by omega) ?_; intro t s C
  repeat walk_at "go"
  refine ite_f (by rw [h5]; decide) ?_
  repeat walk_at "go"
  with_reducible refine r_lenS C (by omega) ?_; intro t s C
  repeat walk_at "go"
  have hl5 : (5 : Int) ≤ l.length := by
    have := congrArg List.length h5
    unfold cut at this
    simp at this
    omega
  refine c_while (fun n s => ∃ m i d ti td tn tr, Cx g' L' m ν z s ∧ m (Str.ofString "resp") = some (.str (S l) tr) ∧ m (Str.ofString "i") = some (.int i ti) ∧ m (Str.ofString "n") = some (.int l.length tn) ∧ m (Str.ofString "dirname") = some (.str (S d) td) ∧
      5 ≤ i ∧ i ≤ l.length ∧ d.length ≤ i ∧ d ++ p257 (l.drop i.toNat) = p257 (l.drop 5) ∧ n = l.length - i.toNat) (l.length - 5)
    ⟨_, 5, [], _, _, _, _, C, by walk_at "lk", by walk_at "lk", by walk_at "lk", by walk_at "lk", by omega, hl5, by simp, by simp, by simp⟩ ?_
  clear C
  rintro n s ⟨m, i, d, ti, td, tn, tr, C, hr, hi, hn, hd, h1, h2, h3, h4, rfl⟩
  repeat walk_at "go"
  refine ite_b (fun hb => ?_) (fun hb => ?_)
  · have hlt : i < l.length := by simpa using hb
    have hdr := drop_get l i.toNat (by omega)
    refine hideI ?_; intro Q2 E2 hq2 he2
    repeat walk_at "go"
    with_reducible refine r_itemS C (by omega) (by omega) (by omega) ?_; intro t s C
    repeat walk_at "go"
    have hit : itemL l i = [l.getD i.toNat 0] := rfl
    refine ite_b (fun hc => ?_) (fun hc => ?_)
    · have hc' : l.getD i.toNat 0 = 34 := by simpa [hit] using hc
      rw [hc'] at hdr
      repeat walk_at "go"
      refine ite_b (fun hq => ?_) (fun hq => ?_)
      · have hq' : (l.length : Int) ≤ i + 1 := by simpa using hq
        refine ite_t rfl ?_
        repeat walk_at "go"
        subst hq2
        repeat walk_at "go"
        subst hq1
        refine ⟨_, _, C, fun C => ?_⟩
        have e : l.drop (i.toNat + 1) = [] := List.drop_eq_nil_of_le (by omega)
        rw [hdr, e] at h4
        simp [p257] at h4
        rw [← h4] at k
        exact k _ _ C
      · have hq' : i + 1 < (l.length : Int) := by simpa using hq
        have hdr2 := drop_get l (i.toNat + 1) (by omega)
        have hit2 : itemL l (i + 1) = [l.getD (i.toNat + 1) 0] := by
          unfold itemL; rw [show (i + 1).toNat = i.toNat + 1 from by omega]
        repeat walk_at "go"
        with_reducible refine r_itemS C (by omega) (by omega) (by omega) ?_; intro t s C
        repeat walk_at "go"
        refine ite_b (fun hp => ?_) (fun hp => ?_)
        · have hp' : l.getD (i.toNat + 1) 0 ≠ 34 := by simpa [hit2] using hp
          refine ite_t rfl ?_
          repeat walk_at "go"
          subst hq2
          repeat walk_at "go"
          subst hq1
          refine ⟨_, _, C, fun C => ?_⟩
          rw [hdr, hdr2] at h4
          simp only [p257, if_pos, if_neg hp', List.append_nil] at h4
          rw [← h4] at k
          exact k _ _ C
        · have hp' : l.getD (i.toNat + 1) 0 = 34 := by simpa [hit2] using hp
          repeat walk_at "go"
          refine ite_f rfl ?_
          repeat walk_at "go"
          subst hq2
          refine ⟨l.length - (i + 1 + 1).toNat, by omega, _, _, _, _, _, _, _, C, by walk_at "lk", by walk_at "lk", by walk_at "lk", by walk_at "lk", by omega, by omega, by simp [hit]; omega, ?_, rfl⟩
          rw [hdr, hdr2, hp'] at h4
          simp only [p257, if_pos] at h4
          rw [show (i + 1 + 1).toNat = i.toNat + 1 + 1 from by omega, hit, hc', List.append_assoc]
          exact h4
    · have hc' : l.getD i.toNat 0 ≠ 34 := by simpa [hit] using hc
      rw [hdr, p257_plain hc'] at h4
      repeat walk_at "go"
      subst hq2
      refine ⟨l.length - (i + 1).toNat, by omega, _, _, _, _, _, _, _, C, by walk_at "lk", by walk_at "lk", by walk_at "lk", by walk_at "lk", by omega, by omega, by simp [hit]; omega, ?_, rfl⟩
      rw [show (i + 1).toNat = i.toNat + 1 from by omega, hit, List.append_assoc]
      exact h4
  · have hge : (l.length : Int) ≤ i := by simpa using hb
    repeat walk_at "go"
    subst hq1
    refine ⟨_, _, C, fun C => ?_⟩
    have e : l.drop i.toNat = [] := List.drop_eq_nil_of_le (by omega)
    rw [e] at h4
    simp [p257] at h4
    rw [← h4] at k
    exact k _ _ C
/-- an entry of the ledger changed -/
def up (ν : List (Addr × Obj)) (a : Addr) (o : Obj) : List (Addr × Obj) := ν.map fun p => if p.1 = a then (a, o) else p
theorem up_keys (ν : List (Addr × Obj)) (a : Addr) (o : Obj) : (up ν a o).map (·.1) = ν.map (·.1) := by
  unfold up
  rw [List.map_map]
  apply List.map_congr_left
  intro p _
  show (if p.1 = a then (a, o) else p).1 = p.1
  split
  · rename_i h; exact h.symm
  · rfl
theorem up_head {ν : List (Addr × Obj)} {a : Addr} {o o' : Obj} (h : a ∉ ν.map (·.1)) : up ((a, o) :: ν) a o' = (a, o') :: ν := by
  unfold up
  rw [List.map_cons, if_pos rfl]
  congr 1
  rw [show ν = ν.map id from (List.map_id _).symm, List.map_map]
  apply List.map_congr_left
  intro p hp
  show (if p.1 = a then (a, o') else p) = p
  exact if_neg fun e : p.1 = a => h (List.mem_map.mpr ⟨p, hp, e⟩)
theorem up_tail {ν : List (Addr × Obj)} {p : Addr × Obj} {a : Addr} {o : Obj} (h : p.1 ≠ a) : up (p :: ν) a o = p :: up ν a o := by
  unfold up
  rw [List.map_cons, if_neg h]
theorem up_none {ν : List (Addr × Obj)} {a : Addr} {o : Obj} (h : a ∉ ν.map (·.1)) : up ν a o = ν := by
  unfold up
  conv => rhs; rw [show ν = ν.map id from (List.map_id _).symm]
  apply List.map_congr_left
  intro p hp
  show (if p.1 = a then (a, o) else p) = p
  exact if_neg fun e : p.1 = a => h (List.mem_map.mpr ⟨p, hp, e⟩)
theorem up_same {ν : List (Addr × Obj)} {a : Addr} {o o' : Obj} (h : (a, o) ∈ ν) : (a, o') ∈ up ν a o' := by
  unfold up
  exact List.mem_map.mpr ⟨(a, o), h, if_pos rfl⟩
theorem up_ne {ν : List (Addr × Obj)} {a b : Addr} {o o' : Obj} (h : (b, o) ∈ ν) (hne : b ≠ a) : (b, o) ∈ up ν a o' := by
  unfold up
  exact List.mem_map.mpr ⟨(b, o), h, if_neg hne⟩

section
variable {g : Heap} {L : Addr} {m : Str → Option Value} {ν : List (Addr × Obj)} {z s : Shared}
theorem Cx.get (C : Cx g L m ν z s) {a : Addr} {o : Obj} (h : (a, o) ∈ ν) : s.heap.get? a = some o := (C.nw _ h).1
theorem Cx.old (C : Cx g L m ν z s) {a : Addr} {o : Obj} (h : g.get? a = some o) : s.heap.get? a = some o := C.fr.keep a o h
theorem Cx.upd (C : Cx g L m ν z s) {a : Addr} {o o' : Obj} {h' : Heap} {k : Nat} (hm : (a, o) ∈ ν) (hs : Heap.SameBut a s.heap h') (he : h'.get? a = some o') : Cx g L m (up ν a o') z { s with heap := h', toks := k } := by
  refine C.at (C.fr.change hs (C.nw _ hm).2.1 (C.nw _ hm).2.2) ?_ (by rw [up_keys]; exact C.nd)
  intro p hp
  unfold up at hp
  obtain ⟨q, hq, rfl⟩ := List.mem_map.mp hp
  have N := C.nw q hq
  by_cases h : q.1 = a
  · rw [if_pos h]
    exact ⟨he, (C.nw _ hm).2⟩
  · rw [if_neg h]
    exact ⟨(hs.2 _ h).trans N.1, N.2⟩
theorem Cx.fresh (C : Cx g L m ν z s) : s.heap.objs.size ∉ ν.map (·.1) := fun h => by
  obtain ⟨p, hp, e⟩ := List.mem_map.mp h
  exact absurd (Heap.lt_size (C.nw p hp).1) (e ▸ Nat.lt_irrefl _)
theorem Cx.push (C : Cx g L m ν z s) (o : Obj) (hf : o.isFreed = false) (k : Nat) : Cx g L m ((s.heap.objs.size, o) :: ν) z { s with heap := s.heap.push o, toks := k } :=
  C.at (C.fr.push o) (C.nw.push C.fr o hf) (by rw [List.map_cons, List.nodup_cons]; exact ⟨C.fresh, C.nd⟩)
theorem Cx.tail {p : Addr × Obj} (C : Cx g L m (p :: ν) z s) : Cx g L m ν z s := ⟨C.fr, fun q hq => C.nw q (.tail _ hq), (List.nodup_cons.mp C.nd).2, C.eq⟩
theorem Cx.head_ne {p : Addr × Obj} (C : Cx g L m (p :: ν) z s) : p.1 ∉ ν.map (·.1) := (List.nodup_cons.mp C.nd).1
theorem Cx.perm {ν' : List (Addr × Obj)} (C : Cx g L m ν z s) (h : ν'.Perm ν) : Cx g L m ν' z s := ⟨C.fr, fun q hq => C.nw q (h.mem_iff.mp hq), (h.map (·.1)).nodup_iff.mpr C.nd, C.eq⟩
theorem Cx.sub {ν' : List (Addr × Obj)} (C : Cx g L m ν z s) (h : ν'.Sublist ν) : Cx g L m ν' z s := ⟨C.fr, fun q hq => C.nw q (h.subset hq), (h.map (·.1)).nodup C.nd, C.eq⟩
/-- everything but these addresses is as it was, in the ledger's words -/
theorem Cx.moved (C : Cx g L m ν z s) {h' : Heap} {k : Nat} (hk : ∀ b o, s.heap.get? b = some o → h'.get? b = some o) : Cx g L m ν z { s with heap := h', toks := k } := by
  obtain ⟨⟨oL, es, ep, hL, r⟩, keep, ab⟩ := C.fr
  exact C.at ⟨⟨oL, es, ep, hk _ _ hL, r⟩, fun b o e => hk b o (keep b o e), ab⟩ (fun p hp => ⟨hk _ _ (C.nw p hp).1, (C.nw p hp).2⟩) C.nd
/-- the same but for entries at the head -/
theorem Cx.moved1 {a : Addr} {o o' : Obj} (C : Cx g L m ((a, o) :: ν) z s) {h' : Heap} {k : Nat} (hk : ∀ b ob, b ∉ [a] → s.heap.get? b = some ob → h'.get? b = some ob) (he : h'.get? a = some o') : Cx g L m ((a, o') :: ν) z { s with heap := h', toks := k } := by
  obtain ⟨⟨oL, es, ep, hL, r⟩, keep, ab⟩ := C.fr
  have A := C.nw (a, o) (.head _)
  have hkk : ∀ b ob, b ≠ a → s.heap.get? b = some ob → h'.get? b = some ob := fun b ob hb e => hk b ob (by simpa using hb) e
  refine C.at ⟨⟨oL, es, ep, hkk _ _ (Ne.symm A.2.1) hL, r⟩, fun b ob e => hkk b ob (fun q => ?_) (keep b ob e), ab⟩ (fun p hp => ?_) C.nd
  · subst q; have := A.2.2; rw [e] at this; cases this
  · rcases List.mem_cons.mp hp with rfl | hp
    · exact ⟨he, A.2⟩
    · have N := C.nw p (.tail _ hp)
      exact ⟨hkk _ _ (fun q : p.1 = a => C.head_ne (List.mem_map.mpr ⟨p, hp, q⟩)) N.1, N.2⟩
/-- what is known of an object: in the base, or in the ledger -/
def Kn (g : Heap) (ν : List (Addr × Obj)) (a : Addr) (o : Obj) : Prop := g.get? a = some o ∨ (a, o) ∈ ν
theorem Kn.get {a : Addr} {o : Obj} (h : Kn g ν a o) (C : Cx g L m ν z s) : s.heap.get? a = some o := h.elim (fun e => C.old e) fun e => C.get e
theorem Kn.base {a : Addr} {o : Obj} {g' : Heap} (h : Kn g ν a o) (hg : ∀ b o, g.get? b = some o → g'.get? b = some o) : Kn g' ν a o := h.imp (fun e => hg _ _ e) id
theorem Kn.cons {a : Addr} {o : Obj} {p : Addr × Obj} (h : Kn g ν a o) : Kn g (p :: ν) a o := h.imp id fun e => .tail _ e
theorem Kn.head {a : Addr} {o : Obj} : Kn g ((a, o) :: ν) a o := .inr (.head _)
end
/-- a list, a tuple -/
abbrev LO (vs : List Value) (n : Nat) : Obj := { cls := .type "list", data := .seq vs.toArray n }
abbrev TO (vs : List Value) (n : Nat) : Obj := { cls := .type "tuple", data := .seq vs.toArray n }
/-- an object that holds names -/
def NsO (o : Obj) (m : Str → Option Value) : Prop := ∀ (h : Heap) (a : Addr), h.get? a = some o → h.Ns a m
theorem nsO_of {h : Heap} {a : Addr} {m : Str → Option Value} (n : h.Ns a m) : ∃ o, h.get? a = some o ∧ NsO o m := by
  obtain ⟨o, es, ep, ho, r⟩ := n
  exact ⟨o, ho, fun _ _ e => ⟨o, es, ep, e, r⟩⟩
section
variable {w : World} {A : Around} {g : Heap} {L : Addr} {m : Str → Option Value} {ν : List (Addr × Obj)} {z s : Shared} {D U : Nat} {Q : Value → Shared → Prop} {E : Value → Shared → Prop} {env : Env} {x : Str} {pos : Pos} {v : Value}
theorem Cx.chg (C : Cx g L m ν z s) {a : Addr} {o o' : Obj} {h' : Heap} {k : Nat} (hm : (a, o) ∈ ν) (hk : ∀ b ob, b ≠ a → s.heap.get? b = some ob → h'.get? b = some ob) (he : h'.get? a = some o') : Cx g L m (up ν a o') z { s with heap := h', toks := k } := by
  obtain ⟨⟨oL, es, ep, hL, r⟩, keep, ab⟩ := C.fr
  have N := C.nw _ hm
  refine C.at ⟨⟨oL, es, ep, hk _ _ (Ne.symm N.2.1) hL, r⟩, fun b ob e => hk b ob (fun q => ?_) (keep b ob e), ab⟩ ?_ (by rw [up_keys]; exact C.nd)
  · subst q; have := N.2.2; rw [e] at this; cases this
  · intro p hp
    unfold up at hp
    obtain ⟨q, hq, rfl⟩ := List.mem_map.mp hp
    have M := C.nw q hq
    by_cases h : q.1 = a
    · rw [if_pos h]; exact ⟨he, N.2⟩
    · rw [if_neg h]; exact ⟨hk _ _ h M.1, M.2⟩
theorem Cx.off {a : Addr} {o : Obj} (C : Cx g L m ((a, o) :: ν) z s) {h' : Heap} {k : Nat} (hk : ∀ b ob, b ≠ a → s.heap.get? b = some ob → h'.get? b = some ob) : Cx g L m ν z { s with heap := h', toks := k } := by
  obtain ⟨⟨oL, es, ep, hL, r⟩, keep, ab⟩ := C.fr
  have N := C.nw (a, o) (.head _)
  refine C.at ⟨⟨oL, es, ep, hk _ _ (Ne.symm N.2.1) hL, r⟩, fun b ob e => hk b ob (fun q => ?_) (keep b ob e), ab⟩ ?_ (List.nodup_cons.mp C.nd).2
  · subst q; have := N.2.2; rw [e] at this; cases this
  · intro p hp
    have M := C.nw p (.tail _ hp)
    exact ⟨hk _ _ (fun q : p.1 = a => C.head_ne (List.mem_map.mpr ⟨p, hp, q⟩)) M.1, M.2⟩
theorem r_cname {mc : Str → Option Value} {oc : Obj} {scope : Scope} {cl : List (Str × Addr)} {C' : Addr} (C : Cx g L m ν z s) (hm : (C', oc) ∈ ν) (ho : NsO oc mc) (hv : mc x = some v) (h : Q v s) (hk : (compEnvC scope cl C' env).scope.kind = .function := by kernel_rfl) (hx : (compEnvC scope cl C' env).kindOf x = some .local := by kernel_rfl) (hd : (x == ("__debug__" : Str)) = false := by kernel_rfl) :
    wpAny (MM w) A (eval (.Name x pos) (compEnvC scope cl C' env)) Q E s := wpAny_Name (wpAny_loadName_local hk hx (ho _ _ (C.get hm)) hv h) hd
theorem r_ccell {c : Addr} {o : Obj} (C : Cx g L m ν z s) (hc : env.cells.lookup x = some c) (hm : (c, o) ∈ ν) (hd : o.data = .cell (some v)) (h : Q v s) (hk : env.scope.kind = .function := by kernel_rfl) (hx : env.kindOf x = some .cell := by kernel_rfl) (hb : (x == ("__debug__" : Str)) = false := by kernel_rfl) :
    wpAny (MM w) A (eval (.Name x pos) env) Q E s := wpAny_Name (wpAny_loadName_cell hk hx hc ⟨o, C.get hm, hd⟩ h) hb
theorem c_assignN {px : Pos} {Q : Unit → Shared → Prop} (h : wpAny (MM w) A (storeName env x v) Q E s) : wpAny (MM w) A (assign (.Name x px) env v) Q E s :=
  wpAny_bind (wpAny_standAt (wpAny_bindName h))
/-- an iterator, and what it gives -/
structure It (w : World) (g : Heap) (I : Addr) (n : Nat) (P : Nat → Value → Prop) (St : Nat → Heap → Prop) (K : List (Addr × Obj) → Prop) : Prop where
  walks : ∀ A : Around, A.handled = none → ∃ fp, Walks P0 w A I fp [I] n P St ∧ ∀ b ∈ fp, b = I ∨ ∃ ob, ∀ ν, K ν → Kn g ν b ob
  ob : ∀ i h, St i h → ∃ o, h.get? I = some o
theorem Kn.mono {ν' : List (Addr × Obj)} {a : Addr} {o : Obj} (h : Kn g ν a o) (hs : ∀ p ∈ ν, p ∈ ν') : Kn g ν' a o := h.imp id fun e => hs _ e
end
section
variable {w : World} {A : Around} {g : Heap} {L : Addr} {m : Str → Option Value} {ν : List (Addr × Obj)} {z s : Shared} {Q : Value → Shared → Prop} {E : Value → Shared → Prop} {env : Env} {x : Str} {px pos : Pos}
  {I : Addr} {n : Nat} {P : Nat → Value → Prop} {St : Nat → Heap → Prop} {K : List (Addr × Obj) → Prop}
theorem It.move {fp : List Addr} (W : Walks P0 w A I fp [I] n P St) (hfp : ∀ b ∈ fp, b = I ∨ ∃ ob, ∀ ν, K ν → Kn g ν b ob) {i : Nat} {s₁ s₂ : Shared} {m₁ m₂ : Str → Option Value} {ν₁ ν₂ μ₁ μ₂ : List (Addr × Obj)} {o : Obj}
    (st : St i s₁.heap) (C₁ : Cx g L m₁ μ₁ z s₁) (C₂ : Cx g L m₂ μ₂ z s₂) (h1 : (I, o) ∈ μ₁) (h2 : (I, o) ∈ μ₂) (k1 : K ν₁) (k2 : K ν₂) (i1 : ∀ p ∈ ν₁, p ∈ μ₁) (i2 : ∀ p ∈ ν₂, p ∈ μ₂) : St i s₂.heap := by
  refine W.frame _ _ _ st fun b hb ob e => ?_
  rcases hfp b hb with rfl | ⟨ob', hk⟩
  · rw [C₁.get h1] at e; cases e; exact C₂.get h2
  · have a1 := ((hk _ k1).mono i1).get C₁
    have a2 := ((hk _ k2).mono i2).get C₂
    rw [a1] at e; cases e; exact a2
/-- a comprehension behind its iterator -/
theorem r_compW {elt iter : Expr} {ifs : List Expr} {scope : Scope} {cl : List (Str × Addr)} {oI : Obj} {R : Value → Addr → Result → Shared → Prop} (hh : A.handled = none) (T : It w g I n P St K) (C : Cx g L m ((I, oI) :: ν) z s) (hst : St 0 s.heap)
    (hcell : ∀ y ∈ scope.names, y.2 ≠ .cell) (hkind : scope.kind = .function) (hx : scope.names.lookup x = some .local) (hsz : n ≤ 1000000)
    (J : Nat → List Value → List (Addr × Obj) → Prop) (h0 : J 0 [] ν) (hK : ∀ i ys ν, J i ys ν → K ν)
    (turn : ∀ i v ys ν C' oc mc D k oI s, i < n → P i v → J i ys ν → NsO oc mc → mc x = some v → Cx g L m ((C', oc) :: (D, LO ys k) :: (I, oI) :: ν) z s →
      wpAny (MM w) A (forIn ifs true fun c r => if r = true then do let ok ← isTrue c (compEnvC scope cl C' env) (eval c (compEnvC scope cl C' env)); pure (ForInStep.yield ok) else pure (ForInStep.yield r)) (fun ok s₁ =>
        if ok = true then wpAny (MM w) A (eval elt (compEnvC scope cl C' env)) (fun y s₂ => ∃ ν', Cx g L m ((C', oc) :: (D, LO ys k) :: (I, oI) :: ν') z s₂ ∧ J (i + 1) (ys ++ [y]) ν') (fun _ _ => False) s₁
        else ∃ ν', Cx g L m ((C', oc) :: (D, LO ys k) :: (I, oI) :: ν') z s₁ ∧ J (i + 1) ys ν') (fun _ _ => False) s)
    (done : ∀ ys ν D C' oc mc k s, J n ys ν → NsO oc mc → Cx g L m ((C', oc) :: (D, LO ys k) :: ν) z s → R (.ref D) C' (.ok .next) s) :
    wpAny (MM w) A (newList []) (fun acc s₃ => wpAny (MM w) A (newFunctionEnv scope env.globals cl [] env.qual none .none (some env)) (fun cenv s₄ =>
      codeAny (MM w) A (.compStart (.ListComp elt [⟨.Name x px, iter, ifs, 0⟩] scope pos) 0 (.ref I) acc { cenv with scope := relabel scope env }) (R acc cenv.locals) s₄) E s₃) E s := by
  obtain ⟨fp, W, hfp⟩ := T.walks A hh
  refine wpAny_newObj_type (wpAny_newFunctionEnv hcell (by intro y hy; simp at hy) (fun h₁ hns₁ hsb₁ => ?_) hkind)
  dsimp only at hns₁ hsb₁ ⊢
  have C1 : Cx g L m ((s.heap.objs.size, LO [] 0) :: (I, oI) :: ν) z { s with heap := s.heap.push (LO [] 0), toks := s.toks } := C.push _ rfl _
  have C2 := C1.push { cls := .type "dict", data := .dict #[] } rfl s.toks
  obtain ⟨oc, hoc, hns⟩ := nsO_of hns₁
  have hkeep : ∀ b ob, b ≠ (s.heap.push (LO [] 0)).objs.size → ((s.heap.push (LO [] 0)).push { cls := .type "dict", data := .dict #[] }).get? b = some ob → h₁.get? b = some ob := fun b ob hb e => hsb₁.extBut b ob hb e
  have C3 := C2.chg (k := s.toks + ([] : List (Str × Value)).length) (.head _) hkeep hoc
  rw [up_head C2.head_ne] at C3
  generalize hC' : (s.heap.push (LO [] 0)).objs.size = C' at C3 hns₁ hsb₁ ⊢
  generalize hD : s.heap.objs.size = D at C3 ⊢
  have hst3 : St 0 h₁ := by
    refine It.move (s₂ := { s with heap := h₁, toks := s.toks + ([] : List (Str × Value)).length }) W hfp hst C C3 (.head _) (.tail _ (.tail _ (.head _))) (hK _ _ _ h0) (hK _ _ _ h0) (fun p hp => .tail _ hp) (fun p hp => .tail _ (.tail _ (.tail _ hp)))
  have loop : ∀ s₃ : Shared, s₃ = { s with heap := h₁, toks := s.toks + ([] : List (Str × Value)).length } →
      codeAny (MM w) A (.compLoop (.ListComp elt [⟨.Name x px, iter, ifs, 0⟩] scope pos) 0 (.ref I) (.ref D) (compEnvC scope cl C' env)) (R (.ref D) C') s₃ := by
    rintro s₃ rfl
    refine codeAny_compLoop_tests (fun k s => ∃ i ys ν oI oc mc kk, k = n + 1 - i ∧ i ≤ n ∧ ys.length ≤ i ∧ Cx g L m ((C', oc) :: (D, LO ys kk) :: (I, oI) :: ν) z s ∧ St i s.heap ∧ NsO oc mc ∧ J i ys ν) ?_ (n + 1)
      ⟨0, [], ν, oI, oc, _, 0, rfl, Nat.zero_le _, Nat.le_refl _, C3, hst3, hns, h0⟩
    rintro k s ⟨i, ys, ν, oI, oc, mc, kk, rfl, hi, hys, C, st, hn, hJ⟩
    have hne1 : C' ≠ D := fun e => C.head_ne (by simp [e])
    have hne2 : C' ≠ I := fun e => C.head_ne (by simp [e])
    have hne3 : D ≠ I := fun e => C.tail.head_ne (by simp [e])
    by_cases hlt : i < n
    · refine W.item i s _ _ hlt st fun v h' tk hP st' hk => ?_
      obtain ⟨o', ho'⟩ := T.ob _ _ st'
      have Ca := C.chg (k := tk) (.tail _ (.tail _ (.head _))) (fun b ob hb e => hk b ob (by simpa using hb) e) ho'
      rw [up_tail hne2, up_tail hne3, up_head C.tail.tail.head_ne] at Ca
      refine c_assignN (wpAny_storeName_local (lookup_relabel_local hx) (hn _ _ (Ca.get (.head _))) (fun h'' hn'' hs'' => ?_) (by simp [compEnvC, relabel, hkind]))
      obtain ⟨oc', hoc', hns'⟩ := nsO_of hn''
      have Cb := Ca.chg (k := tk + 1) (.head _) (fun b ob hb e => hs''.extBut b ob hb e) hoc'
      rw [up_head Ca.head_ne] at Cb
      refine wpAny_mono (turn i v ys ν C' oc' _ D kk o' _ hlt hP hJ hns' (by simp) Cb) (fun ok s₁ h₁ => ?_) fun _ _ h => h.elim
      have fin : ∀ (ys' : List Value) (ν' : List (Addr × Obj)) (kk' : Nat) (s₂ : Shared), ys'.length ≤ i + 1 → Cx g L m ((C', oc') :: (D, LO ys' kk') :: (I, o') :: ν') z s₂ → J (i + 1) ys' ν' → ∃ k', k' < n + 1 - i ∧ ∃ i ys ν oI oc mc kk, k' = n + 1 - i ∧ i ≤ n ∧ ys.length ≤ i ∧ Cx g L m ((C', oc) :: (D, LO ys kk) :: (I, oI) :: ν) z s₂ ∧ St i s₂.heap ∧ NsO oc mc ∧ J i ys ν := by
        intro ys' ν' kk' s₂ hl C₂ hJ'
        refine ⟨n + 1 - (i + 1), by omega, i + 1, ys', ν', o', oc', _, kk', rfl, hlt, hl, C₂, ?_, hns', hJ'⟩
        exact It.move (s₁ := { s with heap := h', toks := tk }) W hfp st' Ca C₂ (.tail _ (.tail _ (.head _))) (.tail _ (.tail _ (.head _))) (hK _ _ _ hJ) (hK _ _ _ hJ') (fun p hp => .tail _ (.tail _ (.tail _ hp))) (fun p hp => .tail _ (.tail _ (.tail _ hp)))
      cases ok with
      | false => obtain ⟨ν', C₂, hJ'⟩ := h₁; exact fin _ _ _ _ (by omega) C₂ hJ'
      | true =>
        refine wpAny_mono h₁ (fun y s₂ h₂ => ?_) fun _ _ h => h.elim
        obtain ⟨ν', C₂, hJ'⟩ := h₂
        refine append_at (C₂.get (.tail _ (.head _))) (fun h₃ hs₃ he₃ => ?_) (by rw [List.size_toArray, sizeLine_eq]; omega)
        have C₃ := C₂.chg (k := s₂.toks) (.tail _ (.head _)) (fun b ob hb e => hs₃.extBut b ob hb e) he₃
        rw [up_tail hne1, up_head C₂.tail.head_ne] at C₃
        refine fin (ys ++ [y]) ν' (kk + 1) _ (by simp; omega) ?_ hJ'
        rw [show LO (ys ++ [y]) (kk + 1) = { cls := .type "list", data := .seq (ys.toArray.push y) (kk + 1) } from by simp [LO]]
        exact C₃
    · have hin : i = n := by omega
      subst hin
      refine W.done s _ _ st fun h' tk hk => ?_
      have Cp := C.perm (ν' := (I, oI) :: (C', oc) :: (D, LO ys kk) :: ν) (by
        refine List.Perm.trans ?_ (List.Perm.cons _ (List.Perm.swap _ _ _))
        exact List.Perm.swap _ _ _)
      exact done ys ν D C' oc mc kk _ hJ hn (Cp.off (fun b ob hb e => hk b ob (by simpa using hb) e))
  exact codeAny_compStart_list (loop _ rfl) (W.self 0 _ _ _ hst3 (loop _ rfl))
end
section
variable {w : World} {A : Around} {g : Heap} {L : Addr} {m : Str → Option Value} {ν : List (Addr × Obj)} {z s : Shared} {Q : Value → Shared → Prop} {E : Value → Shared → Prop} {env : Env}
/-- the signs of a text -/
def SgP (l : List Nat) (i : Nat) (v : Value) : Prop := ∃ c t, l[i]? = some c ∧ v = .str (S [c]) t
theorem r_iterS {l : List Nat} {t : Tok} (C : Cx g L m ν z s) (k : ∀ I oI St s', It w g I l.length (SgP l) St (fun _ => True) → St 0 s'.heap → Cx g L m ((I, oI) :: ν) z s' → Q (.ref I) s') : wpAny (MM w) A (pyIter (.str (S l) t)) Q E s := by
  have hsz : (S l).cps.size = l.length := by simp [S]
  have hP : SignAt (S l) = SgP l := by
    funext i v
    unfold SignAt SgP
    simp [S]
  cases ha : (S l).cps.all (· < 128)
  · refine wpAny_pyIter_wide ha (k _ _ (fun i h => h.IsStrIter s.heap.objs.size "str_iterator" (S l) t i) _ ⟨fun A' hA => ⟨[s.heap.objs.size], ?_, fun b hb => .inl (by simpa using hb)⟩, fun i h st => ?_⟩ ⟨_, Heap.get?_push_size _ rfl, rfl, rfl⟩ (C.push _ rfl _))
    · have := Walks.strWide (prog := P0) (w := w) hA s.heap.objs.size (S l) t
      rw [hsz, hP] at this; exact this
    · obtain ⟨o, ho, _⟩ := st; exact ⟨o, ho⟩
  · refine wpAny_pyIter_ascii ha (k _ _ (fun i h => h.IsStrIter s.heap.objs.size "str_ascii_iterator" (S l) t i) _ ⟨fun A' hA => ⟨[s.heap.objs.size], ?_, fun b hb => .inl (by simpa using hb)⟩, fun i h st => ?_⟩ ⟨_, Heap.get?_push_size _ rfl, rfl, rfl⟩ (C.push _ rfl _))
    · have := Walks.strAscii (prog := P0) (w := w) hA s.heap.objs.size (S l) t
      rw [hsz, hP] at this; exact this
    · obtain ⟨o, ho, _⟩ := st; exact ⟨o, ho⟩
theorem r_iterL {vs : List Value} {ax : Addr} {n : Nat} (C : Cx g L m ν z s) (hl : Kn g ν ax (LO vs n)) (k : ∀ I oI St s', It w g I vs.length (fun i v => vs[i]? = some v) St (fun ν => Kn g ν ax (LO vs n)) → St 0 s'.heap → Cx g L m ((I, oI) :: ν) z s' → Q (.ref I) s') : wpAny (MM w) A (pyIter (.ref ax)) Q E s := by
  have hg := hl.get C
  have hne : ax ≠ s.heap.objs.size := Nat.ne_of_lt (Heap.lt_size hg)
  refine wpAny_pyIter_list ⟨_, hg, rfl, _, rfl⟩ (k _ _ (fun i h => h.IsListIter s.heap.objs.size ax i ∧ h.IsList ax vs.toArray) _ ⟨fun A' hA => ⟨[s.heap.objs.size, ax], ?_, fun b hb => ?_⟩, fun i h st => ?_⟩
    ⟨⟨_, Heap.get?_push_size _ rfl, rfl, rfl⟩, ⟨_, Heap.get?_push_of_some _ hg, rfl, _, rfl⟩⟩ (C.push _ rfl _))
  · have := Walks.list (prog := P0) (w := w) hA s.heap.objs.size ax hne vs.toArray
    simpa using this
  · simp at hb
    rcases hb with rfl | rfl
    · exact .inl rfl
    · exact .inr ⟨_, fun ν h => h⟩
  · obtain ⟨⟨o, ho, _⟩, _⟩ := st; exact ⟨o, ho⟩
/-- a range by ones -/
abbrev RO (a b : Int) (t u v : Tok) : Obj := { cls := .type "range", data := .fields #[.int a t, .int b u, .int 1 v] }
theorem rangeSize_one (a b : Int) : Builtin.Range.rangeSize a b 1 = ((b - a).toNat : Int) := by
  unfold Builtin.Range.rangeSize
  simp only [show (1 : Int) > 0 from by decide, if_true]
  split
  · first | omega | (rw [Int.ediv_one]; omega) | (rw [Int.fdiv_one]; omega)
  · omega
theorem r_iterR {a b : Int} {t u v : Tok} {r : Addr} (C : Cx g L m ν z s) (hl : Kn g ν r (RO a b t u v)) (h1 : -1000000 ≤ a) (h2 : a ≤ 1000000) (h3 : -1000000 ≤ b) (h4 : b ≤ 1000000)
    (k : ∀ I oI St s', It w g I (b - a).toNat (fun i v => ∃ t, v = .int (a + i) t) St (fun _ => True) → St 0 s'.heap → Cx g L m ((I, oI) :: ν) z s' → Q (.ref I) s') : wpAny (MM w) A (pyIter (.ref r)) Q E s := by
  have hg := hl.get C
  refine wpAny_pyIter_range (c := 1) hg ?_ (k _ _ (fun i h => IsRangeIter h s.heap.objs.size (a + (i : Nat) * 1) (((b - a).toNat : Int) - (i : Nat)) 1) _ ⟨fun A' hA => ⟨[s.heap.objs.size], ?_, fun b hb => .inl (by simpa using hb)⟩, fun i h st => ⟨_, st⟩⟩ ?_ (C.push _ rfl _))
  · unfold Builtin.Range.small
    rw [rangeSize_one]
    unfold Builtin.Range.rangeFitsLong
    simp only [show (1 : Int) > 0 from by decide, if_true, Bool.and_eq_true, Bool.or_eq_true, decide_eq_true_eq]
    exact ⟨⟨⟨⟨by omega, by omega⟩, by omega⟩, by omega⟩, .inr (by omega)⟩
  · have := Walks.range (prog := P0) (w := w) hA s.heap.objs.size a 1 (b - a).toNat
    simpa using this
  · rw [rangeSize_one]
    simp only [Int.natCast_zero, Int.zero_mul, Int.add_zero, Int.sub_zero]
    exact Heap.get?_push_size _ rfl
/-- a for loop behind its iterator -/
theorem r_forW {x : Str} {px : Pos} {body : List Stmt} {I : Addr} {n : Nat} {P : Nat → Value → Prop} {St : Nat → Heap → Prop} {K : List (Addr × Obj) → Prop} {oI : Obj} {cn : Str} {cs : Scope} {a : Addr} {ccd : Value} {cl : List (Str × Addr)} {Q : Flow → Shared → Prop} {R : Result → Shared → Prop}
    (hh : A.handled = none) (T : It w g I n P St K) (C : Cx g L m ((I, oI) :: ν) z s) (hst : St 0 s.heap)
    (J : Nat → (Str → Option Value) → List (Addr × Obj) → Prop) (h0 : J 0 m ν) (hK : ∀ i m ν, J i m ν → K ν)
    (turn : ∀ i v m ν oI s, i < n → P i v → J i m ν → Cx g L (st m x v) ((I, oI) :: ν) z s →
      wpAny (MM w) A (execs body (envX cn cs L a ccd cl)) (fun f s₂ => match f with | .next | .cont => ∃ m' ν', Cx g L m' ((I, oI) :: ν') z s₂ ∧ J (i + 1) m' ν' | .brk => R (.ok .next) s₂ | .ret v => R (.ok (.ret v)) s₂) (fun _ _ => False) s)
    (done : ∀ m ν s, J n m ν → Cx g L m ν z s → R (.ok .next) s)
    (hkk : cs.kind = .function := by kernel_rfl) (hx : cs.names.lookup x = some .local := by decide +kernel) :
    codeAny (MM w) A (.forLoop (.Name x px) (.ref I) body [] (envX cn cs L a ccd cl)) R s := by
  obtain ⟨fp, W, hfp⟩ := T.walks A hh
  refine codeAny_forLoop (fun k s => ∃ i m ν oI, k = n + 1 - i ∧ i ≤ n ∧ Cx g L m ((I, oI) :: ν) z s ∧ St i s.heap ∧ J i m ν) ?_ (n + 1) ⟨0, m, ν, oI, rfl, Nat.zero_le _, C, hst, h0⟩
  rintro k s ⟨i, m, ν, oI, rfl, hi, C, st', hJ⟩
  by_cases hlt : i < n
  · refine W.item i s _ _ hlt st' fun v h' tk hP st'' hk => ?_
    obtain ⟨o', ho'⟩ := T.ob _ _ st''
    have Ca := C.chg (k := tk) (.head _) (fun b ob hb e => hk b ob (by simpa using hb) e) ho'
    rw [up_head C.head_ne] at Ca
    refine c_assignN (r_store Ca (fun s₁ C₁ => ?_) hkk hx)
    refine wpAny_mono (turn i v m ν o' s₁ hlt hP hJ C₁) (fun f s₂ h₂ => ?_) fun _ _ h => h.elim
    have fin : (∃ m' ν', Cx g L m' ((I, o') :: ν') z s₂ ∧ J (i + 1) m' ν') → ∃ k', k' < n + 1 - i ∧ ∃ i m ν oI, k' = n + 1 - i ∧ i ≤ n ∧ Cx g L m ((I, oI) :: ν) z s₂ ∧ St i s₂.heap ∧ J i m ν := by
      rintro ⟨m', ν', C₂, hJ'⟩
      refine ⟨n + 1 - (i + 1), by omega, i + 1, m', ν', o', rfl, hlt, C₂, ?_, hJ'⟩
      exact It.move (s₁ := { s with heap := h', toks := tk }) W hfp st'' Ca C₂ (.head _) (.head _) (hK _ _ _ hJ) (hK _ _ _ hJ') (fun p hp => .tail _ hp) (fun p hp => .tail _ hp)
    cases f with
    | next => exact fin h₂
    | cont => exact fin h₂
    | brk => exact h₂
    | ret v => exact h₂
  · have hin : i = n := by omega
    subst hin
    refine W.done s _ _ st' fun h' tk hk => ?_
    exact wpAny_execs_nil (done m ν _ hJ (C.off (fun b ob hb e => hk b ob (by simpa using hb) e)))
theorem c_for {target iter : Expr} {body orelse : List Stmt} {pos : Pos} {Q : Flow → Shared → Prop} (h : wpAny (MM w) A (eval iter env) (fun x s₁ => wpAny (MM w) A (pyIter x) (fun it s₂ => codeAny (MM w) A (.forLoop target it body orelse env) (fun r s' => match r with | .ok f => Q f s' | .error e => cameBackBy (MM w) A env E e s') s₂) E s₁) E s)
    (hs : ∀ x, foldedSetIterable iter env x = pure x := by intro _; kernel_rfl) : wpAny (MM w) A (exec (.For target iter body orelse pos) env) Q E s := wpAny_For h hs
theorem c_comp {elt iter : Expr} {x : Str} {px pos : Pos} {ifs : List Expr} {scope : Scope} (cl : List (Str × Addr))
    (h : wpAny (MM w) A (eval iter env) (fun xv s₁ => wpAny (MM w) A (pyIter xv) (fun it s₂ => wpAny (MM w) A (newList []) (fun acc s₃ => wpAny (MM w) A (newFunctionEnv scope env.globals cl [] env.qual none .none (some env)) (fun cenv s₄ =>
      codeAny (MM w) A (.compStart (.ListComp elt [⟨.Name x px, iter, ifs, 0⟩] scope pos) 0 it acc { cenv with scope := relabel scope env }) (compPost (MM w) A E none Q acc cenv.locals) s₄) E s₃) E s₂) E s₁) E s)
    (hclos : closureFor scope env = pure cl := by kernel_rfl) (hkind : scope.kind = .function := by kernel_rfl) (hnames : ∀ x ∈ scope.names, x.2 = .local → scope.names.lookup x.1 = some .local := by decide) (hs : ∀ x, foldedSetIterable iter env x = pure x := by intro _; kernel_rfl) :
    wpAny (MM w) A (eval (.ListComp elt [⟨.Name x px, iter, ifs, 0⟩] scope pos) env) Q E s := by
  rw [eval_ListComp]
  exact wpAny_comprehension_free (g := ⟨.Name x px, iter, ifs, 0⟩) (gs := []) rfl hs hclos hkind hnames h
/-- the end of a comprehension whose value goes on -/
theorem compEnd {D C' : Addr} {oc : Obj} {mc : Str → Option Value} {ys : List Value} {k : Nat} (hn : NsO oc mc) (C : Cx g L m ((C', oc) :: (D, LO ys k) :: ν) z s) (h : ∀ s', Cx g L m ((D, LO ys k) :: ν) z s' → Q (.ref D) s') : compPost (MM w) A E none Q (.ref D) C' (.ok .next) s :=
  ⟨mc, hn _ _ (C.get (.head _)), fun _ hs => h _ (C.off fun b ob hb e => hs.extBut b ob hb e)⟩
theorem no_ifs {s : Shared} {f : Expr → Bool → Sem (ForInStep Bool)} {Q : Bool → Shared → Prop} (h : Q true s) : wpAny (MM w) A (forIn ([] : List Expr) true f) Q E s := by
  rw [List.forIn_nil]; exact wpAny_pure h
end
theorem StrsAre.snoc {vs : List Value} {ys : List Str} {y : Str} {t : Tok} (h : StrsAre vs ys) : StrsAre (vs ++ [.str y t]) (ys ++ [y]) := by
  induction h with
  | nil => exact .cons y t .nil
  | cons y t _ ih => exact .cons y t ih
theorem IntsAre.snoc {vs : List Value} {ys : List Int} {y : Int} {t : Tok} (h : IntsAre vs ys) : IntsAre (vs ++ [.int y t]) (ys ++ [y]) := by
  induction h with
  | nil => exact .cons y t .nil
  | cons y t _ ih => exact .cons y t ih
theorem IntsAre.at {vs : List Value} {ys : List Int} (h : IntsAre vs ys) : ∀ {i : Nat} {v : Value}, vs[i]? = some v → ∃ y t, ys[i]? = some y ∧ v = .int y t := by
  induction h with
  | nil => intro i v e; cases i <;> cases e
  | cons y t _ ih =>
    intro i v e
    cases i with
    | zero => cases e; exact ⟨y, t, rfl, rfl⟩
    | succ i => exact ih e
section
variable {w : World} {A : Around} {g : Heap} {L : Addr} {m : Str → Option Value} {ν : List (Addr × Obj)} {z s : Shared} {Q : Value → Shared → Prop} {E : Value → Shared → Prop}
theorem join_nil (ls : List (List Nat)) : Txt.join (S []) (ls.map S) = S ls.flatten := by
  show Builtin.Str.glued (S []) (ls.map S) = _
  unfold Builtin.Str.glued
  have key : ∀ (rest : List (List Nat)) (acc : Array Nat), (rest.map S).foldl (fun acc p => acc ++ (S []).cps ++ p.cps) acc = acc ++ rest.flatten.toArray := by
    intro rest
    induction rest with
    | nil => intro acc; simp
    | cons r rest ih =>
      intro acc
      rw [List.map_cons, List.foldl_cons, ih]
      simp [S]
  cases ls with
  | nil => rfl
  | cons l rest =>
    show (⟨(List.foldl _ _ (rest.map S))⟩ : Str) = _
    rw [key]
    simp [S, List.headD]
theorem r_join {D : Addr} {vs : List Value} {ls : List (List Nat)} {n : Nat} {t : Tok} (C : Cx g L m ν z s) (hD : Kn g ν D (LO vs n)) (hs : StrsAre vs (ls.map S)) (hok : ls.flatten.length ≤ 16777216) (k : ∀ t s', Cx g L m ν z s' → Q (.str (S ls.flatten) t) s') :
    wpAny (MM w) A (call (.builtin "str.join") [.str (S []) t, .ref D]) Q E s := by
  refine join_list (items := vs.toArray) ⟨_, hD.get C, rfl, _, rfl⟩ (by simpa using hs) ?_ (fun t' k' => ?_)
  · have : ((ls.map S).map (·.length)).sum = ls.flatten.length := by
      rw [List.length_flatten, List.map_map]
      exact congrArg List.sum (List.map_congr_left fun a _ => S_len a)
    rw [this, S_len]
    simp only [List.length_nil, Nat.mul_zero, Nat.add_zero]; exact hok
  · rw [join_nil]; exact k _ _ (C.tk _)
end
/-- the blanks and tabs of a lead -/
def leadRuns (runs : List Int) : List Nat := (runs.map fun b => rep b [32] ++ [9]).flatten
def leadL (runs : List Int) (back : Int) : List Nat := leadRuns runs ++ rep back [32]
theorem leadRuns_len (runs : List Int) (hb : ∀ b ∈ runs, 0 ≤ b ∧ b ≤ 100) : (leadRuns runs).length ≤ runs.length * 101 := by
  induction runs with
  | nil => simp [leadRuns]
  | cons b r ih =>
    have := ih fun c hc => hb c (.tail _ hc)
    have h0 := hb b (.head _)
    have e : leadRuns (b :: r) = rep b [32] ++ [9] ++ leadRuns r := rfl
    rw [e]
    simp only [List.length_append, rep_len, List.length_cons, List.length_nil]
    omega
set_option maxHeartbeats 2000000 in
theorem lead_spec {w : World} {A : Around} {g : Heap} {L : Addr} {m : Str → Option Value} {ν : List (Addr × Obj)} {z s : Shared} {D U : Nat} {Q : Value → Shared → Prop} {E : Value → Shared → Prop} {cn : Str} {cs : Scope} {a : Addr} {ccd : Value} {cl : List (Str × Addr)}
    {runs : List Int} {vs : List Value} {ra : Addr} {rn : Nat} {back : Int} {t1 : Tok}
    (G : Gx w g) (X : Ax (D + 1) (U + 8) A (envX cn cs L a ccd cl) g) (C : Cx g L m ν z s) (hke : cs.kind = .function) (hr : Kn g ν ra (LO vs rn)) (hi : IntsAre vs runs) (hlen : runs.length ≤ 10) (hb : ∀ b ∈ runs, 0 ≤ b ∧ b ≤ 100) (hb0 : 0 ≤ back) (hb1 : back ≤ 100)
    (k : ∀ t s', Cx g L m ν z s' → Q (.str (S (leadL runs back)) t) s') :
    wpAny (MM w) A (call (.ref 197) [.ref ra, .int back t1]) Q E s := by
  refine r_enter (binds := [(Str.ofString "runs", .ref ra), (Str.ofString "back", .int back t1)]) G X C hke rfl (by kernel_rfl) (BindsTo.of_eq rfl) (locs rfl) rfl rfl rfl (by decide) ?_
  clear G X C
  intro g' L' s G X hg C
  simp only [bm, List.foldl] at C
  repeat walk_at "go"
  with_reducible refine c_comp [] ?_
  repeat walk_at "go"
  with_reducible refine r_iterL C (hr.base hg) ?_; intro I oI St s T hst C
  refine r_compW (R := compPost (MM w) _ _ none _) X.hd T C hst (by decide) rfl (by decide) (by rw [hi.length]; omega) (fun i ys ν' => ν' = ν ∧ StrsAre ys (((runs.take i).map fun b => rep b [32] ++ [9]).map S)) ⟨rfl, .nil⟩ (fun i ys ν' h => by rw [h.1]; exact hr.base hg) ?_ ?_
  · intro i v ys ν' C' oc mc D k oI s hlt hP hJ hns hv C
    rw [hJ.1] at C
    have hys := hJ.2
    obtain ⟨b, t, hb', rfl⟩ := IntsAre.at hi hP
    have hbb := hb b (List.mem_of_getElem? hb')
    refine no_ifs (ite_t rfl ?_)
    repeat walk_at "go"
    refine ⟨_, C, rfl, ?_⟩
    rw [List.take_add_one, hb']
    simp only [Option.toList_some, List.map_append, List.map_cons, List.map_nil]
    exact StrsAre.snoc hys
  · intro ys ν' D C' oc mc k' s hJ hns C
    rw [hJ.1] at C
    have hys := hJ.2
    rw [hi.length, List.take_length] at hys
    refine compEnd hns C ?_; intro s C
    repeat walk_at "go"
    with_reducible refine r_join C Kn.head hys ?_ ?_
    · exact Nat.le_trans (leadRuns_len runs hb) (by omega)
    intro t s C
    have hlr := leadRuns_len runs hb
    unfold leadRuns at hlr
    generalize hLR : (List.map (fun b => rep b [32] ++ [9]) runs).flatten = LR at hlr ⊢
    repeat walk_at "go"
    refine ⟨_, _, C, fun C => ?_⟩
    subst hLR
    exact k _ _ C.tail
theorem cellsFrom_nodup : ∀ (names : List (Str × NameKind)) (n : Nat) (acc : List (Str × Addr)), (∀ p ∈ acc, p.2 < n) → (acc.map (·.2)).Nodup → ((cellsFrom n names acc).map (·.2)).Nodup ∧ ∀ p ∈ cellsFrom n names acc, p ∈ acc ∨ n ≤ p.2
  | [], _, _, _, h2 => ⟨h2, fun _ hp => .inl hp⟩
  | (x, k) :: r, n, acc, h1, h2 => by
    unfold cellsFrom
    by_cases hk : (k == .cell) = true
    · rw [if_pos hk]
      have ih := cellsFrom_nodup r (n + 1) ((x, n) :: acc) (fun p hp => by
        rcases List.mem_cons.mp hp with rfl | hp
        · exact Nat.lt_succ_self _
        · exact Nat.lt_succ_of_lt (h1 p hp)) (by
        rw [List.map_cons, List.nodup_cons]
        refine ⟨fun hm => ?_, h2⟩
        obtain ⟨p, hp, e⟩ := List.mem_map.mp hm
        exact absurd (h1 p hp) (by rw [show p.2 = n from e]; exact Nat.lt_irrefl _))
      refine ⟨ih.1, fun p hp => ?_⟩
      rcases ih.2 p hp with h | h
      · rcases List.mem_cons.mp h with rfl | h
        · exact .inr (Nat.le_refl _)
        · exact .inl h
      · exact .inr (by omega)
    · rw [if_neg hk]; exact cellsFrom_nodup r n acc h1 h2
theorem CellsAre.keys {cm : Str → Option Value} {cs : List (Str × Addr)} {cells : List (Addr × Obj)} (h : CellsAre cm cs cells) : cells.map (·.1) = cs.map (·.2) := by
  induction h with
  | nil => rfl
  | cons _ _ ih => simp [ih]
section
variable {w : World} {A : Around} {g : Heap} {L : Addr} {m : Str → Option Value} {ν : List (Addr × Obj)} {z s : Shared} {D U : Nat} {Q : Value → Shared → Prop} {E : Value → Shared → Prop}
theorem r_enterC {f : Addr} {args : List Value} {binds locs : List (Str × Value)} {cn : Str} {cs : Scope} {a : Addr} {ccd : Value} {cl : List (Str × Addr)} {name qual : Str} {params : Arguments} {body : List Stmt} {scope : Scope} {dV kV doc pm cdv ct oc : Value} {an od : Option Addr} {osl : Array (Option Value)}
    (G : Gx w g) (X : Ax (D + 1) (U + 8) A (envX cn cs L a ccd cl) g) (C : Cx g L m ν z s) (hke : cs.kind = .function)
    (ho : (KF w).lookup f = some ⟨oc, od, .func (fnOf name qual params body scope dV kV doc pm an cdv ct), osl⟩)
    (hcd : codeIn (KF w) cdv qual = true)
    (hbind : BindsTo s (fnOf name qual params body scope dV kV doc pm an cdv ct) ⟨args, []⟩ binds)
    (hkind : (binds.all fun y => scope.names.lookup y.1 == some .local || scope.names.lookup y.1 == some .cell) = true)
    (hnd : ((cellsFrom 0 scope.names []).map (·.1)).Nodup)
    (cf : Addr → List (Str × Addr)) (hcf : ∀ L', cellsFrom (L' + 1) scope.names [] = cf L')
    (hlocs : ∀ L', bindL (envOfC qual scope L' f cdv).kindOf binds (fun _ => none) = bm locs)
    (hco : scope.isCoroutine = false) (hgen : scope.isGenerator = false) (hk : scope.kind = .function)
    (h : ∀ g' L' s' cells, Gx w g' → Ax D U (A.deeper (envX qual scope L' f cdv (cf L'))) (envX qual scope L' f cdv (cf L')) g' → (∀ b o, g.get? b = some o → g'.get? b = some o) →
      CellsAre (bindC (envOfC qual scope L' f cdv).kindOf binds fun _ => none) (cf L') cells → Cx g' L' (bm locs) (cells ++ ν) z s' →
      wpAny (MM w) (A.deeper (envX qual scope L' f cdv (cf L'))) (execs body (envX qual scope L' f cdv (cf L')))
        (fun fl s'' => ∃ m' ν', Cx g' L' m' ν' z s'' ∧ (Cx g L m ν' z s'' → Q (retv fl) s''))
        (fun e s' => wpAny (MM w) (A.deeper (envX qual scope L' f cdv (cf L'))) (leaving (envX qual scope L' f cdv (cf L')) e) (fun _ s'' => E e s'') (fun e' s'' => E e' s'') s') s') :
    wpAny (MM w) A (call (.ref f) args) Q E s := by
  obtain ⟨A₀, base, outer, B, hA⟩ := X.below
  obtain ⟨p, lo, mean, mg, mb, T⟩ := G.top
  have hd := X.dep
  have hu := X.un
  refine wpAny_call (code_defC B C.fr G.kin C.nw T hA rfl hke ho hcd (by omega) hbind hkind hnd (fun g' L' h₁ tk cells FG F' N' Y B' X' T' l1 => ?_) hco hgen hk)
  rw [hlocs] at F'
  have Y0 := Y
  rw [hcf] at Y
  have henv : envOfC qual scope L' f cdv = envX qual scope L' f cdv (cf L') := by rw [← hcf]; rfl
  rw [henv]
  have hcn := cellsFrom_nodup scope.names (L' + 1) [] (fun _ hp => nomatch hp) .nil
  have hnd' : ((cells ++ ν).map (·.1)).Nodup := by
    rw [List.map_append, List.nodup_append]
    refine ⟨by rw [CellsAre.keys Y0]; exact hcn.1, C.nd, fun x hx y hy e => ?_⟩
    rw [CellsAre.keys Y0] at hx
    obtain ⟨p, hp, rfl⟩ := List.mem_map.mp hx
    obtain ⟨q, hq, rfl⟩ := List.mem_map.mp hy
    have h1 := l1 q hq
    rcases hcn.2 p hp with h2 | h2
    · exact nomatch h2
    · have h3 : p.2 = q.1 := e
      rw [h3] at h2
      exact absurd (Nat.lt_of_lt_of_le h1 (Nat.le_of_succ_le h2)) (Nat.lt_irrefl _)
  refine wpAny_mono (h g' L' _ cells ⟨X', p, lo, mean, mg, mb, T'⟩ ⟨⟨A, base, _, B', ?_⟩, X.hd, ?_, ?_⟩ (fun b o e => FG.keep b o e) Y (C.at F' N' hnd')) ?_ ?_
  · show A.frames.map _ = _
    rw [hA]; rfl
  · show A.depth + 1 + D < _
    omega
  · show A.units + 3 + U < _
    omega
  · rintro fl s'' ⟨m', ν', C', k⟩
    refine ⟨L', m', ν', C'.fr, C'.nw, fun F N => ?_⟩
    have := k ⟨F, N, C'.nd, C'.eq⟩
    cases fl <;> exact this
  · exact fun _ _ h => h
/-- a cell stored -/
theorem r_storeC {x : Str} {v : Value} {c : Addr} {o : Obj} {v₀ : Option Value} {cn : Str} {cs : Scope} {a : Addr} {ccd : Value} {cl : List (Str × Addr)} {Q : Unit → Shared → Prop} (C : Cx g L m ν z s) (hc : cl.lookup x = some c) (hm : (c, o) ∈ ν) (hd : o.data = .cell v₀)
    (k : ∀ o' s', o'.data = .cell (some v) → Cx g L m (up ν c o') z s' → Q () s') (hk : cs.kind = .function := by kernel_rfl) (hx : (envX cn cs L a ccd cl).kindOf x = some .cell := by kernel_rfl) :
    wpAny (MM w) A (storeName (envX cn cs L a ccd cl) x v) Q E s := by
  refine wpAny_storeName_cell hk hx hc ⟨o, C.get hm, hd⟩ (fun h' hcell hs => ?_)
  obtain ⟨o', ho', hd'⟩ := hcell
  exact k o' _ hd' (C.upd hm hs ho')
end
section
variable {w : World} {A : Around} {g : Heap} {L : Addr} {m : Str → Option Value} {ν : List (Addr × Obj)} {z s : Shared} {Q : Value → Shared → Prop} {E : Value → Shared → Prop}
theorem r_inS {l : List Nat} {c : Nat} {t t' : Tok} (h : Q (.bool (decide (c ∈ l))) s) : wpAny (MM w) A (compareOp .In (.str (S [c]) t') (.str (S l) t)) Q E s := by
  refine PyProof.Rows.in_str ?_
  refine (congrArg (fun b => Q (Value.bool b) s) ?_).mpr h
  rw [show S [c] = (⟨#[c]⟩ : Str) from rfl, PySem.StrLaws.found_one, Bool.eq_iff_iff, decide_eq_true_eq, decide_eq_true_eq]
  simp [S]
end
/-- how a word is spelled -/
def splB (hid : List Nat) (word : List Nat) : List Nat := (word.map fun c => if decide (c ∈ hid) = true then [92] ++ [c] else [c]).flatten
def spl (form : Int) (word : List Nat) : List Nat :=
  if form = 2 then (word.map fun c => [92] ++ [c]).flatten
  else if form = 0 then [34] ++ splB [34, 92] word ++ [34] else splB [92, 32, 9, 10, 13] word
theorem flat_len (word : List Nat) (f : Nat → List Nat) (h : ∀ c, (f c).length ≤ 2) : (word.map f).flatten.length ≤ 2 * word.length := by
  induction word with
  | nil => simp
  | cons c r ih =>
    have := h c
    simp only [List.map_cons, List.flatten_cons, List.length_append, List.length_cons]
    omega
theorem splB_len (hid word : List Nat) : (splB hid word).length ≤ 2 * word.length := flat_len _ _ fun c => by split <;> simp
set_option maxHeartbeats 4000000 in
theorem spelled_spec {w : World} {A : Around} {g : Heap} {L : Addr} {m : Str → Option Value} {ν : List (Addr × Obj)} {z s : Shared} {D U : Nat} {Q : Value → Shared → Prop} {E : Value → Shared → Prop} {cn : Str} {cs : Scope} {a : Addr} {ccd : Value} {cl : List (Str × Addr)}
    {word : List Nat} {form : Int} {t1 t2 : Tok}
    (G : Gx w g) (X : Ax (D + 1) (U + 8) A (envX cn cs L a ccd cl) g) (C : Cx g L m ν z s) (hke : cs.kind = .function) (hlen : word.length ≤ 10000)
    (k : ∀ t s', Cx g L m ν z s' → Q (.str (S (spl form word)) t) s') :
    wpAny (MM w) A (call (.ref 192) [.str (S word) t1, .int form t2]) Q E s := by
  refine r_enterC (binds := [(Str.ofString "word", .str (S word) t1), (Str.ofString "form", .int form t2)]) (locs := [(Str.ofString "word", .str (S word) t1), (Str.ofString "form", .int form t2)]) G X C hke rfl (by kernel_rfl) (BindsTo.of_eq rfl) rfl (by decide +kernel) (fun L' => [(Str.ofString "hidden", L' + 1)]) (fun _ => by kernel_rfl) (fun _ => by kernel_rfl) rfl rfl rfl ?_
  clear G X C
  intro g' L' s cells G X hg Y C
  simp only [bm, List.foldl] at C
  obtain ⟨o, rfl, ho⟩ := CellsAre.one Y
  simp only [List.cons_append, List.nil_append] at C
  clear Y
  repeat walk_at "go"
  refine ite_b (fun hf => ?_) (fun hf => ?_)
  · have hf' : form = 2 := by simpa using hf
    repeat walk_at "go"
    with_reducible refine c_comp [] ?_
    repeat walk_at "go"
    with_reducible refine r_iterS C ?_; intro I oI St s T hst C
    refine r_compW (R := compPost (MM w) _ _ none _) X.hd T C hst (by decide) rfl (by decide) (by omega) (fun i ys ν' => ν' = (L' + 1, o) :: ν ∧ StrsAre ys (((word.take i).map fun c => [92] ++ [c]).map S)) ⟨rfl, .nil⟩ (fun i ys ν' h => trivial) ?_ ?_
    · intro i v ys ν' C' oc mc D k oI s hlt hP hJ hns hv C
      rw [hJ.1] at C
      have hys := hJ.2
      obtain ⟨c, t, hc, rfl⟩ := hP
      refine no_ifs (ite_t rfl ?_)
      repeat walk_at "go"
      refine ⟨_, C, rfl, ?_⟩
      rw [List.take_add_one, hc]
      simp only [Option.toList_some, List.map_append, List.map_cons, List.map_nil]
      exact StrsAre.snoc hys
    · intro ys ν' D C' oc mc k' s hJ hns C
      rw [hJ.1] at C
      have hys := hJ.2
      rw [List.take_length] at hys
      refine compEnd hns C ?_; intro s C
      repeat walk_at "go"
      with_reducible refine r_join C Kn.head hys ?_ ?_
      · exact Nat.le_trans (flat_len _ _ fun c => by simp) (by omega)
      intro t s C
      repeat walk_at "go"
      refine ⟨_, _, C, fun C => ?_⟩
      have := k t s C.tail.tail
      unfold spl at this
      rw [if_pos hf'] at this
      exact this
  · have hf' : form ≠ 2 := by simpa using hf
    repeat walk_at "go"
    refine ite_b (fun hz => ?_) (fun hz => ?_)
    · have hz' : form = 0 := by simpa using hz
      repeat walk_at "go"
      have hne := C.head_ne
      with_reducible refine r_storeC (c := L' + 1) C (by kernel_rfl) (by walk_at "mem") ho ?_; intro o' s ho' C
      rw [up_head hne] at C
      repeat walk_at "go"
      with_reducible refine c_comp [(Str.ofString "hidden", L' + 1)] ?_
      repeat walk_at "go"
      with_reducible refine r_iterS C ?_; intro I oI St s T hst C
      refine r_compW (R := compPost (MM w) _ _ none _) X.hd T C hst (by decide) rfl (by decide) (by omega) (fun i ys ν' => ν' = (L' + 1, o') :: ν ∧ StrsAre ys (((word.take i).map fun c => if decide (c ∈ [34, 92]) = true then [92] ++ [c] else [c]).map S)) ⟨rfl, .nil⟩ (fun i ys ν' h => trivial) ?_ ?_
      · intro i v ys ν' C' oc mc D k oI s hlt hP hJ hns hv C
        rw [hJ.1] at C
        have hys := hJ.2
        obtain ⟨c, t, hc, rfl⟩ := hP
        refine no_ifs (ite_t rfl ?_)
        repeat walk_at "go"
        with_reducible refine r_ccell (c := L' + 1) C (by kernel_rfl) (by walk_at "mem") ho' ?_
        repeat walk_at "go"
        refine ite_b (fun hb => ?_) (fun hb => ?_)
        · repeat walk_at "go"
          refine ⟨_, C, rfl, ?_⟩
          rw [List.take_add_one, hc]
          simp only [Option.toList_some, List.map_append, List.map_cons, List.map_nil]
          rw [if_pos hb]
          exact StrsAre.snoc hys
        · repeat walk_at "go"
          refine ⟨_, C, rfl, ?_⟩
          rw [List.take_add_one, hc]
          simp only [Option.toList_some, List.map_append, List.map_cons, List.map_nil]
          rw [if_neg (by rw [hb]; decide)]
          exact StrsAre.snoc hys
      · intro ys ν' D C' oc mc k' s hJ hns C
        rw [hJ.1] at C
        have hys := hJ.2
        rw [List.take_length] at hys
        refine compEnd hns C ?_; intro s C
        repeat walk_at "go"
        have hsl := splB_len [34, 92] word
        with_reducible refine r_join C Kn.head hys (Nat.le_trans hsl (by omega)) ?_
        intro t s C
        rw [show (List.map (fun c => if decide (c ∈ [34, 92]) = true then [92] ++ [c] else [c]) word).flatten = splB [34, 92] word from rfl]
        repeat walk_at "go"
        refine ite_t hz ?_
        repeat walk_at "go"
        refine ⟨_, _, C, fun C => ?_⟩
        have := k t s C.tail.tail
        unfold spl at this
        rw [if_neg hf', if_pos hz'] at this
        exact this
    · have hz' : form ≠ 0 := by simpa using hz
      repeat walk_at "go"
      have hne := C.head_ne
      with_reducible refine r_storeC (c := L' + 1) C (by kernel_rfl) (by walk_at "mem") ho ?_; intro o' s ho' C
      rw [up_head hne] at C
      repeat walk_at "go"
      with_reducible refine c_comp [(Str.ofString "hidden", L' + 1)] ?_
      repeat walk_at "go"
      with_reducible refine r_iterS C ?_; intro I oI St s T hst C
      refine r_compW (R := compPost (MM w) _ _ none _) X.hd T C hst (by decide) rfl (by decide) (by omega) (fun i ys ν' => ν' = (L' + 1, o') :: ν ∧ StrsAre ys (((word.take i).map fun c => if decide (c ∈ [92, 32, 9, 10, 13]) = true then [92] ++ [c] else [c]).map S)) ⟨rfl, .nil⟩ (fun i ys ν' h => trivial) ?_ ?_
      · intro i v ys ν' C' oc mc D k oI s hlt hP hJ hns hv C
        rw [hJ.1] at C
        have hys := hJ.2
        obtain ⟨c, t, hc, rfl⟩ := hP
        refine no_ifs (ite_t rfl ?_)
        repeat walk_at "go"
        with_reducible refine r_ccell (c := L' + 1) C (by kernel_rfl) (by walk_at "mem") ho' ?_
        repeat walk_at "go"
        refine ite_b (fun hb => ?_) (fun hb => ?_)
        · repeat walk_at "go"
          refine ⟨_, C, rfl, ?_⟩
          rw [List.take_add_one, hc]
          simp only [Option.toList_some, List.map_append, List.map_cons, List.map_nil]
          rw [if_pos hb]
          exact StrsAre.snoc hys
        · repeat walk_at "go"
          refine ⟨_, C, rfl, ?_⟩
          rw [List.take_add_one, hc]
          simp only [Option.toList_some, List.map_append, List.map_cons, List.map_nil]
          rw [if_neg (by rw [hb]; decide)]
          exact StrsAre.snoc hys
      · intro ys ν' D C' oc mc k' s hJ hns C
        rw [hJ.1] at C
        have hys := hJ.2
        rw [List.take_length] at hys
        refine compEnd hns C ?_; intro s C
        repeat walk_at "go"
        have hsl := splB_len [92, 32, 9, 10, 13] word
        with_reducible refine r_join C Kn.head hys (Nat.le_trans hsl (by omega)) ?_
        intro t s C
        rw [show (List.map (fun c => if decide (c ∈ [92, 32, 9, 10, 13]) = true then [92] ++ [c] else [c]) word).flatten = splB [92, 32, 9, 10, 13] word from rfl]
        repeat walk_at "go"
        refine ite_f hz ?_
        repeat walk_at "go"
        refine ⟨_, _, C, fun C => ?_⟩
        have e : spl form word = splB [92, 32, 9, 10, 13] word := by unfold spl; rw [if_neg hf', if_neg hz']
        rw [e] at k
        exact k _ s C.tail.tail
/-- the attributes of an object: the entries of its dict as a map -/
structure Attr (es : List DictEntry) (f : Str → Option Value) (n : Nat) : Prop where
  get : ∀ x, getL x es = some (f x)
  str : ∀ e ∈ es, ∃ x t, e.key = .str x t
  len : es.length ≤ n
theorem refKey_str {e : DictEntry} (h : ∃ x t, e.key = .str x t) : e.refKey = false := by
  obtain ⟨x, t, h⟩ := h
  unfold DictEntry.refKey
  rw [h]
theorem getL_find {es : List DictEntry} (h : ∀ e ∈ es, ∃ x t, e.key = .str x t) (x : Str) : getL x es = some ((es.find? (·.key.isStr x)).map (·.val)) := by
  unfold getL
  cases hf : es.find? (·.key.isStr x) with
  | some e => rfl
  | none =>
    show (if _ then _ else _) = _
    rw [if_neg]
    · rfl
    · intro ha
      obtain ⟨e, he, hr⟩ := List.any_eq_true.mp ha
      rw [refKey_str (h e he)] at hr; cases hr
theorem Attr.nil : Attr [] (fun _ => none) 0 := ⟨fun x => getL_find (fun e h => absurd h (List.not_mem_nil)) x, fun e h => absurd h (List.not_mem_nil), Nat.le_refl _⟩
theorem putL_str {es : List DictEntry} {x : Str} {hsh : Int} {t : Tok} {v : Value} (h : ∀ e ∈ es, ∃ x t, e.key = .str x t) : ∀ e ∈ putL x hsh (.str x t) v es, ∃ x t, e.key = .str x t := by
  induction es with
  | nil => intro e he; rw [List.mem_singleton.mp he]; exact ⟨x, t, rfl⟩
  | cons e r ih =>
    intro e' he'
    unfold putL at he'
    split at he'
    · rcases List.mem_cons.mp he' with rfl | he'
      · exact h e (.head _)
      · exact h e' (.tail _ he')
    · rcases List.mem_cons.mp he' with rfl | he'
      · exact h _ (.head _)
      · exact ih (fun e he => h e (.tail _ he)) e' he'
theorem isStr_ne {v : Value} {x y : Str} (h : v.isStr x = true) (hne : y ≠ x) : v.isStr y = false := by
  cases hv : v.isStr y with
  | false => rfl
  | true => exact absurd (Value.isStr_inj v y x hv h) hne
theorem putL_get (es : List DictEntry) (x y : Str) (hsh : Int) (t : Tok) (v : Value) : ((putL x hsh (.str x t) v es).find? (·.key.isStr y)).map (·.val) = if y = x then some v else (es.find? (·.key.isStr y)).map (·.val) := by
  have self : (Value.str x t).isStr x = true := by simp [Value.isStr]
  induction es with
  | nil =>
    show ((List.find? _ [_]).map _) = _
    by_cases h : y = x
    · subst h; simp [List.find?, self]
    · simp [List.find?, isStr_ne self h, h]
  | cons e r ih =>
    unfold putL
    by_cases hx : e.key.isStr x = true
    · rw [if_pos hx]
      by_cases h : y = x
      · subst h; simp [List.find?, hx]
      · simp [List.find?, isStr_ne hx h, h]
    · rw [if_neg hx]
      by_cases hy : e.key.isStr y = true
      · have h : y ≠ x := fun q => hx (q ▸ hy)
        simp [List.find?, hy, h]
      · have hy' : e.key.isStr y = false := by simpa using hy
        simp only [List.find?, hy']
        exact ih
theorem putL_len (es : List DictEntry) (x : Str) (hsh : Int) (k v : Value) : (putL x hsh k v es).length ≤ es.length + 1 := by
  induction es with
  | nil => simp [putL]
  | cons e r ih =>
    unfold putL
    split
    · simp
    · simp only [List.length_cons]; omega
theorem Attr.put {es : List DictEntry} {f : Str → Option Value} {n : Nat} (h : Attr es f n) (x : Str) (hsh : Int) (t : Tok) (v : Value) : Attr (putL x hsh (.str x t) v es) (st f x v) (n + 1) := by
  refine ⟨fun y => ?_, putL_str h.str, Nat.le_trans (putL_len _ _ _ _ _) (Nat.succ_le_succ h.len)⟩
  rw [getL_find (putL_str h.str), putL_get]
  congr 1
  have := h.get y
  rw [getL_find h.str] at this
  unfold st
  split
  · rfl
  · exact Option.some.inj this
section
variable {w : World} {A : Around} {g : Heap} {L : Addr} {m : Str → Option Value} {ν : List (Addr × Obj)} {z s : Shared} {D U : Nat} {Q : Value → Shared → Prop} {E : Value → Shared → Prop} {env : Env}
theorem instAt {x K dx : Addr} {od : Obj} (h1 : s.heap.get? x = some (instObj K dx)) (h2 : s.heap.get? dx = some od) : InstAt s.heap x (instObj K dx) K (some od) := ⟨h1, rfl, rfl, h2⟩
theorem r_getA {x K dx : Addr} {es : List DictEntry} {f : Str → Option Value} {n k : Nat} {name : Str} {v : Value} {attr : Option Value} {ex : Bool} (G : Gx w g) (C : Cx g L m ν z s) (h1 : Kn g ν x (instObj K dx)) (h2 : Kn g ν dx (dictOf es n)) (hf : Attr es f k) (hv : f name = some v)
    (ha : findIn (KF w) (.ref K) name = some attr) (hn : noGet (KF w) attr = true) (hh : handedIn v = true) (q : ∀ s', Cx g L m ν z s' → Q v s') (hg : plainGet (KF w) K name = true := by kernel_rfl) (hd : hasDictIn (KF w) K = true := by kernel_rfl) :
    wpAny (MM w) A (getAttr (.ref x) name ex) Q E s :=
  get_own C.fr G.kin (instAt (h1.get C) (h2.get C)) hg hd ha hn (by rw [hf.get, hv]) hh (q _ (C.tk _))
theorem r_setA {x K dx : Addr} {es : List DictEntry} {f : Str → Option Value} {n k : Nat} {name : Str} {v : Value} {Q : Unit → Shared → Prop} (G : Gx w g) (C : Cx g L m ν z s) (h1 : Kn g ν x (instObj K dx)) (h2 : (dx, dictOf es n) ∈ ν) (hf : Attr es f k) (hk : k ≤ 900)
    (ht : takerIn (KF w) K name = some none) (q : ∀ es' n' s', Attr es' (st f name v) (k + 1) → Cx g L m (up ν dx (dictOf es' n')) z s' → Q () s')
    (hs : findIn (KF w) (.ref K) "__setattr__" = some (some (.builtin "object.__setattr__")) := by kernel_rfl) (hp : plainOver (KF w) K = true := by kernel_rfl) (hd : hasDictIn (KF w) K = true := by kernel_rfl) :
    wpAny (MM w) A (setAttr (.ref x) name v) Q E s := by
  have U : Upd dx (dictOf es n) (dictOf (putL name (PyData.keyHash w.params name) (.str name (s.toks + 1)) v es) (putN name es n)) ν (up ν dx (dictOf (putL name (PyData.keyHash w.params name) (.str name (s.toks + 1)) v es) (putN name es n))) := by
    have : ∀ (ν : List (Addr × Obj)) (o o' : Obj), (dx, o) ∈ ν → (ν.map (·.1)).Nodup → Upd dx o o' ν (up ν dx o') := by
      intro ν o o' hm hn
      induction ν with
      | nil => exact nomatch hm
      | cons p r ih =>
        rw [List.map_cons, List.nodup_cons] at hn
        by_cases hp : p.1 = dx
        · rcases List.mem_cons.mp hm with e | hm'
          · rw [← e]
            have hnn : dx ∉ r.map (·.1) := hp ▸ hn.1
            rw [up_head hnn]
            exact Upd.head fun q hq e' => hnn (List.mem_map.mpr ⟨q, hq, e'⟩)
          · exact absurd (List.mem_map.mpr ⟨_, hm', rfl⟩) (show dx ∉ r.map (·.1) from hp ▸ hn.1)
        · rw [up_tail hp]
          rcases List.mem_cons.mp hm with e | hm'
          · exact absurd (by rw [← e]) hp
          · exact Upd.tail hp (ih hm' hn.2)
    exact this ν _ _ h2 C.nd
  refine set_dict C.fr G.kin C.nw (instAt (h1.get C) (C.get h2)) rfl hs hp ht hd (by rw [hf.get]; rfl) rfl U ?_ (fun h' F N => ?_)
  · have := putL_len es name (PyData.keyHash w.params name) (.str name (s.toks + 1)) v
    have := hf.len
    omega
  · exact q _ _ _ (hf.put _ _ _ _) (C.at F N (by rw [up_keys]; exact C.nd))
theorem r_meth {x K dx fA : Addr} {es : List DictEntry} {f : Str → Option Value} {n k : Nat} {name : Str} {pl : Sem Bool} {Q : Value × List Value → Shared → Prop} (G : Gx w g) (C : Cx g L m ν z s) (h1 : Kn g ν x (instObj K dx)) (h2 : Kn g ν dx (dictOf es n)) (hf : Attr es f k) (hv : f name = none)
    (ha : findIn (KF w) (.ref K) name = some (some (.ref fA))) (ht : isFn (KF w) (.ref fA) = true) (q : Q (.ref fA, [.ref x]) s) (hg : plainGet (KF w) K name = true := by kernel_rfl) :
    wpAny (MM w) A (getMethod (.ref x) name pl) Q E s :=
  method_inst C.fr G.kin (instAt (h1.get C) (h2.get C)) hg ha ht (by rw [hf.get, hv]) q
theorem c_callK {pos : Pos} {f : Addr} {fst : List Value} {e : Expr} {rest : List Expr} (G : Gx w g) (h : wpAny (MM w) A (spliced (backTo pos (starEach (e :: rest) env))) (fun vs s₁ => (KF w).In s₁.heap ∧ wpAny (MM w) A (call (.ref f) (fst ++ vs)) Q E s₁) E s)
    (hk : keepIn (KF w) (.ref f) = true := by kernel_rfl) (he : starEach (e :: rest) env = (false, eval e env) :: starEach rest env := by kernel_rfl) (hplain : (backTo pos (starEach rest env)).any (·.1) = false := by kernel_rfl) :
    wpAny (MM w) A (callWith pos (.ref f) fst (backTo pos (starEach (e :: rest) env)) []) Q E s := callWith_K G.kin hk h he hplain
theorem c_callK0 {pos : Pos} {f : Addr} {fst : List Value} (G : Gx w g) (C : Cx g L m ν z s) (h : wpAny (MM w) A (call (.ref f) (fst ++ [])) Q E s) (hk : keepIn (KF w) (.ref f) = true := by kernel_rfl) :
    wpAny (MM w) A (callWith pos (.ref f) fst (backTo pos (starEach [] env)) []) Q E s := callWith_K0 (G.kin.keeps C.fr.keep) hk h
theorem kin_now (G : Gx w g) (C : Cx g L m ν z s) : (KF w).In s.heap := G.kin.keeps C.fr.keep
/-- a class of the text is called: a new object, then its __init__ -/
theorem r_new {K fI : Addr} {args : List Value} {binds : List (Str × Value)} {cn : Str} {cs : Scope} {a : Addr} {ccd : Value} {cl : List (Str × Addr)} {name qual : Str} {params : Arguments} {body : List Stmt} {scope : Scope} {dV kV doc pm cdv ct oc : Value} {an od : Option Addr} {osl : Array (Option Value)}
    (G : Gx w g) (X : Ax (D + 2) (U + 12) A (envX cn cs L a ccd cl) g) (C : Cx g L m ν z s) (hke : cs.kind = .function)
    (hm : makesIn (KF w) K = true) (hi : findIn (KF w) (.ref K) "__init__" = some (some (.ref fI))) (hfn : isFn (KF w) (.ref fI) = true)
    (ho : (KF w).lookup fI = some ⟨oc, od, .func (fnOf name qual params body scope dV kV doc pm an cdv ct), osl⟩)
    (hcd : codeIn (KF w) cdv qual = true)
    (hbind : ∀ x (s : Shared), BindsTo s (fnOf name qual params body scope dV kV doc pm an cdv ct) ⟨.ref x :: args, []⟩ ((Str.ofString "self", .ref x) :: binds))
    (hloc : ∀ x, ∀ y ∈ ((Str.ofString "self", Value.ref x) :: binds), scope.names.lookup y.1 = some .local)
    (hco : scope.isCoroutine = false) (hgen : scope.isGenerator = false) (hk : scope.kind = .function)
    (hcell : ∀ x ∈ scope.names, x.2 ≠ .cell)
    (h : ∀ g' L' A' s' x dx, Gx w g' → Ax D U A' (envX qual scope L' fI cdv []) g' → (∀ b o, g.get? b = some o → g'.get? b = some o) → Cx g' L' (bm ((Str.ofString "self", .ref x) :: binds)) ((x, instObj K dx) :: (dx, dictOf [] 0) :: ν) z s' →
      wpAny (MM w) A' (execs body (envX qual scope L' fI cdv []))
        (fun fl s'' => retv fl = .none ∧ ∃ m' ν', Cx g' L' m' ν' z s'' ∧ (Cx g L m ν' z s'' → Q (.ref x) s'')) (fun _ _ => False) s') :
    wpAny (MM w) A (call (.ref K) args) Q E s := by
  refine call_cls C.fr G.kin C.nw hm hi hfn (fun x dx h' F' N' l1 l2 => ?_)
  have hne1 : x ∉ dx :: ν.map (·.1) := fun hx => by
    rcases List.mem_cons.mp hx with rfl | hx
    · exact Nat.lt_irrefl _ l2
    · obtain ⟨p, hp, rfl⟩ := List.mem_map.mp hx
      exact Nat.lt_irrefl _ (Nat.lt_trans l2 (l1 p hp))
  have hne2 : dx ∉ ν.map (·.1) := fun hx => by
    obtain ⟨p, hp, rfl⟩ := List.mem_map.mp hx
    exact Nat.lt_irrefl _ (l1 p hp)
  have C1 : Cx g L m ((x, instObj K dx) :: (dx, dictOf [] 0) :: ν) z { s with heap := h' } := ⟨F', N', by
    rw [List.map_cons, List.map_cons, List.nodup_cons, List.nodup_cons]; exact ⟨hne1, hne2, C.nd⟩, by
    have := C.eq
    rw [this]⟩
  obtain ⟨A₀, base, outer, B, hA⟩ := X.below
  obtain ⟨p, lo, mean, mg, mb, T⟩ := G.top
  have hd := X.dep
  have hu := X.un
  refine code_def B C1.fr G.kin C1.nw T (A := A.under (.builtin "type.__call__" ⟨.ref K :: args, []⟩)) hA rfl hke ho hcd (by rw [depth_under_make]; omega) (hbind x _) (hloc x) (fun g' L' h₁ FG F'' N'' B' X' T' => ?_) hco hgen hk hcell
  refine wpAny_mono (h g' L' _ _ x dx ⟨X', p, lo, mean, mg, mb, T'⟩ ⟨⟨A.under (.builtin "type.__call__" ⟨.ref K :: args, []⟩), base, _, B', ?_⟩, X.hd, ?_, ?_⟩ (fun b o e => FG.keep b o e) (bm_eq _ ▸ C1.at F'' N'' C1.nd)) ?_ (fun _ _ h => h.elim)
  · show A.frames.map _ = _
    rw [hA]; rfl
  · show (A.under _).depth + 1 + D < _
    rw [depth_under_make]; omega
  · show (A.under _).units + 3 + U < _
    rw [units_under_make]; omega
  · rintro fl s'' ⟨hr, m', ν', C', k⟩
    refine ⟨L', m', ν', C'.fr, C'.nw, fun F N => ?_⟩
    have := k ⟨F, N, C'.nd, C'.eq⟩
    cases fl <;> exact ⟨hr, this⟩
end
/-- a list again and again -/
def repV (x : Int) (vs : List Value) : List Value := (List.replicate x.toNat vs).flatten
theorem fold_rep (vs : List Value) : ∀ (k : Nat) (acc : Array Value), List.foldl (fun x1 x2 => x1 ++ x2) acc (List.replicate k vs.toArray) = acc ++ (List.replicate k vs).flatten.toArray
  | 0, acc => by simp
  | k + 1, acc => by
    rw [List.replicate_succ, List.foldl_cons, fold_rep vs k, List.replicate_succ, List.flatten_cons]
    simp
theorem fold_repV (x : Int) (vs : List Value) : List.foldl (fun x1 x2 => x1 ++ x2) #[] (List.replicate (if vs.toArray.isEmpty = true then 0 else x.toNat) vs.toArray) = (repV x vs).toArray := by
  cases vs with
  | nil => simp [repV]
  | cons v r =>
    rw [if_neg (by simp), fold_rep]
    simp [repV]
theorem repV_ints {vs : List Value} {ns : List Int} (h : IntsAre vs ns) (k : Nat) : IntsAre (List.replicate k vs).flatten (List.replicate k ns).flatten := by
  have app : ∀ {a b : List Value} {x y : List Int}, IntsAre a x → IntsAre b y → IntsAre (a ++ b) (x ++ y) := by
    intro a b x y ha hb
    induction ha with
    | nil => exact hb
    | cons y t _ ih => exact .cons y t ih
  induction k with
  | zero => exact .nil
  | succ k ih =>
    rw [List.replicate_succ, List.replicate_succ, List.flatten_cons, List.flatten_cons]
    exact app h ih
theorem IntsAre.app {a b : List Value} {x y : List Int} (ha : IntsAre a x) (hb : IntsAre b y) : IntsAre (a ++ b) (x ++ y) := by
  induction ha with
  | nil => exact hb
  | cons y t _ ih => exact .cons y t ih
theorem IntsAre.set {vs : List Value} {ns : List Int} (h : IntsAre vs ns) {i : Nat} {y : Int} {t : Tok} : IntsAre (vs.set i (.int y t)) (ns.set i y) := by
  induction h generalizing i with
  | nil => exact .nil
  | cons n u _ ih =>
    cases i with
    | zero => exact .cons y t ‹_›
    | succ i => exact .cons n u ih
theorem IntsAre.get {vs : List Value} {ns : List Int} (h : IntsAre vs ns) : ∀ {i : Nat} {y : Int}, ns[i]? = some y → ∃ t, vs[i]? = some (.int y t) := by
  induction h with
  | nil => intro i v e; cases i <;> cases e
  | cons y t _ ih =>
    intro i v e
    cases i with
    | zero => cases e; exact ⟨t, rfl⟩
    | succ i => exact ih e
section
variable {w : World} {A : Around} {g : Heap} {L : Addr} {m : Str → Option Value} {ν : List (Addr × Obj)} {z s : Shared} {D U : Nat} {Q : Value → Shared → Prop} {E : Value → Shared → Prop} {env : Env}
theorem r_getA0 {x K dx : Addr} {es : List DictEntry} {f : Str → Option Value} {n k : Nat} {name : Str} {v : Value} {ex : Bool} (G : Gx w g) (C : Cx g L m ν z s) (h1 : Kn g ν x (instObj K dx)) (h2 : Kn g ν dx (dictOf es n)) (hf : Attr es f k) (hv : f name = some v)
    (hh : handedIn v = true) (q : ∀ s', Cx g L m ν z s' → Q v s') (ha : findIn (KF w) (.ref K) name = some none := by kernel_rfl) (hn : noGet (KF w) none = true := by kernel_rfl) (hg : plainGet (KF w) K name = true := by kernel_rfl) (hd : hasDictIn (KF w) K = true := by kernel_rfl) :
    wpAny (MM w) A (getAttr (.ref x) name ex) Q E s := r_getA G C h1 h2 hf hv ha hn hh q hg hd
theorem c_attr {value : Expr} {attr : Str} {pos : Pos} (h : wpAny (MM w) A (eval value env) (fun o s₁ => wpAny (MM w) A (getAttr o attr true) Q E s₁) E s)
    (he : eval (.Attribute value attr pos) env = (do let o ← eval value env; standAt pos.atName; let r ← holding [o] (getAttr o attr true); letTemporaryGo value o r; pure r) := by kernel_rfl) :
    wpAny (MM w) A (eval (.Attribute value attr pos) env) Q E s := Attribute_any_ h he
theorem c_assignA {o : Expr} {attr : Str} {pos' pos : Pos} {value : Expr} {Q : Flow → Shared → Prop} (h : wpAny (MM w) A (eval value env) (fun v s₁ => wpAny (MM w) A (eval o env) (fun ov s₂ => wpAny (MM w) A (setAttr ov attr v) (fun _ => Q .next) E s₂) E s₁) E s)
    (hs : swapsWith value (some (.Attribute o attr pos')) pos.line env = pure false := by kernel_rfl) :
    wpAny (MM w) A (exec (.Assign [.Attribute o attr pos'] value pos) env) Q E s := plainObj_wpAny_Assign_Attribute h hs
theorem c_assignS {o i : Expr} {pos' pos : Pos} {value : Expr} {Q : Flow → Shared → Prop} (h : wpAny (MM w) A (eval value env) (fun v s₁ => wpAny (MM w) A (eval o env) (fun ov s₂ => wpAny (MM w) A (eval i env) (fun iv s₃ => wpAny (MM w) A (setItem ov iv v) (fun _ => Q .next) E s₃) E s₂) E s₁) E s)
    (hs : swapsWith value (some (.Subscript o i pos')) pos.line env = pure false := by kernel_rfl) :
    wpAny (MM w) A (exec (.Assign [.Subscript o i pos'] value pos) env) Q E s := wpAny_Assign_Subscript h hs
theorem c_assign3 {t₁ t₂ t₃ value : Expr} {pos : Pos} {Q : Flow → Shared → Prop} (h : wpAny (MM w) A (eval value env) (fun v s₁ => wpAny (MM w) A (assign t₁ env v) (fun _ s₂ => wpAny (MM w) A (assign t₂ env v) (fun _ s₃ => wpAny (MM w) A (assign t₃ env v) (fun _ => Q .next) E s₃) E s₂) E s₁) E s) (he : (assignEach [t₁, t₂, t₃] env).map (·.2) = [assign t₁ env, assign t₂ env, assign t₃ env] := by kernel_rfl) (hw : swappedStores [t₁, t₂, t₃] value env = pure none := by kernel_rfl) :
    wpAny (MM w) A (exec (.Assign [t₁, t₂, t₃] value pos) env) Q E s := wpAny_Assign_three h he hw
theorem c_assignTs {elts : List Expr} {k : Nat} {tpos : Pos} {value : Expr} {pos : Pos} {Q : Flow → Shared → Prop} (names : List Str) (h : wpAny (MM w) A (eval value env) (fun v s₁ => wpAny (MM w) A (unpackItems v names.length none) (fun items s₂ => wpAny (MM w) A (assignInOrder (names.reverse.map fun n => bindName env n) items.reverse) (fun _ => Q .next) E s₂) E s₁) E s)
    (hs : swapsWithSole [.Tuple elts k tpos] value pos.line env = pure false := by kernel_rfl) (hw : swappedStores [.Tuple elts k tpos] value env = pure (some names) := by kernel_rfl) :
    wpAny (MM w) A (exec (.Assign [.Tuple elts k tpos] value pos) env) Q E s := Assign_Tuple_swapped h hs hw
theorem c_assignT {elts : List Expr} {k : Nat} {tpos : Pos} {value : Expr} {pos : Pos} {Q : Flow → Shared → Prop} (h : wpAny (MM w) A (eval value env) (fun v s₁ => wpAny (MM w) A (assign (.Tuple elts k tpos) env v) (fun _ => Q .next) E s₁) E s)
    (hs : swapsWithSole [.Tuple elts k tpos] value pos.line env = pure false := by kernel_rfl) (hw : swappedStores [.Tuple elts k tpos] value env = pure none := by kernel_rfl) :
    wpAny (MM w) A (exec (.Assign [.Tuple elts k tpos] value pos) env) Q E s := Assign_Tuple h hs hw
theorem r_newL {vs : List Value} (C : Cx g L m ν z s) (k : ∀ D s', Cx g L m ((D, LO vs 0) :: ν) z s' → Q (.ref D) s') (hsz : vs.length ≤ 1000000 := by first | (simp only [List.length_cons, List.length_nil]; omega) | decide) : wpAny (MM w) A (newList vs) Q E s :=
  newList_N C.fr C.nw (fun h' F N => k _ _ (C.at F N (by rw [List.map_cons, List.nodup_cons]; exact ⟨C.fresh, C.nd⟩))) (by rw [sizeLine_eq]; omega)
theorem r_newT {vs : List Value} (C : Cx g L m ν z s) (k : ∀ D s', Cx g L m ((D, TO vs 0) :: ν) z s' → Q (.ref D) s') (hsz : vs.length ≤ 1000000 := by first | (simp only [List.length_cons, List.length_nil]; omega) | decide) : wpAny (MM w) A (newTuple vs) Q E s :=
  newTuple_N C.fr C.nw (fun h' F N => k _ _ (C.at F N (by rw [List.map_cons, List.nodup_cons]; exact ⟨C.fresh, C.nd⟩))) (by rw [sizeLine_eq]; omega)
theorem r_mulL {vs : List Value} {l : Addr} {n : Nat} {x : Int} {t : Tok} (C : Cx g L m ν z s) (hl : Kn g ν l (LO vs n)) (hv : vs.length ≤ 1000) (h1 : -1000 ≤ x) (h2 : x ≤ 1000) (k : ∀ D s', Cx g L m ((D, LO (repV x vs) 0) :: ν) z s' → Q (.ref D) s') : wpAny (MM w) A (binaryOp .Mult (.ref l) (.int x t)) Q E s := by
  refine mul_list C.fr C.nw (hl.get C) (by omega) (by omega) ?_ (fun h' F N => ?_)
  · rw [List.size_toArray]
    have : vs.length * x.toNat ≤ 1000 * 1000 := Nat.mul_le_mul hv (by omega)
    omega
  · rw [fold_repV] at N
    exact k _ _ (C.at F N (by rw [List.map_cons, List.nodup_cons]; exact ⟨C.fresh, C.nd⟩))
theorem r_addL {vs us : List Value} {l b : Addr} {n n' : Nat} (C : Cx g L m ν z s) (hl : Kn g ν l (LO vs n)) (hb : Kn g ν b (LO us n')) (hv : vs.length + us.length ≤ 1000000) (k : ∀ D s', Cx g L m ((D, LO (vs ++ us) 0) :: ν) z s' → Q (.ref D) s') : wpAny (MM w) A (binaryOp .Add (.ref l) (.ref b)) Q E s :=
  add_lists C.fr C.nw ⟨_, hl.get C, rfl, _, rfl⟩ ⟨_, hb.get C, rfl, _, rfl⟩ (fun h' F N => k _ _ (C.at F N (by rw [List.map_cons, List.nodup_cons]; exact ⟨C.fresh, C.nd⟩))) (by rw [sizeLine_eq]; omega)
theorem r_lenL {vs : List Value} {l : Addr} {n : Nat} (C : Cx g L m ν z s) (hl : Kn g ν l (LO vs n)) (hv : vs.length ≤ 16384) (k : ∀ t s', Cx g L m ν z s' → Q (.int vs.length t) s') : wpAny (MM w) A (call (.builtin "len") [.ref l]) Q E s :=
  kun_lenL (items := vs.toArray) ⟨_, hl.get C, rfl, _, rfl⟩ (by rw [List.size_toArray]) (by omega) (k _ _ (C.tk _))
theorem r_itemL {vs : List Value} {l : Addr} {n : Nat} {i : Int} {t : Tok} {x : Value} {value slice : Expr} (C : Cx g L m ν z s) (hl : Kn g ν l (LO vs n)) (h0 : 0 ≤ i) (h1 : i ≤ 1000000) (hx : vs[i.toNat]? = some x) (k : Q x s)
    (hs : subscripted slice false (.ref l) (.int i t) = operate [.ref l, .int i t] (getItem (.ref l) (.int i t)) := by kernel_rfl) (hg : ∀ r, letTemporaryGo value (.ref l) r = pure () := by intro _; kernel_rfl) : wpAny (MM w) A (subscriptTail value slice (.ref l) (.int i t)) Q E s := by
  exact item_listL ⟨_, hl.get C, rfl, n, rfl⟩ h0 (by omega) hx k hs hg
theorem r_itemT {vs : List Value} {l : Addr} {n : Nat} {i : Int} {t : Tok} {x : Value} {value slice : Expr} (C : Cx g L m ν z s) (hl : Kn g ν l (TO vs n)) (h0 : 0 ≤ i) (h1 : i ≤ 1000000) (hx : vs[i.toNat]? = some x) (k : Q x s)
    (hs : subscripted slice false (.ref l) (.int i t) = operate [.ref l, .int i t] (getItem (.ref l) (.int i t)) := by kernel_rfl) (hg : ∀ r, letTemporaryGo value (.ref l) r = pure () := by intro _; kernel_rfl) : wpAny (MM w) A (subscriptTail value slice (.ref l) (.int i t)) Q E s := by
  have hlt : i.toNat < vs.length := by
    rcases Nat.lt_or_ge i.toNat vs.length with h | h
    · exact h
    · rw [List.getElem?_eq_none h] at hx; cases hx
  refine item_tupleL (j := i.toNat) ⟨_, hl.get C, rfl, n, rfl⟩ (by omega) (by omega) ?_ hx k hs hg
  unfold seqIndex?
  have h2 : ¬ i < 0 := by omega
  simp only [h2, if_false]
  rw [if_pos]
  first | exact ⟨h0, by omega⟩ | (simp only [Bool.and_eq_true, decide_eq_true_eq]; omega) | omega
theorem r_setL {vs : List Value} {l : Addr} {n : Nat} {i : Int} {t : Tok} {v : Value} {Q : Unit → Shared → Prop} (C : Cx g L m ν z s) (hl : (l, LO vs n) ∈ ν) (h0 : 0 ≤ i) (h1 : i ≤ 1000000) (hi : i < vs.length) (k : ∀ n' s', Cx g L m (up ν l (LO (vs.set i.toNat v) n')) z s' → Q () s') : wpAny (MM w) A (setItem (.ref l) (.int i t) v) Q E s := by
  refine ki_setAt (items := vs.toArray) (n := n) (C.get hl) h0 (by omega) (by rw [List.size_toArray]; omega) ?_
  have e := get?_update_seq (c := "list") (xs := vs.toArray) (n := n) (C.get hl) (·.setIfInBounds i.toNat v)
  rw [List.setIfInBounds_toArray] at e
  exact k _ _ (C.upd (k := s.toks) hl (Heap.SameBut.update _ _ _) e)
theorem r_tupL {vs : List Value} {l : Addr} {n : Nat} (C : Cx g L m ν z s) (hl : Kn g ν l (LO vs n)) (hv : vs.length ≤ 16384) (k : ∀ D s', Cx g L m ((D, TO vs 0) :: ν) z s' → Q (.ref D) s') : wpAny (MM w) A (call (.type "tuple") [.ref l]) Q E s := by
  refine kde_tupleOf (items := vs.toArray) (zs := vs) C.fr C.nw ⟨_, hl.get C, rfl, n, rfl⟩ (by rw [List.size_toArray]; exact hv) (by simp) (fun D h' F N l1 => ?_)
  refine k _ _ (C.at F N ?_)
  rw [List.map_cons, List.nodup_cons]
  refine ⟨fun hx => ?_, C.nd⟩
  obtain ⟨p, hp, e⟩ := List.mem_map.mp hx
  exact Nat.lt_irrefl _ (e ▸ l1 p hp)
theorem r_unpackI {vs : List Value} {t : Addr} {n k' : Nat} {Q : List Value → Shared → Prop} (C : Cx g L m ν z s) (hh : A.handled = none) (ht : Kn g ν t (TO vs n)) (hn : k' = vs.length) (k : ∀ s', Cx g L m ν z s' → Q vs s') : wpAny (MM w) A (unpackItems (.ref t) k' none) Q E s :=
  unpackItemsN_ (items := vs.toArray) C.fr C.nw ⟨_, ht.get C, rfl, n, rfl⟩ hh (by rw [List.size_toArray]; exact hn) (fun h' F N => by simpa using k _ (C.at F N C.nd))
theorem r_unpackT {vs : List Value} {t : Addr} {n k' : Nat} {elts : List Expr} {pos : Pos} {Q : Unit → Shared → Prop} (C : Cx g L m ν z s) (hh : A.handled = none) (ht : Kn g ν t (TO vs n)) (hn : (assignEach elts env).length = vs.length)
    (k : ∀ s', Cx g L m ν z s' → wpAny (MM w) A (assignInOrder ((assignEach elts env).map (·.2)) vs) Q E s') (hstar : (assignEach elts env).findIdx? (·.1) = none := by kernel_rfl) : wpAny (MM w) A (assign (.Tuple elts k' pos) env (.ref t)) Q E s :=
  unpackN_ (items := vs.toArray) C.fr C.nw ⟨_, ht.get C, rfl, n, rfl⟩ hh (by rw [List.size_toArray]; exact hn) hstar (fun h' F N => by simpa using k _ (C.at F N C.nd))
theorem c_inOrder {t : Value → Sem Unit} {ts : List (Value → Sem Unit)} {x : Value} {xs : List Value} {Q : Unit → Shared → Prop} (h : wpAny (MM w) A (t x) (fun _ s₁ => wpAny (MM w) A (assignInOrder ts xs) Q E s₁) E s) : wpAny (MM w) A (assignInOrder (t :: ts) (x :: xs)) Q E s := assignInOrder_cons h
theorem c_inOrder0 {xs : List Value} {Q : Unit → Shared → Prop} (h : Q () s) : wpAny (MM w) A (assignInOrder [] xs) Q E s := assignInOrder_nil h
theorem c_bindN {x : Str} {v : Value} {Q : Unit → Shared → Prop} (h : wpAny (MM w) A (storeName env x v) Q E s) : wpAny (MM w) A (bindName env x v) Q E s := wpAny_bindName h
theorem r_cls176 {name : Str} {c : Nat} {t : Tok} {ex : Bool} (G : Gx w g) (C : Cx g L m ν z s) (e : findCls (KF w) (.ref 176) (.type "type") name = some (.val (.str (S [c]) t))) (k : ∀ t s', Cx g L m ν z s' → Q (.str (S [c]) t) s') : wpAny (MM w) A (getAttr (.ref 176) name ex) Q E s :=
  cls_val (C := 176) (mc := .type "type") C.fr G.kin (by kernel_rfl) (by kernel_rfl) e rfl (k _ _ (C.tk _))
end
/-- a place of the ledger -/
inductive Pt (a : Addr) (o : Obj) : List (Addr × Obj) → (Obj → List (Addr × Obj)) → Prop
  | head {r} : Pt a o ((a, o) :: r) (fun o' => (a, o') :: r)
  | tail {p r F} : Pt a o r F → Pt a o (p :: r) (fun o' => p :: F o')
theorem Pt.mem {a : Addr} {o : Obj} {ν : List (Addr × Obj)} {F : Obj → List (Addr × Obj)} (h : Pt a o ν F) : (a, o) ∈ ν := by
  induction h with
  | head => exact .head _
  | tail _ ih => exact .tail _ ih
theorem Pt.up {a : Addr} {o : Obj} {ν : List (Addr × Obj)} {F : Obj → List (Addr × Obj)} (h : Pt a o ν F) (nd : (ν.map (·.1)).Nodup) (o' : Obj) : up ν a o' = F o' := by
  induction h with
  | head => exact up_head (List.nodup_cons.mp nd).1
  | tail h ih =>
    rw [List.map_cons, List.nodup_cons] at nd
    rw [up_tail (fun e => nd.1 (e ▸ List.mem_map.mpr ⟨_, h.mem, rfl⟩)), ih nd.2]
section
variable {w : World} {A : Around} {g : Heap} {L : Addr} {m : Str → Option Value} {ν : List (Addr × Obj)} {z s : Shared} {D U : Nat} {Q : Value → Shared → Prop} {E : Value → Shared → Prop} {env : Env} {F : Obj → List (Addr × Obj)}
theorem p_setA {x K dx : Addr} {es : List DictEntry} {f : Str → Option Value} {n k : Nat} {name : Str} {v : Value} {Q : Unit → Shared → Prop} (G : Gx w g) (C : Cx g L m ν z s) (h1 : Kn g ν x (instObj K dx)) (h2 : Pt dx (dictOf es n) ν F) (hf : Attr es f k) (hk : k ≤ 900)
    (ht : takerIn (KF w) K name = some none) (q : ∀ es' n' s', Attr es' (st f name v) (k + 1) → Cx g L m (F (dictOf es' n')) z s' → Q () s')
    (hs : findIn (KF w) (.ref K) "__setattr__" = some (some (.builtin "object.__setattr__")) := by kernel_rfl) (hp : plainOver (KF w) K = true := by kernel_rfl) (hd : hasDictIn (KF w) K = true := by kernel_rfl) :
    wpAny (MM w) A (setAttr (.ref x) name v) Q E s := r_setA G C h1 h2.mem hf hk ht (fun es' n' s' ha C' => q es' n' s' ha (h2.up C.nd _ ▸ C')) hs hp hd
theorem p_setL {vs : List Value} {l : Addr} {n : Nat} {i : Int} {t : Tok} {v : Value} {Q : Unit → Shared → Prop} (C : Cx g L m ν z s) (hl : Pt l (LO vs n) ν F) (h0 : 0 ≤ i) (h1 : i ≤ 1000000) (hi : i < vs.length) (k : ∀ n' s', Cx g L m (F (LO (vs.set i.toNat v) n')) z s' → Q () s') : wpAny (MM w) A (setItem (.ref l) (.int i t) v) Q E s :=
  r_setL C hl.mem h0 h1 hi (fun n' s' C' => k n' s' (hl.up C.nd _ ▸ C'))
theorem p_storeC {x : Str} {v : Value} {c : Addr} {o : Obj} {v₀ : Option Value} {cn : Str} {cs : Scope} {a : Addr} {ccd : Value} {cl : List (Str × Addr)} {Q : Unit → Shared → Prop} (C : Cx g L m ν z s) (hc : cl.lookup x = some c) (hm : Pt c o ν F) (hd : o.data = .cell v₀)
    (k : ∀ o' s', o'.data = .cell (some v) → Cx g L m (F o') z s' → Q () s') (hk : cs.kind = .function := by kernel_rfl) (hx : (envX cn cs L a ccd cl).kindOf x = some .cell := by kernel_rfl) :
    wpAny (MM w) A (storeName (envX cn cs L a ccd cl) x v) Q E s := r_storeC C hc hm.mem hd (fun o' s' h C' => k o' s' h (hm.up C.nd _ ▸ C')) hk hx
/-- a for loop that may break -/
theorem r_forB {x : Str} {px : Pos} {body : List Stmt} {I : Addr} {n : Nat} {P : Nat → Value → Prop} {St : Nat → Heap → Prop} {K : List (Addr × Obj) → Prop} {oI : Obj} {cn : Str} {cs : Scope} {a : Addr} {ccd : Value} {cl : List (Str × Addr)} {Q : Flow → Shared → Prop} {R : Result → Shared → Prop}
    (hh : A.handled = none) (T : It w g I n P St K) (C : Cx g L m ((I, oI) :: ν) z s) (hst : St 0 s.heap)
    (J : Nat → (Str → Option Value) → List (Addr × Obj) → Prop) (Jb : (Str → Option Value) → List (Addr × Obj) → Prop) (h0 : J 0 m ν) (hK : ∀ i m ν, J i m ν → K ν)
    (turn : ∀ i v m ν oI s, i < n → P i v → J i m ν → Cx g L (st m x v) ((I, oI) :: ν) z s →
      wpAny (MM w) A (execs body (envX cn cs L a ccd cl)) (fun f s₂ => match f with | .next | .cont => ∃ m' ν', Cx g L m' ((I, oI) :: ν') z s₂ ∧ J (i + 1) m' ν' | .brk => ∃ m' ν', Cx g L m' ν' z s₂ ∧ Jb m' ν' | .ret v => False) (fun _ _ => False) s)
    (hb : ∀ m ν, J n m ν → Jb m ν)
    (done : ∀ m ν s, Jb m ν → Cx g L m ν z s → R (.ok .next) s)
    (hkk : cs.kind = .function := by kernel_rfl) (hx : cs.names.lookup x = some .local := by decide +kernel) :
    codeAny (MM w) A (.forLoop (.Name x px) (.ref I) body [] (envX cn cs L a ccd cl)) R s := by
  refine r_forW (Q := fun _ _ => True) hh T C hst J h0 hK (fun i v m ν oI s hlt hP hJ C => ?_) (fun m ν s hJ C => done m ν s (hb _ _ hJ) C) hkk hx
  refine wpAny_mono (turn i v m ν oI s hlt hP hJ C) (fun f s₂ h => ?_) fun _ _ h => h
  cases f with
  | next => exact h
  | cont => exact h
  | brk => obtain ⟨m', ν', C', hJ'⟩ := h; exact done _ _ _ hJ' C'
  | ret v => exact h.elim
end
/-- the tally of runs, one tab more -/
def wide (count : List Int) (b : Nat) : List Int := if (count.length : Int) ≤ b then count ++ List.replicate (b - count.length + 1) 0 else count
def bump (count : List Int) (b : Nat) : List Int := (wide count b).set b ((wide count b).getD b 0 + 1)
/-- what Whitespace reads of a text: tally, blanks at the end, signs, tabs -/
def wsGo : List Nat → List Int → Nat → Int → Int → List Int × Nat × Int × Int
  | [], count, b, n, nt => (count, b, n, nt)
  | c :: r, count, b, n, nt =>
    if c = 32 then wsGo r count (b + 1) (n + 1) nt
    else if c = 9 then wsGo r (bump count b) 0 (n + 1) (nt + 1)
    else (count, b, n, nt)
theorem wide_len (count : List Int) (b : Nat) : b < (wide count b).length ∧ (wide count b).length ≤ max count.length (b + 1) := by
  unfold wide
  split
  · simp only [List.length_append, List.length_replicate]; omega
  · omega
theorem bump_len (count : List Int) (b : Nat) : (bump count b).length ≤ max count.length (b + 1) := by
  unfold bump; rw [List.length_set]; exact (wide_len count b).2
/-- a Whitespace in the ledger -/
structure WsAt (ν : List (Addr × Obj)) (g : Heap) (x dx tp tc : Addr) (es : List DictEntry) (n : Nat) (f : Str → Option Value) (vs : List Value) (r : List Int × Nat × Int × Int) : Prop where
  inst : Kn g ν x (instObj 176 dx)
  dict : Kn g ν dx (dictOf es n)
  pair : ∃ t, Kn g ν tp (TO [.ref tc, .int r.2.1 t] 0)
  tup : Kn g ν tc (TO vs 0)
  ins : IntsAre vs r.1
  attr : Attr es f 20
  norm : f (Str.ofString "norm") = some (.ref tp)
  nt : ∃ t, f (Str.ofString "nt") = some (.int r.2.2.2 t)
  eq : f (Str.ofString "equal") = none
  lvl : f (Str.ofString "indent_level") = none
theorem Kn.nu {g : Heap} {ν : List (Addr × Obj)} {a : Addr} {o : Obj} (h : (a, o) ∈ ν) : Kn g ν a o := Or.inr h
theorem Attr.le {es : List DictEntry} {f : Str → Option Value} {n k : Nat} (h : Attr es f n) (hk : n ≤ k) : Attr es f k := ⟨h.get, h.str, Nat.le_trans h.len hk⟩
set_option maxHeartbeats 4000000 in
theorem hideB {M : Model} {A : Around} {α : Type} {c : Sem α} {Q : α → Shared → Prop} {E : Value → Shared → Prop} {s : Shared}
    (h : ∀ Q' E', Q' = Q → E' = E → wpAny M A c Q' E' s) : wpAny M A c Q E s := h Q E rfl rfl
theorem ws_spec {w : World} {A : Around} {g : Heap} {L : Addr} {m : Str → Option Value} {ν : List (Addr × Obj)} {z s : Shared} {D U : Nat} {Q : Value → Shared → Prop} {E : Value → Shared → Prop} {cn : Str} {cs : Scope} {a : Addr} {ccd : Value} {cl : List (Str × Addr)}
    {l : List Nat} {t1 : Tok}
    (G : Gx w g) (X : Ax (D + 2) (U + 12) A (envX cn cs L a ccd cl) g) (C : Cx g L m ν z s) (hke : cs.kind = .function) (hlen : l.length ≤ 900)
    (k : ∀ x dx tp tc es n f vs ν' s', Cx g L m (ν' ++ ν) z s' → WsAt ν' g x dx tp tc es n f vs (wsGo l [] 0 0 0) → Q (.ref x) s') :
    wpAny (MM w) A (call (.ref 176) [.str (S l) t1]) Q E s := by
  refine r_new (fI := 131) (binds := [(Str.ofString "ws", .str (S l) t1)]) G X C hke (by kernel_rfl) (by kernel_rfl) (by kernel_rfl) rfl (by kernel_rfl) (fun _ _ => BindsTo.of_eq rfl) (fun _ => locs rfl) rfl rfl rfl (by decide) ?_
  clear G X C
  intro g' L' A' s x dx G X hg C
  simp only [bm, List.foldl] at C
  repeat walk_at "go"
  with_reducible refine p_setA G C (.nu (by walk_at "mem")) (by walk_at "pt") Attr.nil (by omega) (by kernel_rfl) ?_; intro es n1 s hA C
  repeat walk_at "go"
  with_reducible refine c_assignTs [Str.ofString "S", Str.ofString "T"] ?_
  repeat walk_at "go"
  with_reducible refine r_cls176 (c := 32) (t := 347) G C (by kernel_rfl) ?_; intro t s C
  repeat walk_at "go"
  with_reducible refine r_cls176 (c := 9) (t := 348) G C (by kernel_rfl) ?_; intro t s C
  repeat walk_at "go"
  with_reducible refine r_newT C ?_; intro tt s C
  with_reducible refine r_unpackI C X.hd (.nu (by walk_at "mem")) rfl ?_; intro s C
  have C := C.tail
  simp only [List.reverse_cons, List.reverse_nil, List.nil_append, List.cons_append, List.map_cons, List.map_nil]
  repeat walk_at "go"
  with_reducible refine r_newL C ?_; intro ca s C
  repeat walk_at "go"
  with_reducible refine r_getA0 G C (.nu (by walk_at "mem")) (.nu (by walk_at "mem")) hA (by walk_at "lk") rfl ?_; intro s C
  with_reducible refine r_iterS C ?_; intro I oI St s T hst C
  refine r_forB (Q := fun _ _ => True) X.hd T C hst
    (fun i m ν' => ∃ ca vs kk count b n nt tb tn tt tS tT, ν' = (ca, LO vs kk) :: (x, instObj 176 dx) :: (dx, dictOf es n1) :: ν ∧ IntsAre vs count ∧ m (Str.ofString "self") = some (.ref x) ∧ m (Str.ofString "S") = some (.str (S [32]) tS) ∧ m (Str.ofString "T") = some (.str (S [9]) tT) ∧
      m (Str.ofString "count") = some (.ref ca) ∧ m (Str.ofString "b") = some (.int (b : Nat) tb) ∧ m (Str.ofString "n") = some (.int n tn) ∧ m (Str.ofString "nt") = some (.int nt tt) ∧ wsGo (l.drop i) count b n nt = wsGo l [] 0 0 0 ∧ b ≤ i ∧ count.length ≤ i)
    (fun m ν' => ∃ ca vs kk count b n nt tb tn tt ν0, ν' = ν0 ++ (ca, LO vs kk) :: (x, instObj 176 dx) :: (dx, dictOf es n1) :: ν ∧ IntsAre vs count ∧ m (Str.ofString "self") = some (.ref x) ∧
      m (Str.ofString "count") = some (.ref ca) ∧ m (Str.ofString "b") = some (.int (b : Nat) tb) ∧ m (Str.ofString "n") = some (.int n tn) ∧ m (Str.ofString "nt") = some (.int nt tt) ∧ (count, b, n, nt) = wsGo l [] 0 0 0 ∧ b ≤ 900 ∧ count.length ≤ 900)
    ?_ (fun _ _ _ _ => trivial) ?_ ?_ ?_
  · exact ⟨ca, [], 0, [], 0, 0, 0, _, _, _, _, _, rfl, .nil, by walk_at "lk", by walk_at "lk", by walk_at "lk", by walk_at "lk", by rw [Int.natCast_zero]; walk_at "lk", by walk_at "lk", by walk_at "lk", rfl, Nat.le_refl _, Nat.le_refl _⟩
  · intro i v m ν' oI s hlt hP hJ C
    obtain ⟨ca, vs, kk, count, b, n, nt, tb, tn, tt, tS, tT, hν, hvs, h1, h2, h3, h4, h5, h6, h7, hw, hbi, hci⟩ := hJ
    rw [hν] at C
    obtain ⟨c, tc, hc, rfl⟩ := hP
    refine hideB ?_; intro Q2 E2 hq2 he2
    have hdr : l.drop i = c :: l.drop (i + 1) := by
      rw [List.drop_eq_getElem_cons hlt]
      rw [List.getElem?_eq_getElem hlt] at hc
      rw [Option.some.inj hc]
    rw [hdr] at hw
    repeat walk_at "go"
    refine ite_b (fun hb => ?_) (fun hb => ?_)
    · have hc' : c = 32 := by simpa using hb
      repeat walk_at "go"
      subst hq2
      refine ⟨_, _, C, ca, vs, kk, count, b + 1, n + 1, nt, _, _, _, _, _, rfl, hvs, by walk_at "lk", by walk_at "lk", by walk_at "lk", by walk_at "lk", by rw [Int.natCast_succ]; walk_at "lk", by walk_at "lk", by walk_at "lk", ?_, by omega, by omega⟩
      rw [← hw]
      conv => rhs; unfold wsGo
      rw [if_pos hc']
    · have hc' : c ≠ 32 := by simpa using hb
      repeat walk_at "go"
      refine ite_b (fun hb2 => ?_) (fun hb2 => ?_)
      · have hc2 : c = 9 := by simpa using hb2
        have hw' : wsGo (l.drop (i + 1)) (bump count b) 0 (n + 1) (nt + 1) = wsGo l [] 0 0 0 := by
          rw [← hw]
          conv => rhs; unfold wsGo
          rw [if_neg hc', if_pos hc2]
        have hvl : vs.length = count.length := hvs.length
        have hwl := wide_len count b
        have hbl := bump_len count b
        repeat walk_at "go"
        with_reducible refine r_lenL C (.nu (by walk_at "mem")) (by omega) ?_; intro t s C
        repeat walk_at "go"
        refine ite_b (fun hq => ?_) (fun hq => ?_)
        · have hq' : (count.length : Int) ≤ b := by simpa [hvl] using hq
          repeat walk_at "go"
          rename Tok => tz
          with_reducible refine r_newL C ?_; intro za s C
          repeat walk_at "go"
          with_reducible refine r_lenL C (.nu (by walk_at "mem")) (by omega) ?_; intro t s C
          repeat walk_at "go"
          with_reducible refine r_mulL C (.nu (by walk_at "mem")) (by simp) (by omega) (by omega) ?_; intro zb s C
          repeat walk_at "go"
          with_reducible refine r_addL C (.nu (by walk_at "mem")) (.nu (by walk_at "mem")) (by unfold repV; rw [List.length_flatten]; simp; omega) ?_; intro cb s C
          have hvs2 : IntsAre (vs ++ repV (↑b - ↑vs.length + 1) [Value.int 0 tz]) (wide count b) := by
            unfold wide
            rw [if_pos hq']
            refine IntsAre.app hvs ?_
            have := repV_ints (IntsAre.cons 0 tz .nil) ((b : Int) - vs.length + 1).toNat
            rw [show (List.replicate ((b : Int) - vs.length + 1).toNat [(0 : Int)]).flatten = List.replicate (b - count.length + 1) 0 from by
              rw [show ((b : Int) - vs.length + 1).toNat = b - count.length + 1 from by omega]
              simp] at this
            exact this
          have C := C.sub (ν' := (cb, LO (vs ++ repV (↑b - ↑vs.length + 1) [Value.int 0 tz]) 0) :: (I, oI) :: (x, instObj 176 dx) :: (dx, dictOf es n1) :: ν) (List.Sublist.cons_cons _ (List.Sublist.cons _ (List.Sublist.cons _ (List.Sublist.cons_cons _ (List.Sublist.cons _ (List.Sublist.refl _))))))
          have C := C.perm (List.Perm.swap (cb, LO (vs ++ repV (↑b - ↑vs.length + 1) [Value.int 0 tz]) 0) (I, oI) ((x, instObj 176 dx) :: (dx, dictOf es n1) :: ν))
          obtain ⟨y, hy⟩ : ∃ y, (wide count b)[b]? = some y := ⟨_, List.getElem?_eq_getElem hwl.1⟩
          have hgd : (wide count b).getD b 0 = y := by rw [List.getD_eq_getElem?_getD, hy]; rfl
          obtain ⟨ty, hty⟩ := IntsAre.get hvs2 hy
          have hl2 := hvs2.length
          repeat walk_at "go"
          with_reducible refine r_itemL C (.nu (by walk_at "mem")) (by omega) (by omega) (by rw [Int.toNat_natCast]; exact hty) ?_
          repeat walk_at "go"
          with_reducible refine p_setL C (by walk_at "pt") (by omega) (by omega) (by omega) ?_; intro nn s C
          repeat walk_at "go"
          subst hq2
          refine ⟨_, _, C, _, _, _, bump count b, 0, n + 1, nt + 1, _, _, _, _, _, rfl, ?_, by walk_at "lk", by walk_at "lk", by walk_at "lk", by walk_at "lk", by rw [Int.natCast_zero]; walk_at "lk", by walk_at "lk", by walk_at "lk", hw', by omega, by omega⟩
          rw [Int.toNat_natCast]
          unfold bump
          rw [hgd]
          exact IntsAre.set hvs2
        · have hq' : ¬ (count.length : Int) ≤ b := by simpa [hvl] using hq
          have hvs2 : IntsAre vs (wide count b) := by unfold wide; rw [if_neg hq']; exact hvs
          repeat walk_at "go"
          obtain ⟨y, hy⟩ : ∃ y, (wide count b)[b]? = some y := ⟨_, List.getElem?_eq_getElem hwl.1⟩
          have hgd : (wide count b).getD b 0 = y := by rw [List.getD_eq_getElem?_getD, hy]; rfl
          obtain ⟨ty, hty⟩ := IntsAre.get hvs2 hy
          have hl2 := hvs2.length
          repeat walk_at "go"
          with_reducible refine r_itemL C (.nu (by walk_at "mem")) (by omega) (by omega) (by rw [Int.toNat_natCast]; exact hty) ?_
          repeat walk_at "go"
          with_reducible refine p_setL C (by walk_at "pt") (by omega) (by omega) (by omega) ?_; intro nn s C
          repeat walk_at "go"
          subst hq2
          refine ⟨_, _, C, _, _, _, bump count b, 0, n + 1, nt + 1, _, _, _, _, _, rfl, ?_, by walk_at "lk", by walk_at "lk", by walk_at "lk", by walk_at "lk", by rw [Int.natCast_zero]; walk_at "lk", by walk_at "lk", by walk_at "lk", hw', by omega, by omega⟩
          rw [Int.toNat_natCast]
          unfold bump
          rw [hgd]
          exact IntsAre.set hvs2
      · have hc2 : c ≠ 9 := by simpa using hb2
        repeat walk_at "go"
        subst hq2
        refine ⟨_, _, C, ca, vs, kk, count, b, n, nt, _, _, _, [(I, oI)], rfl, hvs, by walk_at "lk", by walk_at "lk", by walk_at "lk", by walk_at "lk", by walk_at "lk", ?_, by omega, by omega⟩
        rw [← hw]
        unfold wsGo
        rw [if_neg hc', if_neg hc2]
  · rintro m ν' ⟨ca, vs, kk, count, b, n, nt, tb, tn, tt, tS, tT, hν, hvs, h1, h2, h3, h4, h5, h6, h7, hw, hbi, hci⟩
    refine ⟨ca, vs, kk, count, b, n, nt, tb, tn, tt, [], hν, hvs, h1, h4, h5, h6, h7, ?_, by omega, by omega⟩
    rw [← hw, List.drop_length]
    rfl
  · rintro m ν' s ⟨ca, vs, kk, count, b, n, nt, tb, tn, tt, ν0, hν, hvs, h1, h4, h5, h6, h7, hw, hb9, hc9⟩ C
    rw [hν] at C
    have C := C.sub (ν' := (ca, LO vs kk) :: (x, instObj 176 dx) :: (dx, dictOf es n1) :: ν) (List.sublist_append_right _ _)
    have hvl : vs.length = count.length := hvs.length
    repeat walk_at "go"
    with_reducible refine p_setA G C (.nu (by walk_at "mem")) (by walk_at "pt") hA (by omega) (by kernel_rfl) ?_; intro es2 n2 s hA C
    repeat walk_at "go"
    with_reducible refine p_setA G C (.nu (by walk_at "mem")) (by walk_at "pt") hA (by omega) (by kernel_rfl) ?_; intro es2 n2 s hA C
    repeat walk_at "go"
    with_reducible refine r_tupL C (.nu (by walk_at "mem")) (by omega) ?_; intro tc s C
    repeat walk_at "go"
    with_reducible refine r_newT C ?_; intro tp s C
    repeat walk_at "go"
    with_reducible refine p_setA G C (.nu (by walk_at "mem")) (by walk_at "pt") hA (by omega) (by kernel_rfl) ?_; intro es2 n2 s hA C
    repeat walk_at "go"
    with_reducible refine r_lenL C (.nu (by walk_at "mem")) (by omega) ?_; intro t s C
    repeat walk_at "go"
    with_reducible refine p_setA G C (.nu (by walk_at "mem")) (by walk_at "pt") hA (by omega) (by kernel_rfl) ?_; intro es2 n2 s hA C
    repeat walk_at "go"
    refine ⟨rfl, _, _, C, fun C => ?_⟩
    rw [← hw] at k
    refine k x dx tp tc es2 n2 _ vs [(tp, TO [.ref tc, .int b tb] 0), (tc, TO vs 0), (x, instObj 176 dx), (dx, dictOf es2 n2)] s ?_ ⟨.nu (by walk_at "mem"), .nu (by walk_at "mem"), ⟨tb, .nu (by walk_at "mem")⟩, .nu (by walk_at "mem"), hvs, hA.le (by omega), by walk_at "lk", ⟨_, by walk_at "lk"⟩, by walk_at "ln", by walk_at "ln"⟩
    refine C.sub ?_
    simp only [List.cons_append, List.nil_append]
    exact List.Sublist.cons_cons _ (List.Sublist.cons_cons _ (List.Sublist.cons _ (List.Sublist.refl _)))
section
variable {w : World} {A : Around} {g : Heap} {L : Addr} {m : Str → Option Value} {ν : List (Addr × Obj)} {z s : Shared} {D U : Nat} {Q : Value → Shared → Prop} {E : Value → Shared → Prop} {env : Env} {F : Obj → List (Addr × Obj)}
theorem r_range2 {a b : Int} {t u : Tok} (C : Cx g L m ν z s) (k : ∀ D u' s', Cx g L m ((D, RO a b t u u') :: ν) z s' → Q (.ref D) s') : wpAny (MM w) A (call (.type "range") [.int a t, .int b u]) Q E s :=
  call_range_2 (k _ _ _ (C.push _ rfl _))
theorem r_range1 {b : Int} {t : Tok} (C : Cx g L m ν z s) (k : ∀ D u u' s', Cx g L m ((D, RO 0 b u t u') :: ν) z s' → Q (.ref D) s') : wpAny (MM w) A (call (.type "range") [.int b t]) Q E s :=
  call_range_1 (k _ _ _ _ (C.push _ rfl _))
theorem r_lenT {vs : List Value} {l : Addr} {n : Nat} (C : Cx g L m ν z s) (hl : Kn g ν l (TO vs n)) (hv : vs.length ≤ 16384) (k : ∀ t s', Cx g L m ν z s' → Q (.int vs.length t) s') : wpAny (MM w) A (call (.builtin "len") [.ref l]) Q E s :=
  kun_lenT (items := vs.toArray) ⟨_, hl.get C, rfl, _, rfl⟩ (by rw [List.size_toArray]) (by omega) (k _ _ (C.tk _))
theorem r_unpack2 {v₁ v₂ : Value} {t : Addr} {n k' : Nat} {e₁ e₂ : Expr} {pos : Pos} {Q : Unit → Shared → Prop} (C : Cx g L m ν z s) (hh : A.handled = none) (ht : Kn g ν t (TO [v₁, v₂] n))
    (k : ∀ s', Cx g L m ν z s' → wpAny (MM w) A (assign e₁ env v₁) (fun _ s₁ => wpAny (MM w) A (assign e₂ env v₂) Q E s₁) E s')
    (he : (assignEach [e₁, e₂] env).map (·.2) = [assign e₁ env, assign e₂ env] := by kernel_rfl) (hstar : (assignEach [e₁, e₂] env).findIdx? (·.1) = none := by kernel_rfl) : wpAny (MM w) A (assign (.Tuple [e₁, e₂] k' pos) env (.ref t)) Q E s := by
  refine r_unpackT C hh ht ?_ (fun s' C' => ?_) hstar
  · have := congrArg List.length he
    simpa using this
  · rw [he]
    refine c_inOrder (wpAny_mono (k s' C') (fun _ s₁ h => c_inOrder (wpAny_mono h (fun _ s₂ h => c_inOrder0 h) fun _ _ h => h)) fun _ _ h => h)
theorem r_eqD {a b : Value} {da db : PyData} {as bs : List Addr} {r : Bool} (ra : Reads s.heap a da as) (rb : Reads s.heap b db bs) (ha : da.canLay0 = true) (hb : db.canLay0 = true) (hd : da.depth ≤ 8) (hu : A.units + 8 < cLine) (hm : SeqAt.noMix da db = true) (hr : r = true ↔ da = db) (h : Q (.bool r) s) : wpAny (MM w) A (compareOp .Eq a b) Q E s := by
  refine SeqAt.compareEq_reads ra rb ha hb (by omega) ?_
  rw [← SeqAt.same_eq_eqv _ _ hm]
  have e : Spec.same da db = r := by rw [Bool.eq_iff_iff, hr]; exact PyProof.Rows.same_iff
  rw [e]; exact h
theorem r_neD {a b : Value} {da db : PyData} {as bs : List Addr} {r : Bool} (ra : Reads s.heap a da as) (rb : Reads s.heap b db bs) (ha : da.canLay0 = true) (hb : db.canLay0 = true) (hd : da.depth ≤ 8) (hu : A.units + 8 < cLine) (hm : SeqAt.noMix da db = true) (hr : r = true ↔ da = db) (h : Q (.bool (!r)) s) : wpAny (MM w) A (compareOp .NotEq a b) Q E s := by
  refine SeqAt.compareNe_reads ra rb ha hb (by omega) ?_
  rw [← SeqAt.same_eq_eqv _ _ hm]
  have e : Spec.same da db = r := by rw [Bool.eq_iff_iff, hr]; exact PyProof.Rows.same_iff
  rw [e]; exact h
theorem reads_ints {h : Heap} {vs : List Value} {ns : List Int} (i : IntsAre vs ns) : ReadsAll h vs (ns.map .int) [] := by
  induction i with
  | nil => exact .nil
  | cons y t _ ih => exact ReadsAll.cons (as := []) (Reads.int y t) ih
theorem lay_ints (ns : List Int) : PyData.canLayAll0 (ns.map .int) = true := by
  induction ns with
  | nil => rfl
  | cons n r ih => simp [PyData.canLayAll0, PyData.canLay0, ih]
theorem depth_ints (ns : List Int) : PyData.depthAll (ns.map .int) ≤ 1 := by
  induction ns with
  | nil => simp [PyData.depthAll]
  | cons n r ih => simp only [List.map_cons, PyData.depthAll, PyData.depth]; omega
end
/-- what the tabs widen -/
def ilS (count : List Int) (ts : Int) : Nat → Int
  | 0 => 0
  | i + 1 => ilS count ts i + (ts + i).fdiv ts * count.getD (ts + i).toNat 0
def lvl (r : List Int × Nat × Int × Int) (ts : Int) : Int := r.2.1 + ts * (ilS r.1 ts ((r.1.length : Int) - ts).toNat + r.2.2.2)
theorem WsAt.base {ν : List (Addr × Obj)} {g g' : Heap} {x dx tp tc : Addr} {es : List DictEntry} {n : Nat} {f : Str → Option Value} {vs : List Value} {r : List Int × Nat × Int × Int} (h : WsAt ν g x dx tp tc es n f vs r) (hg : ∀ b o, g.get? b = some o → g'.get? b = some o) : WsAt ν g' x dx tp tc es n f vs r :=
  ⟨h.inst.base hg, h.dict.base hg, h.pair.imp fun _ p => p.base hg, h.tup.base hg, h.ins, h.attr, h.norm, h.nt, h.eq, h.lvl⟩
theorem WsAt.mono {ν ν' : List (Addr × Obj)} {g : Heap} {x dx tp tc : Addr} {es : List DictEntry} {n : Nat} {f : Str → Option Value} {vs : List Value} {r : List Int × Nat × Int × Int} (h : WsAt ν g x dx tp tc es n f vs r) (hs : ∀ p ∈ ν, p ∈ ν') : WsAt ν' g x dx tp tc es n f vs r :=
  ⟨h.inst.mono hs, h.dict.mono hs, h.pair.imp fun _ p => p.mono hs, h.tup.mono hs, h.ins, h.attr, h.norm, h.nt, h.eq, h.lvl⟩
set_option maxHeartbeats 4000000 in
theorem level_spec {w : World} {A : Around} {g : Heap} {L : Addr} {m : Str → Option Value} {ν : List (Addr × Obj)} {z s : Shared} {D U : Nat} {Q : Value → Shared → Prop} {E : Value → Shared → Prop} {cn : Str} {cs : Scope} {a : Addr} {ccd : Value} {cl : List (Str × Addr)}
    {x dx tp tc : Addr} {es : List DictEntry} {n : Nat} {f : Str → Option Value} {vs : List Value} {r : List Int × Nat × Int × Int} {ts : Int} {t1 : Tok}
    (G : Gx w g) (X : Ax (D + 1) (U + 8) A (envX cn cs L a ccd cl) g) (C : Cx g L m ν z s) (hke : cs.kind = .function) (hW : WsAt ν g x dx tp tc es n f vs r) (hr : r.1.length ≤ 900) (h1 : 1 ≤ ts) (h2 : ts ≤ 100)
    (k : ∀ t s', Cx g L m ν z s' → Q (.int (lvl r ts) t) s') :
    wpAny (MM w) A (call (.ref 145) [.ref x, .int ts t1]) Q E s := by
  refine r_enter (binds := [(Str.ofString "self", .ref x), (Str.ofString "tabsize", .int ts t1)]) G X C hke rfl (by kernel_rfl) (BindsTo.of_eq rfl) (locs rfl) rfl rfl rfl (by decide) ?_
  clear G X C
  intro g' L' s G X hg C
  simp only [bm, List.foldl] at C
  have hW' := hW.base hg
  obtain ⟨tb, hpair⟩ := hW'.pair
  obtain ⟨tn, hnt⟩ := hW'.nt
  have hvl := hW'.ins.length
  repeat walk_at "go"
  with_reducible refine c_assignT ?_
  repeat walk_at "go"
  with_reducible refine r_getA0 G C hW'.inst hW'.dict hW'.attr hW'.norm rfl ?_; intro s C
  with_reducible refine r_unpack2 C X.hd hpair ?_; intro s C
  repeat walk_at "go"
  with_reducible refine r_lenT C hW'.tup (by omega) ?_; intro t s C
  repeat walk_at "go"
  with_reducible refine r_range2 C ?_; intro ra u' s C
  with_reducible refine r_iterR C Kn.head (by omega) (by omega) (by omega) (by omega) ?_; intro I oI St s T hst C
  refine r_forW (Q := fun _ _ => True) X.hd T C hst
    (fun i m ν' => ∃ ti tt, ν' = (ra, RO ts (vs.length : Int) t1 t u') :: ν ∧ m (Str.ofString "self") = some (.ref x) ∧ m (Str.ofString "tabsize") = some (.int ts tt) ∧ m (Str.ofString "count") = some (.ref tc) ∧ m (Str.ofString "trailing") = some (.int r.2.1 tb) ∧ m (Str.ofString "il") = some (.int (ilS r.1 ts i) ti))
    ⟨_, _, rfl, by walk_at "lk", by walk_at "lk", by walk_at "lk", by walk_at "lk", by rw [show ilS r.1 ts 0 = 0 from rfl]; walk_at "lk"⟩ (fun _ _ _ _ => trivial) ?_ ?_
  · intro i v m ν' oI s hlt hP hJ C
    obtain ⟨ti, tt, hν, e1, e2, e3, e4, e5⟩ := hJ
    rw [hν] at C
    obtain ⟨tv, rfl⟩ := hP
    have hW2 := hW'.mono (ν' := (I, oI) :: (ra, RO ts (vs.length : Int) t1 t u') :: ν) (fun p hp => .tail _ (.tail _ hp))
    have hix : (ts + i).toNat < r.1.length := by omega
    obtain ⟨ty, hty⟩ := IntsAre.get hW2.ins (List.getElem?_eq_getElem hix)
    have hgd : r.1.getD (ts + i).toNat 0 = r.1[(ts + i).toNat] := by rw [List.getD_eq_getElem?_getD, List.getElem?_eq_getElem hix]; rfl
    have hq : ((ts + (i : Int)).fdiv ts).natAbs < 2 ^ 64 := by
      rw [Int.fdiv_eq_ediv_of_nonneg _ (by omega)]
      have a1 : (ts + (i : Int)) / ts ≤ ts + i := Int.ediv_le_self _ (by omega)
      have a2 : 0 ≤ (ts + (i : Int)) / ts := Int.ediv_nonneg (by omega) (by omega)
      omega
    repeat walk_at "go"
    with_reducible refine r_divI C (by omega) (by omega) ?_; intro t s C
    repeat walk_at "go"
    with_reducible refine r_itemT C hW2.tup (by omega) (by omega) hty ?_
    with_reducible refine r_mulI C hq ?_; intro t s C
    repeat walk_at "go"
    have hnx : ilS r.1 ts (i + 1) = ilS r.1 ts i + (ts + i).fdiv ts * r.1[(ts + i).toNat] := by rw [← hgd]; rfl
    exact ⟨_, _, C, _, _, rfl, by walk_at "lk", by walk_at "lk", by walk_at "lk", by walk_at "lk", by rw [hnx]; walk_at "lk"⟩
  · intro m ν' s hJ C
    obtain ⟨ti, tt, hν, e1, e2, e3, e4, e5⟩ := hJ
    rw [hν] at C
    have hW2 := hW'.mono (ν' := (ra, RO ts (vs.length : Int) t1 t u') :: ν) (fun p hp => .tail _ hp)
    repeat walk_at "go"
    with_reducible refine r_getA0 G C hW2.inst hW2.dict hW2.attr hnt rfl ?_; intro s C
    repeat walk_at "go"
    with_reducible refine r_mulI C (by omega) ?_; intro t s C
    repeat walk_at "go"
    refine ⟨_, _, C, fun C => ?_⟩
    have := k
    unfold lvl at this
    rw [← hvl] at this
    exact this _ _ C.tail
set_option maxHeartbeats 4000000 in
theorem equal_spec {w : World} {A : Around} {g : Heap} {L : Addr} {m : Str → Option Value} {ν : List (Addr × Obj)} {z s : Shared} {D U : Nat} {Q : Value → Shared → Prop} {E : Value → Shared → Prop} {cn : Str} {cs : Scope} {a : Addr} {ccd : Value} {cl : List (Str × Addr)}
    {x dx tp tc : Addr} {es : List DictEntry} {n : Nat} {f : Str → Option Value} {vs : List Value} {r : List Int × Nat × Int × Int} {x2 dx2 tp2 tc2 : Addr} {es2 : List DictEntry} {n2 : Nat} {f2 : Str → Option Value} {vs2 : List Value} {r2 : List Int × Nat × Int × Int}
    (G : Gx w g) (X : Ax (D + 1) (U + 24) A (envX cn cs L a ccd cl) g) (C : Cx g L m ν z s) (hke : cs.kind = .function) (hW : WsAt ν g x dx tp tc es n f vs r) (hV : WsAt ν g x2 dx2 tp2 tc2 es2 n2 f2 vs2 r2)
    (k : ∀ s', Cx g L m ν z s' → Q (.bool (decide (r.1 = r2.1 ∧ r.2.1 = r2.2.1))) s') :
    wpAny (MM w) A (call (.ref 152) [.ref x, .ref x2]) Q E s := by
  refine r_enter (U := U + 16) (binds := [(Str.ofString "self", .ref x), (Str.ofString "other", .ref x2)]) G X C hke rfl (by kernel_rfl) (BindsTo.of_eq rfl) (locs rfl) rfl rfl rfl (by decide) ?_
  clear G X C
  intro g' L' s G X hg C
  simp only [bm, List.foldl] at C
  have hW' := hW.base hg
  have hV' := hV.base hg
  obtain ⟨tb, hpair⟩ := hW'.pair
  obtain ⟨tb2, hpair2⟩ := hV'.pair
  repeat walk_at "go"
  with_reducible refine r_getA0 G C hW'.inst hW'.dict hW'.attr hW'.norm rfl ?_; intro s C
  repeat walk_at "go"
  with_reducible refine r_getA0 G C hV'.inst hV'.dict hV'.attr hV'.norm rfl ?_; intro s C
  have hu := X.un
  have rd : ∀ {tp tc : Addr} {vs : List Value} {r : List Int × Nat × Int × Int} {tb : Tok}, Kn g' ν tp (TO [.ref tc, .int r.2.1 tb] 0) → Kn g' ν tc (TO vs 0) → IntsAre vs r.1 → Reads s.heap (.ref tp) (.tuple [.tuple (r.1.map .int), .int r.2.1]) [] := by
    intro tp tc vs r tb h1 h2 h3
    refine Reads.tuple (h1.get C) rfl rfl ?_
    refine ReadsAll.cons (as := []) (bs := []) (Reads.tuple (h2.get C) rfl rfl ?_) (ReadsAll.cons (as := []) (bs := []) (Reads.int _ _) .nil)
    simpa using reads_ints h3
  refine r_eqD (r := decide (r.1 = r2.1 ∧ r.2.1 = r2.2.1)) (rd hpair hW'.tup hW'.ins) (rd hpair2 hV'.tup hV'.ins) ?_ ?_ ?_ (by omega) ?_ ?_ ?_
  · simp [PyData.canLay0, PyData.canLayAll0, lay_ints]
  · simp [PyData.canLay0, PyData.canLayAll0, lay_ints]
  · have := depth_ints r.1
    simp only [PyData.depth, PyData.depthAll]
    omega
  · simp [SeqAt.noMix, SeqAt.noMixAll, noMix_ints]
  · rw [decide_eq_true_eq]
    constructor
    · rintro ⟨h1, h2⟩; rw [h1, h2]
    · intro h
      injection h with h
      injection h with h1 h2
      injection h1 with h1
      injection h2 with h2 _
      injection h2 with h2
      refine ⟨?_, by exact_mod_cast h2⟩
      have := congrArg (List.map fun d : PyData => match d with | .int i => i | _ => 0) h1
      simpa [List.map_map, Function.comp_def] using this
  · repeat walk_at "go"
    refine ⟨_, _, C, fun C => ?_⟩
    exact k _ C
theorem at_one (l : List Nat) (c i : Nat) : StrLaws.At (S l) (S [c]) (S l).length i ↔ l[i]? = some c := by
  have e : (S [c]) = (⟨#[c]⟩ : Str) := rfl
  rw [e]
  by_cases hi : i < (S l).length
  · rw [← signIs_iff hi]
    unfold signIs
    have hi' : i < l.length := by rw [S_len] at hi; exact hi
    have e2 : (S l).cps.getD ((i : Int)).toNat 0 = l[i] := by
      rw [Int.toNat_natCast]
      simp [S, Array.getD, hi']
    rw [e2, List.getElem?_eq_getElem hi', beq_iff_eq]
    constructor
    · intro h
      injection h with h
      have := congrArg Array.toList h
      simp at this
      rw [this]
    · intro h
      rw [Option.some.inj h]
  · constructor
    · intro h
      have h1 := h.1
      have : (⟨#[c]⟩ : Str).length = 1 := rfl
      omega
    · intro h
      rw [List.getElem?_eq_none (by rw [S_len] at hi; omega)] at h
      cases h
theorem find_at {l p q : List Nat} {c : Nat} (h : l = p ++ c :: q) (hp : c ∉ p) : Txt.find (S l) (S [c]) = p.length := by
  rcases find_whole (S l) (S [c]) with ⟨_, h2⟩ | ⟨i, h1, h2, h3⟩
  · exact absurd ((at_one l c p.length).mpr (by rw [h]; simp)) (h2 _)
  · rw [h1]
    have a1 := (at_one l c i).mp h2
    rcases Nat.lt_trichotomy i p.length with hi | hi | hi
    · rw [h, List.getElem?_append_left hi] at a1
      exact absurd (List.mem_of_getElem? a1) hp
    · rw [hi]
    · exact absurd ((at_one l c p.length).mpr (by rw [h]; simp)) (h3 _ hi)
theorem find3_at {l p q : List Nat} {c k : Nat} (h : l = p ++ c :: q) (hk : k ≤ p.length) (hp : c ∉ p.drop k) : Txt.find3 (S l) (S [c]) k = p.length := by
  have hl : k ≤ l.length := by rw [h]; simp; omega
  have hf : PySem.fromIndex (S l).length (k : Int) = k := by
    unfold PySem.fromIndex
    rw [if_neg (by omega)]
    omega
  unfold Txt.find3
  rw [hf]
  rcases StrLaws.occ_head_from (S l) (S [c]) k 1 (Nat.le_refl _) with ⟨_, h2⟩ | ⟨i, r, h1, h0, h2, h3⟩
  · exact absurd ((at_one l c p.length).mpr (by rw [h]; simp)) (h2 _ hk)
  · rw [h1]
    have a1 := (at_one l c i).mp h2
    show (i : Int) = p.length
    rcases Nat.lt_trichotomy i p.length with hi | hi | hi
    · rw [h, List.getElem?_append_left hi] at a1
      refine absurd (List.mem_of_getElem? (i := i - k) ?_) hp
      rw [List.getElem?_drop, show k + (i - k) = i from by omega]; exact a1
    · rw [hi]
    · exact absurd ((at_one l c p.length).mpr (by rw [h]; simp)) (h3 _ hk hi)
/-- parts set apart by a sign -/
def jn (c : Nat) : List (List Nat) → List Nat
  | [] => []
  | [p] => p
  | p :: r :: rs => p ++ c :: jn c (r :: rs)
theorem jn_inj {c : Nat} : ∀ {ps qs : List (List Nat)}, ps ≠ [] → qs ≠ [] → (∀ p ∈ ps, c ∉ p) → (∀ q ∈ qs, c ∉ q) → jn c ps = jn c qs → ps = qs
  | [], _, h, _, _, _, _ => absurd rfl h
  | _, [], _, h, _, _, _ => absurd rfl h
  | [p], [q], _, _, _, _, e => by simpa [jn] using e
  | [p], q :: r :: rs, _, _, hp, _, e => by
    have : c ∈ p := by rw [show p = q ++ c :: jn c (r :: rs) from e]; simp
    exact absurd this (hp p (.head _))
  | p :: r :: rs, [q], _, _, _, hq, e => by
    have : c ∈ q := by rw [show q = p ++ c :: jn c (r :: rs) from e.symm]; simp
    exact absurd this (hq q (.head _))
  | p :: r :: rs, q :: r' :: rs', _, _, hp, hq, e => by
    have e' : p ++ c :: jn c (r :: rs) = q ++ c :: jn c (r' :: rs') := e
    have h1 := hp p (.head _)
    have h2 := hq q (.head _)
    have hpq : p = q ∧ jn c (r :: rs) = jn c (r' :: rs') := by
      rw [List.append_eq_append_iff] at e'
      rcases e' with ⟨a, ha, hb⟩ | ⟨a, ha, hb⟩
      · cases a with
        | nil => simp at ha hb; exact ⟨ha.symm, hb⟩
        | cons x a =>
          injection hb with hx hb
          subst hx
          exact absurd (by rw [ha]; simp) h2
      · cases a with
        | nil => simp at ha hb; exact ⟨ha, hb.symm⟩
        | cons x a =>
          injection hb with hx hb
          subst hx
          exact absurd (by rw [ha]; simp) h1
    rw [hpq.1, jn_inj (by simp) (by simp) (fun p hp' => hp p (.tail _ hp')) (fun q hq' => hq q (.tail _ hq')) hpq.2]
theorem join_S (c : Nat) : ∀ ps : List (List Nat), Str.join (S [c]) (ps.map S) = S (jn c ps)
  | [] => rfl
  | [p] => by
    simp [jn, Str.join]
  | p :: r :: rs => by
    have ih := join_S c (r :: rs)
    rw [List.map_cons] at ih
    rw [List.map_cons, List.map_cons]
    unfold Str.join
    rw [ih, S_app, S_app]; simp [jn]
theorem count_mem {c : Nat} : ∀ {q : List Nat}, c ∈ q → Spec.countIn (.str ⟨#[c]⟩) (q.map fun n => PyData.str ⟨#[n]⟩) ≠ 0
  | n :: q, h => by
    have h0 := countIn_nonneg (.str ⟨#[c]⟩) (q.map fun n => PyData.str ⟨#[n]⟩)
    rw [List.map_cons]
    unfold Spec.countIn
    by_cases e : n = c
    · subst e
      rw [if_pos (PyProof.Rows.same_iff.mpr rfl)]
      omega
    · rcases List.mem_cons.mp h with rfl | h
      · exact absurd rfl e
      · have := count_mem h
        split <;> omega
theorem split_at {ps : List (List Nat)} {c : Nat} (hne : ps ≠ []) (hc : ∀ p ∈ ps, c ∉ p) : Txt.split (S (jn c ps)) (S [c]) = ps.map S := by
  have h1 := beq_iff_eq.mp (Bool.and_eq_true_iff.mp (split_closes (S (jn c ps)) c)).1
  have h2 := (Bool.and_eq_true_iff.mp (split_closes (S (jn c ps)) c)).2
  rw [show (⟨#[c]⟩ : Str) = S [c] from rfl] at h1 h2
  have h3 := split_pos (S (jn c ps)) (S [c])
  generalize Txt.split (S (jn c ps)) (S [c]) = qs at h1 h2 h3
  obtain ⟨qs', rfl⟩ : ∃ qs' : List (List Nat), qs = qs'.map S := ⟨qs.map u, by rw [List.map_map]; simp [Function.comp_def, S_u]⟩
  rw [join_S, S_inj] at h1
  have hq : ∀ q ∈ qs', c ∉ q := by
    intro q hq hcq
    have h4 := List.all_eq_true.mp h2 (S q) (List.mem_map.mpr ⟨q, hq, rfl⟩)
    have h5 := count_mem hcq
    have e : (S q).cps.toList = q := by simp [S]
    rw [e, show S [c] = (⟨#[c]⟩ : Str) from rfl] at h4
    simp [h5] at h4
  rw [jn_inj (by intro e; subst e; simp at h3) hne hq hc h1]
/-- the attributes of a fresh lexer -/
def lexF (fp : Value) (pb : Addr) (t1 t2 : Tok) : Str → Option Value :=
  st (st (st (st (fun _ => none) (Str.ofString "lineno") (.int 1 t1)) (Str.ofString "instream") fp) (Str.ofString "whitespace") (.str (S [10, 9, 13, 32]) t2)) (Str.ofString "pushback") (.ref pb)
set_option maxHeartbeats 4000000 in
theorem lexI_spec {w : World} {A : Around} {g : Heap} {L : Addr} {m : Str → Option Value} {ν : List (Addr × Obj)} {z s : Shared} {D U : Nat} {Q : Value → Shared → Prop} {E : Value → Shared → Prop} {cn : Str} {cs : Scope} {a : Addr} {ccd : Value} {cl : List (Str × Addr)}
    {fp : Value}
    (G : Gx w g) (X : Ax (D + 2) (U + 12) A (envX cn cs L a ccd cl) g) (C : Cx g L m ν z s) (hke : cs.kind = .function)
    (k : ∀ x dx pb es n t1 t2 s', Cx g L m ((pb, LO [] 0) :: (x, instObj 110 dx) :: (dx, dictOf es n) :: ν) z s' → Attr es (lexF fp pb t1 t2) 4 → Q (.ref x) s') :
    wpAny (MM w) A (call (.ref 110) [fp]) Q E s := by
  refine r_new (fI := 86) (binds := [(Str.ofString "fp", fp)]) G X C hke (by kernel_rfl) (by kernel_rfl) (by kernel_rfl) rfl (by kernel_rfl) (fun _ _ => BindsTo.of_eq rfl) (fun _ => locs rfl) rfl rfl rfl (by decide) ?_
  clear G X C
  intro g' L' A' s x dx G X hg C
  simp only [bm, List.foldl] at C
  repeat walk_at "go"
  with_reducible refine p_setA G C (.nu (by walk_at "mem")) (by walk_at "pt") Attr.nil (by omega) (by kernel_rfl) ?_; intro es n1 s hA C
  repeat walk_at "go"
  with_reducible refine p_setA G C (.nu (by walk_at "mem")) (by walk_at "pt") hA (by omega) (by kernel_rfl) ?_; intro es n1 s hA C
  repeat walk_at "go"
  with_reducible refine p_setA G C (.nu (by walk_at "mem")) (by walk_at "pt") hA (by omega) (by kernel_rfl) ?_; intro es n1 s hA C
  repeat walk_at "go"
  with_reducible refine r_newL C ?_; intro pb s C
  repeat walk_at "go"
  with_reducible refine p_setA G C (.nu (by walk_at "mem")) (by walk_at "pt") hA (by omega) (by kernel_rfl) ?_; intro es n1 s hA C
  repeat walk_at "go"
  refine ⟨rfl, _, _, C, fun C => ?_⟩
  exact k x dx pb es n1 _ _ s C hA
theorem putL_len_same {es : List DictEntry} {x : Str} {hsh : Int} {k v : Value} (h : (es.find? (·.key.isStr x)).isSome = true) : (putL x hsh k v es).length = es.length := by
  induction es with
  | nil => cases h
  | cons e r ih =>
    unfold putL
    by_cases hx : e.key.isStr x = true
    · rw [if_pos hx]; rfl
    · rw [if_neg hx, List.length_cons, List.length_cons, ih]
      have hx' : e.key.isStr x = false := by simpa using hx
      rw [List.find?_cons, hx'] at h
      exact h
theorem Attr.put_same {es : List DictEntry} {f : Str → Option Value} {n : Nat} (h : Attr es f n) (x : Str) (hsh : Int) (t : Tok) (v : Value) {v₀ : Value} (hx : f x = some v₀) : Attr (putL x hsh (.str x t) v es) (st f x v) n := by
  have a := h.put x hsh t v
  refine ⟨a.get, a.str, ?_⟩
  have e := h.get x
  rw [getL_find h.str, hx] at e
  rw [putL_len_same]
  · exact h.len
  · cases hf : es.find? (·.key.isStr x) with
    | some _ => rfl
    | none => rw [hf] at e; cases e
theorem upd_up {dx : Addr} {o o' : Obj} : ∀ (ν : List (Addr × Obj)), (dx, o) ∈ ν → (ν.map (·.1)).Nodup → Upd dx o o' ν (up ν dx o') := by
  intro ν hm hn
  induction ν with
  | nil => exact nomatch hm
  | cons p r ih =>
    rw [List.map_cons, List.nodup_cons] at hn
    by_cases hp : p.1 = dx
    · rcases List.mem_cons.mp hm with e | hm'
      · rw [← e]
        have hnn : dx ∉ r.map (·.1) := hp ▸ hn.1
        rw [up_head hnn]
        exact Upd.head fun q hq e' => hnn (List.mem_map.mpr ⟨q, hq, e'⟩)
      · exact absurd (List.mem_map.mpr ⟨_, hm', rfl⟩) (show dx ∉ r.map (·.1) from hp ▸ hn.1)
    · rw [up_tail hp]
      rcases List.mem_cons.mp hm with e | hm'
      · exact absurd (by rw [← e]) hp
      · exact Upd.tail hp (ih hm' hn.2)
theorem Pt.app {a : Addr} {o : Obj} {r : List (Addr × Obj)} {F : Obj → List (Addr × Obj)} (h : Pt a o r F) : ∀ μ : List (Addr × Obj), Pt a o (μ ++ r) (fun o' => μ ++ F o')
  | [] => h
  | _ :: μ => Pt.tail (h.app μ)
section
variable {w : World} {A : Around} {g : Heap} {L : Addr} {m : Str → Option Value} {ν : List (Addr × Obj)} {z s : Shared} {D U : Nat} {Q : Value → Shared → Prop} {E : Value → Shared → Prop} {env : Env} {F : Obj → List (Addr × Obj)}
theorem p_setA' {x K dx : Addr} {es : List DictEntry} {f : Str → Option Value} {n k : Nat} {name : Str} {v v₀ : Value} {Q : Unit → Shared → Prop} (G : Gx w g) (C : Cx g L m ν z s) (h1 : Kn g ν x (instObj K dx)) (h2 : Pt dx (dictOf es n) ν F) (hf : Attr es f k) (hv : f name = some v₀) (hk : k ≤ 900)
    (ht : takerIn (KF w) K name = some none) (q : ∀ es' n' s', Attr es' (st f name v) k → Cx g L m (F (dictOf es' n')) z s' → Q () s')
    (hs : findIn (KF w) (.ref K) "__setattr__" = some (some (.builtin "object.__setattr__")) := by kernel_rfl) (hp : plainOver (KF w) K = true := by kernel_rfl) (hd : hasDictIn (KF w) K = true := by kernel_rfl) :
    wpAny (MM w) A (setAttr (.ref x) name v) Q E s := by
  refine set_dict C.fr G.kin C.nw (instAt (h1.get C) (C.get h2.mem)) rfl hs hp ht hd (by rw [hf.get]; rfl) rfl (upd_up ν h2.mem C.nd) ?_ (fun h' Fr' N => ?_)
  · have := putL_len es name (PyData.keyHash w.params name) (.str name (s.toks + 1)) v
    have := hf.len
    omega
  · rw [h2.up C.nd] at N
    exact q _ _ _ (hf.put_same _ _ _ _ hv) (C.at Fr' N (by rw [← h2.up C.nd, up_keys]; exact C.nd))
theorem r_truthyL {vs : List Value} {l : Addr} {n : Nat} {Q : Bool → Shared → Prop} (C : Cx g L m ν z s) (hl : Kn g ν l (LO vs n)) (hv : vs.length ≤ 1000000) (k : ∀ s', Cx g L m ν z s' → Q (!vs.isEmpty) s') : wpAny (MM w) A (truthy (.ref l)) Q E s := by
  exact wpAny_truthy_list (items := vs.toArray) ⟨_, hl.get C, rfl, n, rfl⟩ (by rw [List.size_toArray]; omega) (by rw [List.isEmpty_toArray]; exact k _ (C.tk _))
theorem p_pop {vs : List Value} {v : Value} {l : Addr} {n : Nat} (C : Cx g L m ν z s) (hl : Pt l (LO (vs ++ [v]) n) ν F) (hv : vs.length ≤ 1000000) (k : ∀ n' s', Cx g L m (F (LO vs n')) z s' → Q v s') : wpAny (MM w) A (call (.builtin "list.pop") [.ref l]) Q E s := by
  refine Copied.pop_at (y := v) (C.get hl.mem) (by simp) (fun h' hs he => ?_) (by rw [List.size_toArray, sizeLine_eq]; simp; omega)
  rw [show (vs ++ [v]).toArray.pop = vs.toArray from by simp] at he
  have := C.upd (k := s.toks) hl.mem hs he
  rw [hl.up C.nd] at this
  exact k _ _ this
/-- a lambda of the ledger is called -/
theorem r_lam {f c' : Addr} {args : List Value} {binds : List (Str × Value)} {cn : Str} {cs : Scope} {a : Addr} {ccd : Value} {cl : List (Str × Addr)} {name qual : Str} {params : Arguments} {body : Expr} {scope : Scope} {clos : List (Str × Addr)} {pm ctv : Value} {oc : Obj} {cvs : Array Value} {tq : Tok}
    (G : Gx w g) (X : Ax (D + 1) (U + 8) A (envX cn cs L a ccd cl) g) (C : Cx g L m ν z s) (hke : cs.kind = .function)
    (ho : (f, kla_obj name qual params body scope clos pm c' ctv) ∈ ν) (hc : (c', oc) ∈ ν) (hcd : oc.data = .fields cvs) (hcq : cvs[1]? = some (.str qual tq))
    (hbind : bindArgs (kla_fn name qual params body scope clos pm (.ref c') ctv) ⟨args, []⟩ = pure binds)
    (hloc : ∀ y ∈ binds, scope.names.lookup y.1 = some .local)
    (hco : scope.isCoroutine = false) (hgen : scope.isGenerator = false) (hk : scope.kind = .function)
    (hcell : ∀ x ∈ scope.names, x.2 ≠ .cell)
    (h : ∀ g' L' s', Gx w g' → Ax D U (A.deeper (envX qual scope L' f (.ref c') clos)) (envX qual scope L' f (.ref c') clos) g' → (∀ b o, g.get? b = some o → g'.get? b = some o) → Cx g' L' (bm binds) ν z s' →
      wpAny (MM w) (A.deeper (envX qual scope L' f (.ref c') clos)) (eval body (envX qual scope L' f (.ref c') clos))
        (fun v s'' => ∃ m' ν', Cx g' L' m' ν' z s'' ∧ (Cx g L m ν' z s'' → Q v s'')) (fun _ _ => False) s') :
    wpAny (MM w) A (call (.ref f) args) Q E s := by
  obtain ⟨A₀, base, outer, B, hA⟩ := X.below
  obtain ⟨p, lo, mean, mg, mb, T⟩ := G.top
  have hd := X.dep
  have hu := X.un
  refine wpAny_call (kla_code B C.fr G.kin C.nw T hA rfl hke ho ⟨c', oc, cvs, tq, rfl, C.get hc, hcd, hcq⟩ (by omega) hbind hloc (fun g' L' h₁ FG F' N' B' X' T' => ?_) hco hgen hk hcell)
  refine wpAny_mono (h g' L' _ ⟨X', p, lo, mean, mg, mb, T'⟩ ⟨⟨A, base, _, B', ?_⟩, X.hd, ?_, ?_⟩ (fun b o e => FG.keep b o e) (bm_eq binds ▸ C.at F' N' C.nd)) ?_ (fun _ _ h => h.elim)
  · show A.frames.map _ = _
    rw [hA]; rfl
  · show A.depth + 1 + D < _
    omega
  · show A.units + 3 + U < _
    omega
  · rintro v s'' ⟨m', ν', C', k⟩
    refine ⟨L', m', ν', C'.fr, C'.nw, fun F N => ?_⟩
    exact k ⟨F, N, C'.nd, C'.eq⟩
end
theorem own_ci : Manifest.owners.lookup (String.ofList "rotareti_elballac".toList.reverse) = some Manifest.sig_callable_iterator := by kernel_rfl
theorem slot_ci_iter : Slot "callable_iterator" "__iter__" "callable_iterator.__iter__" :=
  .of (owner := "callable_iterator") (n := "__iter__") (by rw [typeLookup_type, builtinLookup_eq_fast]; kernel_rfl) (by decide +kernel) (by decide +kernel) (by decide +kernel) (.inl (by decide +kernel)) (by rw [isSubtype_type]; kernel_rfl)
theorem slot_ci_next : Slot "callable_iterator" "__next__" "callable_iterator.__next__" :=
  .of (owner := "callable_iterator") (n := "__next__") (by rw [typeLookup_type, builtinLookup_eq_fast]; kernel_rfl) (by decide +kernel) (by decide +kernel) (by decide +kernel) (.inl (by decide +kernel)) (by rw [isSubtype_type]; kernel_rfl)
theorem entry_ci_next : entryFor table "callable_iterator.__next__" = some Builtin.«callable_iterator.__next__» := entryFor_of_tree (by kernel_rfl)
theorem entry_ci_iter : entryFor table "callable_iterator.__iter__" = some Builtin.«dict_keyiterator.__iter__» :=
  entryFor_alias (id' := "dict_keyiterator.__iter__") (by kernel_rfl) (by first | rfl | decide +kernel | (unfold String.splitOn; simp +decide [String.splitOnAux])) (by decide +kernel) (by kernel_rfl)
theorem args_ci_iter (a : Value) : argsOk "callable_iterator.__iter__" ⟨[a], []⟩ := by
  unfold argsOk; rw [signature?_of (id := "callable_iterator.__iter__") (n := "__reti__".toList) (o := "rotareti_elballac".toList) (by kernel_rfl) own_ci]; kernel_rfl
theorem args_ci_next (a : Value) : argsOk "callable_iterator.__next__" ⟨[a], []⟩ := by
  unfold argsOk; rw [signature?_of (id := "callable_iterator.__next__") (n := "__txen__".toList) (o := "rotareti_elballac".toList) (by kernel_rfl) own_ci]; kernel_rfl
theorem kind_iter : builtinKind "iter" = none := by decide +kernel
theorem plain_iter : plainId "iter" = true := by decide +kernel
theorem entry_iter : entryFor table "iter" = some Builtin.«iter» := entryFor_of_tree (by kernel_rfl)
theorem args_iter_2 (a b : Value) : argsOk "iter" ⟨[a, b], []⟩ := by unfold argsOk; kernel_rfl
theorem call_of_method : typeLookup (.type "method") "__call__" = pure (some (.builtin "method.__call__")) := by rw [typeLookup_type, builtinLookup_eq_fast]; kernel_rfl
section
variable {w : World} {A : Around} {g : Heap} {L : Addr} {m : Str → Option Value} {ν : List (Addr × Obj)} {z s : Shared} {D U : Nat} {Q : Value → Shared → Prop} {E : Value → Shared → Prop} {env : Env} {F : Obj → List (Addr × Obj)}
theorem Ax.in1 (X : Ax D (U + 1) A env g) : Ax D U A.in1 env g := ⟨X.below, X.hd, X.dep, by have := X.un; show A.units + 1 + U < _; omega⟩
/-- a function entered, as a code -/
theorem r_enterD {f : Addr} {args : List Value} {binds : List (Str × Value)} {cn : Str} {cs : Scope} {a : Addr} {ccd : Value} {cl : List (Str × Addr)} {name qual : Str} {params : Arguments} {body : List Stmt} {scope : Scope} {dV kV doc pm cdv ct oc : Value} {an od : Option Addr} {osl : Array (Option Value)}
    (G : Gx w g) (X : Ax (D + 1) (U + 8) A (envX cn cs L a ccd cl) g) (C : Cx g L m ν z s) (hke : cs.kind = .function)
    (ho : (KF w).lookup f = some ⟨oc, od, .func (fnOf name qual params body scope dV kV doc pm an cdv ct), osl⟩)
    (hcd : codeIn (KF w) cdv qual = true)
    (hbind : BindsTo s (fnOf name qual params body scope dV kV doc pm an cdv ct) ⟨args, []⟩ binds)
    (hloc : ∀ y ∈ binds, scope.names.lookup y.1 = some .local)
    (hco : scope.isCoroutine = false) (hgen : scope.isGenerator = false) (hk : scope.kind = .function)
    (hcell : ∀ x ∈ scope.names, x.2 ≠ .cell)
    (h : ∀ g' L' s', Gx w g' → Ax D U (A.deeper (envX qual scope L' f cdv [])) (envX qual scope L' f cdv []) g' → (∀ b o, g.get? b = some o → g'.get? b = some o) → Cx g' L' (bm binds) ν z s' →
      wpAny (MM w) (A.deeper (envX qual scope L' f cdv [])) (execs body (envX qual scope L' f cdv []))
        (fun fl s'' => ∃ m' ν', Cx g' L' m' ν' z s'' ∧ (Cx g L m ν' z s'' → Q (retv fl) s''))
        (fun _ _ => False) s') :
    codeAny (MM w) A (.call (.ref f) ⟨args, []⟩) (fun r s' => match r with | .ok (.ret v) => Q v s' | .ok _ => False | .error e => E e s') s := by
  obtain ⟨A₀, base, outer, B, hA⟩ := X.below
  obtain ⟨p, lo, mean, mg, mb, T⟩ := G.top
  have hd := X.dep
  have hu := X.un
  refine code_def B C.fr G.kin C.nw T hA rfl hke ho hcd (by omega) hbind hloc (fun g' L' h₁ FG F' N' B' X' T' => ?_) hco hgen hk hcell
  refine wpAny_mono (h g' L' _ ⟨X', p, lo, mean, mg, mb, T'⟩ ⟨⟨A, base, _, B', ?_⟩, X.hd, ?_, ?_⟩ (fun b o e => FG.keep b o e) (bm_eq binds ▸ C.at F' N' C.nd)) ?_ ?_
  · show A.frames.map _ = _
    rw [hA]; rfl
  · show A.depth + 1 + D < _
    omega
  · show A.units + 3 + U < _
    omega
  · rintro fl s'' ⟨m', ν', C', k⟩
    refine ⟨L', m', ν', C'.fr, C'.nw, fun F N => ?_⟩
    have := k ⟨F, N, C'.nd, C'.eq⟩
    cases fl <;> exact this
  · exact fun _ _ h => h.elim
theorem w_borrowed {f : Value} {args : List Value} (hc : codeAny (MM w) A (.call f ⟨args, []⟩) (fun r s' => match r with | .ok (.ret v) => Q v s' | .ok _ => False | .error e => E e s') s) : wpAny (MM w) A (callBorrowed f args) Q E s := fun Γ p hΓ => by
  unfold callBorrowed
  rw [Sem.wp_call]
  have := hc _ p rfl (hΓ.enter (.call f ⟨args, []⟩) none p (by intro x; cases x))
  refine (congrArg (fun R => wpCode (MM w) (Γ.enter (.call f ⟨args, []⟩) none p) R p s) ?_).mp this
  funext r s'
  cases r with
  | error e => rfl
  | ok fl => cases fl <;> first | rfl | (show _ = Sem.wp _ _ (.unsupported _) _ _ _ _; simp)
theorem r_bound {x K dx fA : Addr} {es : List DictEntry} {f : Str → Option Value} {n k : Nat} {name : Str} {ex : Bool} (G : Gx w g) (C : Cx g L m ν z s) (h1 : Kn g ν x (instObj K dx)) (h2 : Kn g ν dx (dictOf es n)) (hf : Attr es f k) (hv : f name = none)
    (ha : findIn (KF w) (.ref K) name = some (some (.ref fA))) (ht : isFn (KF w) (.ref fA) = true) (q : ∀ q s', Cx g L m ((q, methodObj (.ref fA) (.ref x)) :: ν) z s' → Q (.ref q) s')
    (hc : copiedNames.contains name = false := by decide +kernel) (hg : plainGet (KF w) K name = true := by kernel_rfl) (hd : hasDictIn (KF w) K = true := by kernel_rfl) (hgf : specialIn (KF w) (.ref fA) "__get__" = some (some (.builtin "function.__get__")) := by kernel_rfl) (htk : takesIn (KF w) (.ref fA) = some false := by kernel_rfl) :
    wpAny (MM w) A (getAttr (.ref x) name ex) Q E s := by
  refine kbm_bound C.fr G.kin C.nw (instAt (h1.get C) (h2.get C)) hg hd ha ht hgf htk hc (by rw [hf.get, hv]) (fun q' h' F' N' l => q q' _ (C.at F' N' ?_))
  rw [List.map_cons, List.nodup_cons]
  refine ⟨fun hx => ?_, C.nd⟩
  obtain ⟨p, hp, e⟩ := List.mem_map.mp hx
  exact Nat.lt_irrefl _ (e ▸ l p hp)
/-- an iterator that calls -/
abbrev CI (f v : Value) (b : Bool) : Obj := { cls := .type "callable_iterator", data := .fields #[f, v, .bool b] }
theorem r_iter2 {q : Addr} {fn self v : Value} (C : Cx g L m ν z s) (hq : Kn g ν q (methodObj fn self)) (k : ∀ I s', Cx g L m ((I, CI (.ref q) v false) :: ν) z s' → Q (.ref I) s') : wpAny (MM w) A (call (.builtin "iter") [.ref q, v]) Q E s := by
  refine Calls.call_function_entry kind_iter plain_iter entry_iter (args_iter_2 _ _) ?_
  unfold Builtin.«iter»
  refine wpAny_bind (wpAny_of_eq (a := [.ref q, v]) (by first | rfl | kernel_rfl) ?_)
  dsimp only
  refine wpAny_bind (wpAny_specialOf (T := "method") ⟨_, hq.get C, rfl⟩ call_of_method ?_)
  refine wpAny_bind (wpAny_rule ?_)
  refine wpAny_bind (wpAny_newObj_type (wpAny_pure ⟨_, rfl, k _ _ (C.push _ rfl _)⟩))
theorem r_iterCI {I : Addr} {f v : Value} {b : Bool} (C : Cx g L m ν z s) (hI : Kn g ν I (CI f v b)) (k : Q (.ref I) s) : wpAny (MM w) A (pyIter (.ref I)) Q E s := by
  have hT : s.TypeIs (.ref I) "callable_iterator" := ⟨_, hI.get C, rfl⟩
  refine wpAny_pyIter_slot hT slot_ci_iter (wpAny_call_entry slot_ci_iter hT entry_ci_iter ?_ (args_ci_iter _))
  show wpAny _ _ (ret (.ref I)) _ _ s
  exact wpAny_pure ⟨_, rfl, "callable_iterator", _, hT, slot_ci_next.lookup, k⟩
theorem w_borrows {q fA : Addr} {x : Value} {o : Obj} {fd : FuncData} {Q : Bool → Shared → Prop} (hq : s.heap.get? q = some (methodObj (.ref fA) x)) (hf : s.heap.get? fA = some o) (hd : o.data = .func fd) (h : Q true s) : wpAny (MM w) A (borrowsExactly (.ref q)) Q E s := by
  unfold borrowsExactly
  refine wpAny_bind (wpAny_load hq ?_)
  show wpAny _ _ (load fA >>= _) _ _ s
  refine wpAny_bind (wpAny_load hf ?_)
  rw [hd]
  exact wpAny_pure h
theorem r_nextCI {I q fA : Addr} {x : Value} {t : Tok} {o : Obj} {fd : FuncData} {Q : Option Value → Shared → Prop}
    (hh : A.handled = none) (G : Gx w g) (C : Cx g L m ν z s) (hI : Kn g ν I (CI (.ref q) (.str (S []) t) false)) (hq : Kn g ν q (methodObj (.ref fA) x)) (ho : (KF w).lookup fA = some o) (hd : o.data = .func fd)
    (h : codeAny (MM w) A.in1 (.call (.ref fA) ⟨[x], []⟩) (fun r s' => match r with
      | .ok (.ret v) => ∃ c t' ν', v = .str (S c) t' ∧ Cx g L m ((I, CI (.ref q) (.str (S []) t) false) :: ν') z s' ∧ Kn g ν' q (methodObj (.ref fA) x) ∧ (c = [] → ∀ s'', Cx g L m ν' z s'' → Q none s'') ∧ (c ≠ [] → Q (some v) s')
      | .ok _ => False | .error e => False) s) :
    wpAny (MM w) A (pyNext (.ref I)) Q E s := by
  have hI' := hI.get C
  have hT : s.TypeIs (.ref I) "callable_iterator" := ⟨_, hI', rfl⟩
  unfold pyNext
  refine wpAny_bind (wpAny_attempt (wpAny_callSpecial?_slot (name := Str.ofString "__next__") hT slot_ci_next (wpAny_call_entry slot_ci_next hT entry_ci_next ?_ (args_ci_next _))))
  show wpAny _ _ (field (.ref I) 2 >>= _) _ _ s
  refine wpAny_bind (wpAny_field hI' rfl (x := .bool false) rfl ?_)
  rw [if_neg (by decide)]
  show wpAny _ _ (field (.ref I) 0 >>= _) _ _ s
  refine wpAny_bind (wpAny_field hI' rfl (x := .ref q) rfl ?_)
  refine wpAny_bind (wpAny_attempt ?_)
  unfold callOutOfASlot
  refine wpAny_bind (w_borrows (hq.get C) (kin_now G C _ _ ho) hd ?_)
  rw [if_pos rfl]
  refine w_borrowed (method_call (hq.get C) ?_)
  refine codeAny_mono h (fun r s' h' => ?_)
  cases r with
  | error e => exact h'.elim
  | ok fl =>
    cases fl with
    | ret v =>
      obtain ⟨c, t', ν', rfl, C', hq', k1, k2⟩ := h'
      have hI2 := C'.get (List.Mem.head _)
      dsimp only
      refine wpAny_bind (wpAny_field hI2 rfl (x := .bool false) rfl ?_)
      rw [if_neg (by decide)]
      refine wpAny_bind (wpAny_field hI2 rfl (x := .str (S []) t) rfl ?_)
      refine wpAny_bind (wpAny_holding (eqBool_str ?_))
      by_cases hc : c = []
      · subst hc
        have e : (S [] == S []) = true := by rw [S_beq]; rfl
        rw [e, if_neg (by decide)]
        refine wpAny_bind (wpAny_rule ?_)
        refine wpAny_bind ?_
        show wpAny _ _ (field (.ref I) 0 >>= _) _ _ s'
        refine wpAny_bind (wpAny_field hI2 rfl (x := .ref q) rfl ?_)
        refine wpAny_bind ?_
        show wpAny _ _ (borrowsExactly (.ref q) >>= _) _ _ s'
        refine wpAny_bind (w_borrows (hq'.get C'.tail) (kin_now G C' _ _ ho) hd ?_)
        rw [if_pos rfl]
        refine wpAny_pure ?_
        refine wpAny_bind (wpAny_setField_rec hI2 (by simp) fun h₁ he₁ hs₁ => ?_)
        refine wpAny_bind (wpAny_setField_rec he₁ (by simp) fun h₂ he₂ hs₂ => ?_)
        refine wpAny_setField_rec he₂ (by simp) fun h₃ he₃ hs₃ => ?_
        have C3 := C'.off (k := s'.toks) (fun b ob hb e => hs₃.extBut b ob hb (hs₂.extBut b ob hb (hs₁.extBut b ob hb e)))
        dsimp only at C3 ⊢
        have fin := fun (o1 o2 : Obj) (f1 : o1.isFreed = false) (f2 : o2.isFreed = false) => ((C3.push o1 f1 s'.toks).tail.push o2 f2 s'.toks).tail
        dsimp only at fin
        show wpAny _ _ (newExc (.type "StopIteration") [] >>= _) _ _ _
        refine wpAny_bind ?_
        simp only [newExc, newTuple]
        refine wpAny_bind (wpAny_newObj_type ?_ (by size_fits))
        refine wpAny_bind (m := firstArgMember _ _) (wpAny_of_eq (a := Value.none) (by first | rfl | (simp only [firstArgMember]; rfl)) ?_)
        refine wpAny_newObj_type ?_ (by size_fits)
        simp only [raiseNew]
        refine wpAny_bind (wpAny_handled ?_)
        rw [show A.in1.handled = none from hh]
        refine wpAny_bind (wpAny_pure (wpAny_throw ?_))
        refine wpAny_bind (wpAny_isInstance (T := "StopIteration") (b := true) ⟨_, Heap.get?_push_size _ rfl, rfl⟩ isSubtype_stop ?_)
        exact wpAny_pure (k1 rfl _ (fin _ _ rfl rfl))
      · have e : (S [] == S c) = false := by rw [S_beq]; exact decide_eq_false (fun q => hc q.symm)
        rw [e, if_pos (by decide)]
        exact wpAny_pure ⟨_, rfl, wpAny_pure (k2 hc)⟩
    | _ => exact h'.elim
end
section
variable {w : World} {A : Around} {g : Heap} {L : Addr} {m : Str → Option Value} {ν : List (Addr × Obj)} {z s : Shared} {D U : Nat} {Q : Value → Shared → Prop} {E : Value → Shared → Prop} {env : Env} {F : Obj → List (Addr × Obj)}
theorem c_isVal {e : Expr} {whole : Sem Value} {Q : Bool → Shared → Prop} (h : wpAny (MM w) A whole (fun v s₁ => wpAny (MM w) A (truthy v) Q E s₁) E s) (he : isTrue e env whole = (do let v ← whole; standAt e.pos; holding [v] (truthy v)) := by kernel_rfl) : wpAny (MM w) A (isTrue e env whole) Q E s := wpAny_isTrue_value h he
theorem r_methL {vs : List Value} {l : Addr} {n : Nat} {name : Str} {id : String} {pl : Sem Bool} {Q : Value × List Value → Shared → Prop} (C : Cx g L m ν z s) (hl : Kn g ν l (LO vs n)) (slot : Slot "list" name id) (hty : typeOf (.builtin id) = pure (.type "method_descriptor")) (h : Q (.builtin id, [.ref l]) s) : wpAny (MM w) A (getMethod (.ref l) name pl) Q E s := by
  have hg := hl.get C
  exact getMethod_builtin ⟨_, hg, rfl⟩ PySem.F.plainAttrs_list slot hty (fun a e => by cases e; exact ⟨_, hg, rfl⟩) h
theorem m_pop {vs : List Value} {l : Addr} {n : Nat} {pl : Sem Bool} {Q : Value × List Value → Shared → Prop} (C : Cx g L m ν z s) (hl : Kn g ν l (LO vs n)) (h : Q (.builtin "list.pop", [.ref l]) s) : wpAny (MM w) A (getMethod (.ref l) (Str.ofString "pop") pl) Q E s := r_methL C hl PySem.F.slot_list_pop PySem.F.type_list_pop h
theorem m_append {vs : List Value} {l : Addr} {n : Nat} {pl : Sem Bool} {Q : Value × List Value → Shared → Prop} (C : Cx g L m ν z s) (hl : Kn g ν l (LO vs n)) (h : Q (.builtin "list.append", [.ref l]) s) : wpAny (MM w) A (getMethod (.ref l) (Str.ofString "append") pl) Q E s := r_methL C hl PySem.F.slot_list_append PySem.F.type_list_append h
theorem m_extend {vs : List Value} {l : Addr} {n : Nat} {pl : Sem Bool} {Q : Value × List Value → Shared → Prop} (C : Cx g L m ν z s) (hl : Kn g ν l (LO vs n)) (h : Q (.builtin "list.extend", [.ref l]) s) : wpAny (MM w) A (getMethod (.ref l) (Str.ofString "extend") pl) Q E s := r_methL C hl PySem.F.slot_list_extend PySem.F.type_list_extend h
theorem r_methOwn {x K dx : Addr} {es : List DictEntry} {f : Str → Option Value} {n k : Nat} {name : Str} {v : Value} {pl : Sem Bool} {Q : Value × List Value → Shared → Prop} (G : Gx w g) (C : Cx g L m ν z s) (h1 : Kn g ν x (instObj K dx)) (h2 : Kn g ν dx (dictOf es n)) (hf : Attr es f k) (hv : f name = some v)
    (hh : handedIn v = true) (q : ∀ s', Cx g L m ν z s' → Q (v, []) s') (ha : findIn (KF w) (.ref K) name = some none := by kernel_rfl) (hn : noGet (KF w) none = true := by kernel_rfl) (hg : plainGet (KF w) K name = true := by kernel_rfl) (hd : hasDictIn (KF w) K = true := by kernel_rfl) :
    wpAny (MM w) A (getMethod (.ref x) name pl) Q E s := kmu_own C.fr G.kin (instAt (h1.get C) (h2.get C)) hg ha (r_getA0 G C h1 h2 hf hv hh q ha hn hg hd)
theorem c_callF {pos : Pos} {q : Addr} {fst : List Value} {e : Expr} {rest : List Expr} (X : FnAt q s.heap) (h : wpAny (MM w) A (spliced (backTo pos (starEach (e :: rest) env))) (fun vs s₁ => FnAt q s₁.heap ∧ wpAny (MM w) A (call (.ref q) (fst ++ vs)) Q E s₁) E s)
    (he : starEach (e :: rest) env = (false, eval e env) :: starEach rest env := by kernel_rfl) (hplain : (backTo pos (starEach rest env)).any (·.1) = false := by kernel_rfl) :
    wpAny (MM w) A (callWith pos (.ref q) fst (backTo pos (starEach (e :: rest) env)) []) Q E s := callWith_F X h he hplain
theorem c_method0 {pos : Pos} {id : String} {fst : List Value} (h : wpAny (MM w) A (call (.builtin id) fst) Q E s) :
    wpAny (MM w) A (callWith pos (.builtin id) fst (backTo pos (starEach [] env)) []) Q E s := callWith_method0 h
theorem c_augA {o value : Expr} {attr : Str} {tpos pos : Pos} {op : Operator} {Q : Flow → Shared → Prop}
    (h : wpAny (MM w) A (eval o env) (fun ov s₁ => wpAny (MM w) A (getAttr ov attr true) (fun old s₂ => wpAny (MM w) A (eval value env) (fun v s₃ => wpAny (MM w) A (inplaceOp op old v) (fun new s₄ => wpAny (MM w) A (setAttr ov attr new) (fun _ => Q .next) E s₄) E s₃) E s₂) E s₁) E s) :
    wpAny (MM w) A (exec (.AugAssign (.Attribute o attr tpos) op value pos) env) Q E s := wpAny_AugAssign_AttributeAny h
theorem c_augN {x : Str} {cn : Str} {cs : Scope} {a : Addr} {ccd : Value} {cl : List (Str × Addr)} {pos' : Pos} {op : Operator} {value : Expr} {pos : Pos} {v₀ : Value} {Q : Flow → Shared → Prop} (C : Cx g L m ν z s) (hv : m x = some v₀)
    (h : wpAny (MM w) A (eval value (envX cn cs L a ccd cl)) (fun v s₂ => wpAny (MM w) A (inplaceOp op v₀ v) (fun r s₃ => wpAny (MM w) A (storeName (envX cn cs L a ccd cl) x r) (fun _ => Q .next) E s₃) E s₂) E s) (hk : cs.kind = .function := by kernel_rfl) (hx : (envX cn cs L a ccd cl).kindOf x = some .local := by kernel_rfl) :
    wpAny (MM w) A (exec (.AugAssign (.Name x pos') op value pos) (envX cn cs L a ccd cl)) Q E s := wpAny_AugAssign_Name (wpAny_loadName_local hk hx C.fr.ns hv h)
theorem r_free {x : Str} {pos : Pos} {c : Addr} {o : Obj} {v : Value} {cn : Str} {cs : Scope} {a : Addr} {ccd : Value} {cl : List (Str × Addr)} (C : Cx g L m ν z s) (hc : cl.lookup x = some c) (hm : (c, o) ∈ ν) (hd : o.data = .cell (some v)) (h : Q v s)
    (hk : cs.kind = .function := by kernel_rfl) (hx : (envX cn cs L a ccd cl).kindOf x = some .free := by kernel_rfl) (hb : (x == ("__debug__" : Str)) = false := by kernel_rfl) (hn : (x == ("__classdict__" : Str)) = false := by kernel_rfl) :
    wpAny (MM w) A (eval (.Name x pos) (envX cn cs L a ccd cl)) Q E s := nameX_F C.nw hc hm hd h hk hx hb hn
end
/-- the lambda of the reader, as the program has it -/
noncomputable def lamOf (w : World) : Option (Arguments × Expr × Scope) :=
  match (KF w).lookup 187 with
  | some o => match o.data with
    | .func fd => match fd.body with
      | .stmts ss => match ss with
        | [_, _, .Assign _ (.Lambda p b sc _) _, _] => some (p, b, sc)
        | _ => none
      | _ => none
    | _ => none
  | none => none
/-- what of a lexer stays -/
structure LexC (w : World) (ν0 : List (Addr × Obj)) (x dx src tl pb : Addr) : Prop where
  inst : (x, instObj 110 dx) ∈ ν0
  src : ∃ ds es n fs k f, (src, instObj 110 ds) ∈ ν0 ∧ (ds, dictOf es n) ∈ ν0 ∧ Attr es fs k ∧ fs (Str.ofString "read") = some (.ref f) ∧
    ∃ c oc cvs tq cc ocell params body scope pm ctv name qual, lamOf w = some (params, body, scope) ∧ (f, kla_obj name qual params body scope [(Str.ofString "tape", cc)] pm c ctv) ∈ ν0 ∧ (c, oc) ∈ ν0 ∧ oc.data = .fields cvs ∧ cvs[1]? = some (.str qual tq) ∧ (cc, ocell) ∈ ν0 ∧ ocell.data = .cell (some (.ref tl))
  pbk : (pb, LO [] 0) ∈ ν0
/-- what of a lexer moves -/
def LexL (N : Int) (dx src tl pb : Addr) (ν0 μ : List (Addr × Obj)) (tape : List Nat) (ν : List (Addr × Obj)) : Prop :=
  ∃ es n fl vs k ln t1 t2, ν = μ ++ (dx, dictOf es n) :: (tl, LO vs k) :: ν0 ∧ Attr es fl 8 ∧ fl (Str.ofString "lineno") = some (.int ln t1) ∧ fl (Str.ofString "instream") = some (.ref src) ∧ fl (Str.ofString "whitespace") = some (.str (S [10, 9, 13, 32]) t2) ∧
    fl (Str.ofString "pushback") = some (.ref pb) ∧ fl (Str.ofString "_read_char") = none ∧ fl (Str.ofString "get_token") = none ∧ StrsAre vs (tape.reverse.map fun c => S [c]) ∧ ln + (tape.count 10 : Nat) = N ∧ tape.length ≤ 100000
theorem strs_app {vs : List Value} {a b : List Str} (h : StrsAre vs (a ++ b)) : ∃ us ts, vs = us ++ ts ∧ StrsAre us a ∧ StrsAre ts b := by
  induction a generalizing vs with
  | nil => exact ⟨[], vs, rfl, .nil, h⟩
  | cons y a ih =>
    cases h with
    | cons _ t h' =>
      obtain ⟨us, ts, rfl, h1, h2⟩ := ih h'
      exact ⟨_ :: us, ts, rfl, .cons y t h1, h2⟩
theorem fnAt_of {g : Heap} {L : Addr} {m : Str → Option Value} {ν : List (Addr × Obj)} {z s : Shared} {f : Addr} {o : Obj} {fd : FuncData} (C : Cx g L m ν z s) (hf : (f, o) ∈ ν) (hd : o.data = .func fd) : FnAt f s.heap := by
  obtain ⟨oc, od, dt, sl⟩ := o
  cases hd
  exact ⟨_, _, _, _, C.get hf⟩
set_option maxHeartbeats 4000000 in
theorem read_spec {w : World} {A : Around} {g : Heap} {L : Addr} {m : Str → Option Value} {ν : List (Addr × Obj)} {z s : Shared} {D U : Nat} {Q : Value → Shared → Prop} {E : Value → Shared → Prop} {cn : Str} {cs : Scope} {a : Addr} {ccd : Value} {cl : List (Str × Addr)}
    {N : Int} {x dx src tl pb : Addr} {ν0 μ : List (Addr × Obj)} {tape : List Nat}
    (G : Gx w g) (X : Ax (D + 2) (U + 16) A (envX cn cs L a ccd cl) g) (C : Cx g L m ν z s) (hke : cs.kind = .function) (H : LexC w ν0 x dx src tl pb) (hL : LexL N dx src tl pb ν0 μ tape ν)
    (k : ∀ t ν' s', Cx g L m ν' z s' → LexL N dx src tl pb ν0 μ (tape.drop 1) ν' → Q (.str (S (tape.take 1)) t) s') :
    codeAny (MM w) A (.call (.ref 93) ⟨[.ref x], []⟩) (fun r s' => match r with | .ok (.ret v) => Q v s' | .ok _ => False | .error e => E e s') s := by
  refine r_enterD (D := D + 1) (U := U + 8) (binds := [(Str.ofString "self", .ref x)]) G X C hke rfl (by kernel_rfl) (BindsTo.of_eq rfl) (locs rfl) rfl rfl rfl (by decide) ?_
  clear G X C
  intro g' L' s G X hg C
  simp only [bm, List.foldl] at C
  obtain ⟨es, n, fl, vs, kk, ln, t1, t2, hν, hA, e1, e2, e3, e4, e5, e6, hvs, hN, hlen⟩ := hL
  rw [hν] at C
  have sub : ∀ p ∈ ν0, p ∈ μ ++ (dx, dictOf es n) :: (tl, LO vs kk) :: ν0 := fun p hp => List.mem_append_right _ (.tail _ (.tail _ hp))
  have mdx : (dx, dictOf es n) ∈ μ ++ (dx, dictOf es n) :: (tl, LO vs kk) :: ν0 := List.mem_append_right _ (.head _)
  have mtl : (tl, LO vs kk) ∈ μ ++ (dx, dictOf es n) :: (tl, LO vs kk) :: ν0 := List.mem_append_right _ (.tail _ (.head _))
  obtain ⟨ds, ess, ns, fs, ks, f, hs1, hs2, hs3, hs4, c, oc, cvs, tq, cc, ocell, params, body, scope, pm, ctv, name, qual, hlam, hf, hc, hcd, hcq, hcc, hcell⟩ := H.src
  have hl2 : lamOf w = some (_, _, _) := rfl
  rw [hl2] at hlam
  cases hlam
  clear hl2
  repeat walk_at "go"
  with_reducible refine r_getA0 G C (.nu (sub _ H.inst)) (.nu mdx) hA e2 rfl ?_; intro s C
  with_reducible refine r_methOwn G C (.nu (sub _ hs1)) (.nu (sub _ hs2)) hs3 hs4 rfl ?_; intro s C
  with_reducible refine c_callF (fnAt_of C (sub _ hf) rfl) ?_
  repeat walk_at "go"
  refine ⟨fnAt_of C (sub _ hf) rfl, ?_⟩
  simp only [List.nil_append]
  have mcc := sub _ hcc
  cases tape with
  | nil =>
    cases hvs
    refine r_lam (D := D) (U := U) (binds := [(Str.ofString "count", _)]) G X C rfl (sub _ hf) (sub _ hc) hcd hcq rfl (locs rfl) rfl rfl rfl (by decide) ?_
    intro g2 L2 s G2 X2 hg2 C
    simp only [bm, List.foldl] at C
    repeat walk_at "go"
    with_reducible refine r_free C (by kernel_rfl) mcc hcell ?_
    with_reducible refine r_truthyL C (.nu mtl) (by simp) ?_; intro s C
    refine ite_f rfl ?_
    repeat walk_at "go"
    refine ⟨_, _, C, fun C => ?_⟩
    repeat walk_at "go"
    refine ite_f (by decide) ?_
    repeat walk_at "go"
    refine ⟨_, _, C, fun C => ?_⟩
    exact k _ _ _ C ⟨es, n, fl, [], kk, ln, t1, t2, rfl, hA, e1, e2, e3, e4, e5, e6, .nil, hN, by simp⟩
  | cons ch r =>
    rw [List.reverse_cons, List.map_append] at hvs
    obtain ⟨us, ts, rfl, hus, hts⟩ := strs_app hvs
    simp only [List.map_cons, List.map_nil] at hts
    cases hts with
    | cons _ tc h0 =>
    cases h0
    have hul : us.length = r.length := by have := hus.length; simpa using this
    simp only [List.length_cons] at hlen
    refine r_lam (D := D) (U := U) (binds := [(Str.ofString "count", _)]) G X C rfl (sub _ hf) (sub _ hc) hcd hcq rfl (locs rfl) rfl rfl rfl (by decide) ?_
    intro g2 L2 s G2 X2 hg2 C
    simp only [bm, List.foldl] at C
    repeat walk_at "go"
    with_reducible refine r_free C (by kernel_rfl) mcc hcell ?_
    with_reducible refine r_truthyL C (.nu mtl) (by simp; omega) ?_; intro s C
    refine ite_t (by simp) ?_
    repeat walk_at "go"
    with_reducible refine r_free C (by kernel_rfl) mcc hcell ?_
    with_reducible refine m_pop C (.nu mtl) ?_
    repeat walk_at "go"
    with_reducible refine p_pop C ((Pt.tail Pt.head).app μ) (by omega) ?_; intro n2 s C
    refine ⟨_, _, C, fun C => ?_⟩
    have mdx2 : (dx, dictOf es n) ∈ μ ++ (dx, dictOf es n) :: (tl, LO us n2) :: ν0 := List.mem_append_right _ (.head _)
    have sub2 : ∀ p ∈ ν0, p ∈ μ ++ (dx, dictOf es n) :: (tl, LO us n2) :: ν0 := fun p hp => List.mem_append_right _ (.tail _ (.tail _ hp))
    repeat walk_at "go"
    refine ite_b (fun hb => ?_) (fun hb => ?_)
    · have hb' : ch = 10 := by simpa using hb
      repeat walk_at "go"
      with_reducible refine r_getA0 G C (.nu (sub2 _ H.inst)) (.nu mdx2) hA e1 rfl ?_; intro s C
      repeat walk_at "go"
      with_reducible refine p_setA' G C (.nu (sub2 _ H.inst)) (Pt.head.app μ) hA e1 (by omega) (by kernel_rfl) ?_; intro es2 n3 s hA2 C
      repeat walk_at "go"
      refine ⟨_, _, C, fun C => ?_⟩
      refine k _ _ _ C ⟨es2, n3, _, us, n2, ln + 1, _, t2, rfl, hA2, by walk_at "lk", by walk_at "lk", by walk_at "lk", by walk_at "lk", by walk_at "lk", by walk_at "lk", hus, ?_, by simp only [List.drop_succ_cons, List.drop_zero]; omega⟩
      simp only [List.drop_succ_cons, List.drop_zero]
      rw [hb', List.count_cons_self] at hN
      omega
    · have hb' : ch ≠ 10 := by simpa using hb
      repeat walk_at "go"
      refine ⟨_, _, C, fun C => ?_⟩
      refine k _ _ _ C ⟨es, n, fl, us, n2, ln, t1, t2, rfl, hA, e1, e2, e3, e4, e5, e6, hus, ?_, by simp only [List.drop_succ_cons, List.drop_zero]; omega⟩
      simp only [List.drop_succ_cons, List.drop_zero]
      rw [List.count_cons_of_ne (by simpa using hb')] at hN
      exact hN
theorem LexL.wrap {N : Int} {dx src tl pb : Addr} {ν0 μ : List (Addr × Obj)} {tape : List Nat} {ν : List (Addr × Obj)} (p : Addr × Obj) (h : LexL N dx src tl pb ν0 μ tape ν) : LexL N dx src tl pb ν0 (p :: μ) tape (p :: ν) := by
  obtain ⟨es, n, fl, vs, k, ln, t1, t2, rfl, r⟩ := h
  exact ⟨es, n, fl, vs, k, ln, t1, t2, rfl, r⟩
theorem LexL.peel {N : Int} {dx src tl pb : Addr} {ν0 μ : List (Addr × Obj)} {tape : List Nat} {ν : List (Addr × Obj)} {p : Addr × Obj} (h : LexL N dx src tl pb ν0 (p :: μ) tape ν) : ∃ ν', ν = p :: ν' ∧ LexL N dx src tl pb ν0 μ tape ν' := by
  obtain ⟨es, n, fl, vs, k, ln, t1, t2, rfl, r⟩ := h
  exact ⟨_, rfl, es, n, fl, vs, k, ln, t1, t2, rfl, r⟩
section
variable {w : World} {A : Around} {g : Heap} {L : Addr} {m : Str → Option Value} {ν : List (Addr × Obj)} {z s : Shared} {D U : Nat} {cn : Str} {cs : Scope} {a : Addr} {ccd : Value} {cl : List (Str × Addr)}
  {N : Int} {xx dx src tl pb : Addr} {ν0 μ : List (Addr × Obj)} {tape : List Nat}
theorem r_nextLx {I q : Addr} {t : Tok} {E : Value → Shared → Prop} {Q : Option Value → Shared → Prop} (G : Gx w g) (X : Ax (D + 2) (U + 17) A (envX cn cs L a ccd cl) g) (hke : cs.kind = .function) (H : LexC w ν0 xx dx src tl pb)
    (C : Cx g L m ν z s) (hL : LexL N dx src tl pb ν0 ((I, CI (.ref q) (.str (S []) t) false) :: (q, methodObj (.ref 93) (.ref xx)) :: μ) tape ν)
    (k0 : tape = [] → ∀ ν s', Cx g L m ν z s' → LexL N dx src tl pb ν0 ((q, methodObj (.ref 93) (.ref xx)) :: μ) [] ν → Q none s')
    (k1 : ∀ c r tc ν s', tape = c :: r → Cx g L m ν z s' → LexL N dx src tl pb ν0 ((I, CI (.ref q) (.str (S []) t) false) :: (q, methodObj (.ref 93) (.ref xx)) :: μ) r ν → Q (some (.str (S [c]) tc)) s') :
    wpAny (MM w) A (pyNext (.ref I)) Q E s := by
  obtain ⟨ν1, rfl, hL1⟩ := hL.peel
  obtain ⟨ν2, rfl, hL2⟩ := hL1.peel
  refine r_nextCI X.hd G C (.nu (.head _)) (.nu (.tail _ (.head _))) (fA := 93) rfl rfl ?_
  refine codeAny_mono (read_spec (E := fun _ _ => False) (Q := fun v s' => ∃ c t' ν', v = .str (S c) t' ∧ Cx g L m ((I, CI (.ref q) (.str (S []) t) false) :: ν') z s' ∧ Kn g ν' q (methodObj (.ref 93) (.ref xx)) ∧ (c = [] → ∀ s'', Cx g L m ν' z s'' → Q none s'') ∧ (c ≠ [] → Q (some v) s')) G X.in1 C hke H hL (fun tc ν' s' C' hL' => ?_)) (fun r s' h => ?_)
  · obtain ⟨ν1, rfl, hL1'⟩ := hL'.peel
    refine ⟨_, _, ν1, rfl, C', ?_, fun hc s'' C'' => ?_, fun hc => ?_⟩
    · obtain ⟨ν2, rfl, _⟩ := hL1'.peel
      exact .nu (.head _)
    · cases tape with
      | nil => exact k0 rfl _ _ C'' hL1'
      | cons c r => simp at hc
    · cases tape with
      | nil => exact absurd rfl hc
      | cons c r => exact k1 c r tc _ _ rfl C' hL'
  · cases r with
    | error e => exact h
    | ok f => cases f <;> exact h
/-- a for loop over the reader -/
theorem r_forCI {x : Str} {px : Pos} {body : List Stmt} {I q : Addr} {t : Tok} {R : Result → Shared → Prop}
    (G : Gx w g) (X : Ax (D + 2) (U + 17) A (envX cn cs L a ccd cl) g) (hke : cs.kind = .function) (H : LexC w ν0 xx dx src tl pb)
    (C : Cx g L m ν z s) (hL : LexL N dx src tl pb ν0 ((I, CI (.ref q) (.str (S []) t) false) :: (q, methodObj (.ref 93) (.ref xx)) :: μ) tape ν)
    (J : List Nat → (Str → Option Value) → Prop) (h0 : J tape m)
    (turn : ∀ c r m tc ν s, J (c :: r) m → Cx g L (st m x (.str (S [c]) tc)) ν z s → LexL N dx src tl pb ν0 ((I, CI (.ref q) (.str (S []) t) false) :: (q, methodObj (.ref 93) (.ref xx)) :: μ) r ν →
      wpAny (MM w) A (execs body (envX cn cs L a ccd cl)) (fun f s₂ => match f with
        | .next | .cont => ∃ tape' m' ν', tape'.length ≤ r.length ∧ Cx g L m' ν' z s₂ ∧ LexL N dx src tl pb ν0 ((I, CI (.ref q) (.str (S []) t) false) :: (q, methodObj (.ref 93) (.ref xx)) :: μ) tape' ν' ∧ J tape' m'
        | .brk => R (.ok .next) s₂ | .ret v => R (.ok (.ret v)) s₂) (fun _ _ => False) s)
    (done : ∀ m ν s, J [] m → Cx g L m ν z s → LexL N dx src tl pb ν0 ((q, methodObj (.ref 93) (.ref xx)) :: μ) [] ν → R (.ok .next) s)
    (hx : cs.names.lookup x = some .local := by decide +kernel) :
    codeAny (MM w) A (.forLoop (.Name x px) (.ref I) body [] (envX cn cs L a ccd cl)) R s := by
  refine codeAny_forLoop (fun k s => ∃ tape m ν, k = tape.length ∧ Cx g L m ν z s ∧ LexL N dx src tl pb ν0 ((I, CI (.ref q) (.str (S []) t) false) :: (q, methodObj (.ref 93) (.ref xx)) :: μ) tape ν ∧ J tape m) ?_ tape.length ⟨tape, m, ν, rfl, C, hL, h0⟩
  rintro k s ⟨tape, m, ν, rfl, C, hL, hJ⟩
  refine r_nextLx G X hke H C hL (fun ht ν s' C' hL' => ?_) (fun c r tc ν s' ht C' hL' => ?_)
  · subst ht
    exact wpAny_execs_nil (done m ν _ hJ C' hL')
  · subst ht
    refine c_assignN (r_store C' (fun s₁ C₁ => ?_) hke hx)
    refine wpAny_mono (turn c r m tc ν s₁ hJ C₁ hL') (fun f s₂ h₂ => ?_) fun _ _ h => h.elim
    have fin : (∃ tape' m' ν', tape'.length ≤ r.length ∧ Cx g L m' ν' z s₂ ∧ LexL N dx src tl pb ν0 ((I, CI (.ref q) (.str (S []) t) false) :: (q, methodObj (.ref 93) (.ref xx)) :: μ) tape' ν' ∧ J tape' m') → ∃ k', k' < (c :: r).length ∧ ∃ tape m ν, k' = tape.length ∧ Cx g L m ν z s₂ ∧ LexL N dx src tl pb ν0 ((I, CI (.ref q) (.str (S []) t) false) :: (q, methodObj (.ref 93) (.ref xx)) :: μ) tape ν ∧ J tape m := by
      rintro ⟨tape', m', ν', hl, C₂, hL₂, hJ'⟩
      exact ⟨tape'.length, by simp; omega, tape', m', ν', rfl, C₂, hL₂, hJ'⟩
    cases f with
    | next => exact fin h₂
    | cont => exact fin h₂
    | brk => exact h₂
    | ret v => exact h₂
end
abbrev wsL : List Nat := [10, 9, 13, 32]
/-- what a reader tells behind an opening quotation mark -/
def qt : List Nat → Option (List Nat × List Nat)
  | [] => none
  | [c] => if c = 34 then some ([], []) else none
  | c :: d :: r => if c = 34 then some ([], d :: r) else if c = 92 then (qt r).map (fun p => (d :: p.1, p.2)) else (qt (d :: r)).map (fun p => (c :: p.1, p.2))
/-- what it tells within a bare word -/
def bt : List Nat → Option (List Nat × List Nat)
  | [] => none
  | [c] => if c ∈ wsL then some ([], []) else none
  | c :: d :: r => if c ∈ wsL then some ([], d :: r) else if c = 92 then (bt r).map (fun p => (d :: p.1, p.2)) else (bt (d :: r)).map (fun p => (c :: p.1, p.2))
/-- a word and what is behind it -/
def tk : List Nat → Option (List Nat × List Nat)
  | [] => some ([], [])
  | c :: r => if c ∈ wsL then tk r else if c = 34 then qt r else if c = 92 then (match r with | [] => none | d :: r' => (bt r').map (fun p => (d :: p.1, p.2))) else (bt r).map (fun p => (c :: p.1, p.2))
theorem qt_end {r : List Nat} : qt (34 :: r) = some ([], r) := by cases r <;> simp [qt]
theorem qt_esc {r p : List Nat} {e : List Nat} (h : qt (92 :: r) = some (p, e)) : ∃ d r' p', r = d :: r' ∧ p = d :: p' ∧ qt r' = some (p', e) := by
  cases r with
  | nil => simp [qt] at h
  | cons d r' =>
    simp [qt] at h
    obtain ⟨p', h1, h2⟩ := h
    exact ⟨d, r', p', rfl, h2.symm, h1⟩
theorem qt_plain {c : Nat} {r p e : List Nat} (h1 : c ≠ 34) (h2 : c ≠ 92) (h : qt (c :: r) = some (p, e)) : ∃ p', p = c :: p' ∧ qt r = some (p', e) := by
  cases r with
  | nil => simp [qt, h1] at h
  | cons d r' =>
    simp [qt, h1, h2] at h
    obtain ⟨p', h1, h2⟩ := h
    exact ⟨p', h2.symm, h1⟩
theorem bt_end {c : Nat} {r : List Nat} (h : c ∈ wsL) : bt (c :: r) = some ([], r) := by cases r <;> unfold bt <;> rw [if_pos h]
theorem bt_esc {r p : List Nat} {e : List Nat} (h : bt (92 :: r) = some (p, e)) : ∃ d r' p', r = d :: r' ∧ p = d :: p' ∧ bt r' = some (p', e) := by
  cases r with
  | nil => simp [bt] at h
  | cons d r' =>
    simp [bt] at h
    obtain ⟨p', h1, h2⟩ := h
    exact ⟨d, r', p', rfl, h2.symm, h1⟩
theorem bt_plain {c : Nat} {r p e : List Nat} (h1 : c ∉ wsL) (h2 : c ≠ 92) (h : bt (c :: r) = some (p, e)) : ∃ p', p = c :: p' ∧ bt r = some (p', e) := by
  cases r with
  | nil => unfold bt at h; rw [if_neg h1] at h; cases h
  | cons d r' =>
    unfold bt at h
    rw [if_neg h1, if_neg h2, Option.map_eq_some_iff] at h
    obtain ⟨⟨p', e'⟩, h1, h2⟩ := h
    cases h2
    exact ⟨p', rfl, h1⟩
theorem LexL.mem {N : Int} {dx src tl pb : Addr} {ν0 μ : List (Addr × Obj)} {tape : List Nat} {ν : List (Addr × Obj)} {p : Addr × Obj} (h : LexL N dx src tl pb ν0 (p :: μ) tape ν) : p ∈ ν := by
  obtain ⟨ν', rfl, _⟩ := h.peel
  exact .head _
set_option maxHeartbeats 8000000 in
theorem hide3 {M : Model} {A : Around} {α : Type} {c : Sem α} {Q : α → Shared → Prop} {E : Value → Shared → Prop} {s : Shared} {D U : Nat} {env : Env} {g : Heap} (X : Ax D U A env g)
    (h : ∀ A' Q' E', Ax D U A' env g → Q' = Q → E' = E → wpAny M A' c Q' E' s) : wpAny M A c Q E s := h A Q E X rfl rfl
theorem hideQ {M : Model} {A : Around} {α : Type} {c : Sem α} {Q : α → Shared → Prop} {E : Value → Shared → Prop} {s : Shared}
    (h : ∀ Q' E', Q' = Q → E' = E → wpAny M A c Q' E' s) : wpAny M A c Q E s := h Q E rfl rfl
theorem token_spec {w : World} {A : Around} {g : Heap} {L : Addr} {m : Str → Option Value} {ν : List (Addr × Obj)} {z s : Shared} {D U : Nat} {Q : Value → Shared → Prop} {E : Value → Shared → Prop} {cn : Str} {cs : Scope} {a : Addr} {ccd : Value} {cl : List (Str × Addr)}
    {N : Int} {x dx src tl pb : Addr} {ν0 μ : List (Addr × Obj)} {tape word rest : List Nat}
    (G : Gx w g) (X : Ax (D + 3) (U + 25) A (envX cn cs L a ccd cl) g) (C : Cx g L m ν z s) (hke : cs.kind = .function) (H : LexC w ν0 x dx src tl pb) (hL : LexL N dx src tl pb ν0 μ tape ν) (ht : tk tape = some (word, rest))
    (k : ∀ t ν' s', Cx g L m ν' z s' → LexL N dx src tl pb ν0 μ rest ν' → Q (.str (S word) t) s') :
    wpAny (MM w) A (call (.ref 100) [.ref x]) Q E s := by
  refine r_enter (D := D + 2) (U := U + 17) (binds := [(Str.ofString "self", .ref x)]) G X C hke rfl (by kernel_rfl) (BindsTo.of_eq rfl) (locs rfl) rfl rfl rfl (by decide) ?_
  clear G X C
  intro g' L' s G X hg C
  simp only [bm, List.foldl] at C
  refine hide3 X ?_; clear X; intro A' Q1 E1 X hq1 he1
  have hlen : tape.length ≤ 100000 := by
    obtain ⟨es, n, fl, vs, kk, ln, t1, t2, hν, hA, e1, e2, e3, e4, e5, e6, hvs, hN, hlen⟩ := hL
    exact hlen
  have ks : ∀ (p1 p2 : Addr × Obj) (t : Tok) (ν' : List (Addr × Obj)) (s' : Shared), LexL N dx src tl pb ν0 (p1 :: p2 :: μ) rest ν' → Cx g L m ν' z s' → Q (.str (S word) t) s' := by
    intro p1 p2 t ν' s' h C
    obtain ⟨ν1, rfl, h1⟩ := h.peel
    obtain ⟨ν2, rfl, h2⟩ := h1.peel
    exact k _ _ _ C.tail.tail h2
  have kn : ∀ {μ' : List (Addr × Obj)} {tape : List Nat} {ν : List (Addr × Obj)}, LexL N dx src tl pb ν0 μ' tape ν → ∃ es n fl t2, Kn g' ν x (instObj 110 dx) ∧ Kn g' ν dx (dictOf es n) ∧ Attr es fl 8 ∧ fl (Str.ofString "whitespace") = some (.str (S [10, 9, 13, 32]) t2) ∧ fl (Str.ofString "pushback") = some (.ref pb) ∧ fl (Str.ofString "_read_char") = none ∧ Kn g' ν pb (LO [] 0) := by
    rintro μ' tape ν ⟨es, n, fl, vs, kk, ln, t1, t2, rfl, hA, e1, e2, e3, e4, e5, e6, hvs, hN, hlen⟩
    have sub : ∀ p ∈ ν0, p ∈ μ' ++ (dx, dictOf es n) :: (tl, LO vs kk) :: ν0 := fun p hp => List.mem_append_right _ (.tail _ (.tail _ hp))
    exact ⟨es, n, fl, t2, .nu (sub _ H.inst), .nu (List.mem_append_right _ (.head _)), hA, e3, e4, e5, .nu (sub _ H.pbk)⟩
  obtain ⟨es, n, fl, t2, i1, i2, i3, i4, i5, i6, i7⟩ := kn hL
  repeat walk_at "go"
  with_reducible refine r_getA0 G C i1 i2 i3 i5 rfl ?_; intro s C
  with_reducible refine r_truthyL C i7 (by simp) ?_; intro s C
  refine ite_f rfl ?_
  repeat walk_at "go"
  with_reducible refine r_bound (fA := 93) G C i1 i2 i3 i6 (by kernel_rfl) (by kernel_rfl) ?_; intro q s C
  repeat walk_at "go"
  with_reducible refine r_iter2 C (.nu (by walk_at "mem")) ?_; intro I s C
  repeat walk_at "go"
  with_reducible refine r_iterCI C (.nu (by walk_at "mem")) ?_
  have hL2 := (hL.wrap (q, methodObj (.ref 93) (.ref x))).wrap (I, CI (.ref q) (.str (S []) t) false)
  generalize hμ : (I, CI (.ref q) (.str (S []) t) false) :: (q, methodObj (.ref 93) (.ref x)) :: μ = μ' at hL2
  refine r_forCI G X rfl H C (hμ ▸ hL2) (fun tape m => tk tape = some (word, rest) ∧ tape.length ≤ 100000 ∧ ∃ tt, m (Str.ofString "self") = some (.ref x) ∧ m (Str.ofString "fiter") = some (.ref I) ∧ m (Str.ofString "token") = some (.str (S []) tt)) ⟨ht, hlen, _, by walk_at "lk", by walk_at "lk", by walk_at "lk"⟩ ?_ ?_
  · clear C hL2 hL i1 i2 i3 i4 i5 i6 i7
    intro c r m tc ν1 s hJ C hL3
    refine hideQ ?_; intro Q2 E2 hq2 he2
    obtain ⟨h1, h2, tt, m1, m2, m3⟩ := hJ
    simp only [List.length_cons] at h2
    obtain ⟨es, n, fl, t2, i1, i2, i3, i4, i5, i6, i7⟩ := kn hL3
    unfold tk at h1
    repeat walk_at "go"
    with_reducible refine r_getA0 G C i1 i2 i3 i4 rfl ?_; intro s C
    repeat walk_at "go"
    refine ite_b (fun hb => ?_) (fun hb => ?_)
    · have hb' : c ∈ wsL := by simpa using hb
      rw [if_pos hb'] at h1
      repeat walk_at "go"
      subst hq2
      exact ⟨r, _, _, Nat.le_refl _, C, hL3, h1, by omega, tt, by walk_at "lk", by walk_at "lk", by walk_at "lk"⟩
    · have hb' : c ∉ wsL := by simpa using hb
      rw [if_neg hb'] at h1
      repeat walk_at "go"
      refine ite_b (fun hq => ?_) (fun hq => ?_)
      · have hq' : c = 34 := by simpa using hq
        rw [if_pos hq'] at h1
        repeat walk_at "go"
        with_reducible refine r_iterCI C (.nu hL3.mem) ?_
        refine r_forCI G X rfl H C hL3 (fun tape m => ∃ p tok tt, qt tape = some (p, rest) ∧ tok ++ p = word ∧ tok.length + tape.length ≤ 100000 ∧ m (Str.ofString "self") = some (.ref x) ∧ m (Str.ofString "fiter") = some (.ref I) ∧ m (Str.ofString "token") = some (.str (S tok) tt)) ⟨word, [], _, h1, rfl, by simp; omega, by walk_at "lk", by walk_at "lk", by walk_at "lk"⟩ ?_ ?_
        · clear C hL3 i1 i2 i3 i4 i5 i6 i7 h1 m1 m2 m3
          intro c r m tc ν1 s hJ C hL3
          refine hideQ ?_; intro Q3 E3 hq3 he3
          obtain ⟨p, tok, tt, h1, h5, h2, m1, m2, m3⟩ := hJ
          simp only [List.length_cons] at h2
          obtain ⟨es, n, fl, t2, i1, i2, i3, i4, i5, i6, i7⟩ := kn hL3
          repeat walk_at "go"
          refine ite_b (fun hd => ?_) (fun hd => ?_)
          · have hd' : c = 34 := by simpa using hd
            rw [hd', qt_end] at h1
            cases h1
            repeat walk_at "go"
            subst hq3 hq2 hq1
            refine ⟨_, _, C, fun C => ?_⟩
            have := ks _ _ tt _ _ hL3 C
            rw [← h5, List.append_nil] at this
            exact this
          · have hd' : c ≠ 34 := by simpa using hd
            repeat walk_at "go"
            refine ite_b (fun he => ?_) (fun he => ?_)
            · have he' : c = 92 := by simpa using he
              rw [he'] at h1
              obtain ⟨d, r', p', rfl, rfl, h3⟩ := qt_esc h1
              simp only [List.length_cons] at h2
              repeat walk_at "go"
              with_reducible refine r_meth (fA := 93) G C i1 i2 i3 i6 (by kernel_rfl) (by kernel_rfl) ?_
              with_reducible refine c_callK0 G C ?_
              simp only [List.append_nil]
              refine wpAny_call (read_spec (D := D) (U := U + 1) G X C rfl H hL3 ?_)
              clear C hL3
              intro td ν2 s C hL3
              simp only [List.take_succ_cons, List.take_zero, List.drop_succ_cons, List.drop_zero] at C hL3 ⊢
              repeat walk_at "go"
              subst hq3
              exact ⟨r', _, _, by simp, C, hL3, p', tok ++ [d], _, h3, by rw [List.append_assoc]; exact h5, by simp; omega, by walk_at "lk", by walk_at "lk", by walk_at "lk"⟩
            · have he' : c ≠ 92 := by simpa using he
              obtain ⟨p', rfl, h3⟩ := qt_plain hd' he' h1
              repeat walk_at "go"
              subst hq3
              exact ⟨r, _, _, by simp, C, hL3, p', tok ++ [c], _, h3, by rw [List.append_assoc]; exact h5, by simp; omega, by walk_at "lk", by walk_at "lk", by walk_at "lk"⟩
        · rintro m ν1 s ⟨p, tok, tt, h1, _⟩ C hL3
          cases h1
      · have hq' : c ≠ 34 := by simpa using hq
        rw [if_neg hq'] at h1
        repeat walk_at "go"
        refine ite_b (fun he => ?_) (fun he => ?_)
        · have he' : c = 92 := by simpa using he
          rw [if_pos he'] at h1
          cases r with
          | nil => cases h1
          | cons d r =>
          simp only [List.length_cons] at h2
          rw [Option.map_eq_some_iff] at h1
          obtain ⟨⟨p, e⟩, h1, h6⟩ := h1
          injection h6 with h5 h6
          subst h6
          repeat walk_at "go"
          with_reducible refine r_meth (fA := 93) G C i1 i2 i3 i6 (by kernel_rfl) (by kernel_rfl) ?_
          with_reducible refine c_callK0 G C ?_
          simp only [List.append_nil]
          refine wpAny_call (read_spec (D := D) (U := U + 1) G X C rfl H hL3 ?_)
          clear C hL3
          intro td ν2 s C hL3
          simp only [List.take_succ_cons, List.take_zero, List.drop_succ_cons, List.drop_zero] at C hL3 ⊢
          repeat walk_at "go"
          have h5 : ([] ++ [d]) ++ p = word := h5
          with_reducible refine r_iterCI C (.nu hL3.mem) ?_
          refine r_forCI G X rfl H C hL3 (fun tape m => ∃ p tok tt, bt tape = some (p, e) ∧ tok ++ p = word ∧ tok.length + tape.length ≤ 100000 ∧ m (Str.ofString "self") = some (.ref x) ∧ m (Str.ofString "fiter") = some (.ref I) ∧ m (Str.ofString "token") = some (.str (S tok) tt)) ⟨_, _, _, h1, h5, by simp; omega, by walk_at "lk", by walk_at "lk", by walk_at "lk"⟩ ?_ ?_
          · clear C hL3 i1 i2 i3 i4 i5 i6 i7 h1 h5 m1 m2 m3
            intro c r m tc ν1 s hJ C hL3
            refine hideQ ?_; intro Q3 E3 hq3 he3
            obtain ⟨p, tok, tt, h1, h5, h2, m1, m2, m3⟩ := hJ
            simp only [List.length_cons] at h2
            obtain ⟨es, n, fl, t2, i1, i2, i3, i4, i5, i6, i7⟩ := kn hL3
            repeat walk_at "go"
            with_reducible refine r_getA0 G C i1 i2 i3 i4 rfl ?_; intro s C
            repeat walk_at "go"
            refine ite_b (fun hd => ?_) (fun hd => ?_)
            · have hd' : c ∈ wsL := by simpa using hd
              rw [bt_end hd'] at h1
              cases h1
              repeat walk_at "go"
              subst hq3 hq2 hq1
              refine ⟨_, _, C, fun C => ?_⟩
              have := ks _ _ tt _ _ hL3 C
              rw [← h5, List.append_nil] at this
              exact this
            · have hd' : c ∉ wsL := by simpa using hd
              repeat walk_at "go"
              refine ite_b (fun he => ?_) (fun he => ?_)
              · have he' : c = 92 := by simpa using he
                rw [he'] at h1
                obtain ⟨d, r', p', rfl, rfl, h3⟩ := bt_esc h1
                simp only [List.length_cons] at h2
                repeat walk_at "go"
                with_reducible refine r_meth (fA := 93) G C i1 i2 i3 i6 (by kernel_rfl) (by kernel_rfl) ?_
                with_reducible refine c_callK0 G C ?_
                simp only [List.append_nil]
                refine wpAny_call (read_spec (D := D) (U := U + 1) G X C rfl H hL3 ?_)
                clear C hL3
                intro td ν2 s C hL3
                simp only [List.take_succ_cons, List.take_zero, List.drop_succ_cons, List.drop_zero] at C hL3 ⊢
                repeat walk_at "go"
                subst hq3
                exact ⟨r', _, _, by simp, C, hL3, p', tok ++ [d], _, h3, by rw [List.append_assoc]; exact h5, by simp; omega, by walk_at "lk", by walk_at "lk", by walk_at "lk"⟩
              · have he' : c ≠ 92 := by simpa using he
                obtain ⟨p', rfl, h3⟩ := bt_plain hd' he' h1
                repeat walk_at "go"
                subst hq3
                exact ⟨r, _, _, by simp, C, hL3, p', tok ++ [c], _, h3, by rw [List.append_assoc]; exact h5, by simp; omega, by walk_at "lk", by walk_at "lk", by walk_at "lk"⟩
          · rintro m ν1 s ⟨p, tok, tt, h1, _⟩ C hL3
            cases h1
        · have he' : c ≠ 92 := by simpa using he
          rw [if_neg he', Option.map_eq_some_iff] at h1
          obtain ⟨⟨p, e⟩, h1, h6⟩ := h1
          injection h6 with h5 h6
          subst h6
          repeat walk_at "go"
          have h5 : ([] ++ [c]) ++ p = word := h5
          with_reducible refine r_iterCI C (.nu hL3.mem) ?_
          refine r_forCI G X rfl H C hL3 (fun tape m => ∃ p tok tt, bt tape = some (p, e) ∧ tok ++ p = word ∧ tok.length + tape.length ≤ 100000 ∧ m (Str.ofString "self") = some (.ref x) ∧ m (Str.ofString "fiter") = some (.ref I) ∧ m (Str.ofString "token") = some (.str (S tok) tt)) ⟨_, _, _, h1, h5, by simp; omega, by walk_at "lk", by walk_at "lk", by walk_at "lk"⟩ ?_ ?_
          · clear C hL3 i1 i2 i3 i4 i5 i6 i7 h1 h5 m1 m2 m3
            intro c r m tc ν1 s hJ C hL3
            refine hideQ ?_; intro Q3 E3 hq3 he3
            obtain ⟨p, tok, tt, h1, h5, h2, m1, m2, m3⟩ := hJ
            simp only [List.length_cons] at h2
            obtain ⟨es, n, fl, t2, i1, i2, i3, i4, i5, i6, i7⟩ := kn hL3
            repeat walk_at "go"
            with_reducible refine r_getA0 G C i1 i2 i3 i4 rfl ?_; intro s C
            repeat walk_at "go"
            refine ite_b (fun hd => ?_) (fun hd => ?_)
            · have hd' : c ∈ wsL := by simpa using hd
              rw [bt_end hd'] at h1
              cases h1
              repeat walk_at "go"
              subst hq3 hq2 hq1
              refine ⟨_, _, C, fun C => ?_⟩
              have := ks _ _ tt _ _ hL3 C
              rw [← h5, List.append_nil] at this
              exact this
            · have hd' : c ∉ wsL := by simpa using hd
              repeat walk_at "go"
              refine ite_b (fun he => ?_) (fun he => ?_)
              · have he' : c = 92 := by simpa using he
                rw [he'] at h1
                obtain ⟨d, r', p', rfl, rfl, h3⟩ := bt_esc h1
                simp only [List.length_cons] at h2
                repeat walk_at "go"
                with_reducible refine r_meth (fA := 93) G C i1 i2 i3 i6 (by kernel_rfl) (by kernel_rfl) ?_
                with_reducible refine c_callK0 G C ?_
                simp only [List.append_nil]
                refine wpAny_call (read_spec (D := D) (U := U + 1) G X C rfl H hL3 ?_)
                clear C hL3
                intro td ν2 s C hL3
                simp only [List.take_succ_cons, List.take_zero, List.drop_succ_cons, List.drop_zero] at C hL3 ⊢
                repeat walk_at "go"
                subst hq3
                exact ⟨r', _, _, by simp, C, hL3, p', tok ++ [d], _, h3, by rw [List.append_assoc]; exact h5, by simp; omega, by walk_at "lk", by walk_at "lk", by walk_at "lk"⟩
              · have he' : c ≠ 92 := by simpa using he
                obtain ⟨p', rfl, h3⟩ := bt_plain hd' he' h1
                repeat walk_at "go"
                subst hq3
                exact ⟨r, _, _, by simp, C, hL3, p', tok ++ [c], _, h3, by rw [List.append_assoc]; exact h5, by simp; omega, by walk_at "lk", by walk_at "lk", by walk_at "lk"⟩
          · rintro m ν1 s ⟨p, tok, tt, h1, _⟩ C hL3
            cases h1
  · clear C hL2 hL i1 i2 i3 i4 i5 i6 i7
    intro m ν1 s hJ C hL3
    obtain ⟨h1, h2, tt, m1, m2, m3⟩ := hJ
    cases h1
    repeat walk_at "go"
    subst hq1
    refine ⟨_, _, C, fun C => ?_⟩
    obtain ⟨ν2, rfl, hL4⟩ := hL3.peel
    exact k _ _ _ C.tail hL4
/-- no class above this one -/
def offIn (K : Frag) (C C' : Addr) : Bool := match K.lookup C with
  | some o => match o.data with
    | .cls cd => !(cd.mro.contains (.ref C'))
    | _ => false
  | _ => false
section
variable {M : Model} {A : Around} {E : Value → Shared → Prop}
variable {nm q : Str} {C N : Addr} {bs bm : List Value} {hdct : Bool} {sn : List Str} {sub : List Value} {ab : Bool} {col : Option Bool} {dd : Option Addr} {k0 k1 k2 k3 k5 : Option Value} {newId : String}
variable {nm' q' : Str} {C' N' : Addr} {bs' bm' : List Value} {hdct' : Bool} {sn' : List Str} {sub' : List Value} {ab' : Bool} {col' : Option Bool} {dd' : Option Addr} {k0' k1' k2' k3' k5' : Option Value} {newId' : String}
theorem m_miss {h : Heap} {g : Array GenState} {d : Drawn} {t : Nat} {os : OsState} {e : Addr} {oe : Obj} {Q : Bool → Shared → Prop}
    (hC : h.get? C = some (excClassObj nm q C N bs bm hdct sn sub ab col dd k0 k1 k2 k3 k5 newId)) (hC' : h.get? C' = some (excClassObj nm' q' C' N' bs' bm' hdct' sn' sub' ab' col' dd' k0' k1' k2' k3' k5' newId'))
    (he : h.get? e = some oe) (hcls : oe.cls = .ref C) (hbase : bm'.contains (.type "BaseException") = true) (hno : (Value.ref C :: bm).contains (.ref C') = false)
    (hq : Q false ⟨h, g, d, t, os⟩) : wpAny M A (excMatches (.ref e) (.ref C')) Q E ⟨h, g, d, t, os⟩ := by
  have b1 : (Value.ref C' :: bm').contains (.type "BaseException") = true := by rw [List.contains_cons, hbase, Bool.or_true]
  have f := tc_notTuple
  unfold excMatches
  repeat (first | (with_reducible refine wpAny_loadPart_at he ?_; rw [hcls]) | with_reducible refine wpAny_loadPart_at hC' ?_ | (with_reducible refine wpAny_isSubtype_exc hC' ?_; rw [b1]) | (with_reducible refine wpAny_isSubtype_exc hC ?_; rw [hno]) | wp_step)
  exact hq
end
section
variable {prog : Program} {w : World} {A₀ : Around} {E : Value → Shared → Prop} {s' : Shared} {base g G : Heap} {outer : List Env} {L a e t C C' : Addr} {m : Str → Option Value} {name : Str} {scope : Scope} {cd cls : Value}
  {vs : List Value} {b₀ : Stmt} {suite : List Stmt} {pos np : Pos} {rest : List ExceptHandler} {news : List (Addr × Obj)} {KF : Frag}
  {p : Program} {loose : List Str} {mean : ExcName → Option Value} {mg mb : Str → Option Value} {x : Str}
/-- an exception that came to a frame -/
structure Came (A₀ : Around) (base g : Heap) (env : Env) (outer : List Env) (L e t : Addr) (cls : Value) (vs : List Value) (news : List (Addr × Obj)) (m : Str → Option Value) (h : Heap) : Prop where
  it : ∃ G, RaisedS base G (env :: outer) e cls t vs news h ∧ Fr g L G m ∧ G.UpToSlots h
  below : Below A₀ base outer g
/-- what is left of the frame -/
theorem Came.ground {h : Heap} (R : Came A₀ base g (envOf name scope L a cd) outer L e t cls vs news m h) : ∃ g', KtsTurn (outer.filterMap (·.frame)) g g' ∧ Fr g' L h m ∧ Below A₀ base outer g' ∧ News g' L h news := by
  obtain ⟨⟨G, ⟨⟨B, hB, hBG, hl, hfl, hnew⟩, htup⟩, F, hsm⟩, K⟩ := R
  obtain ⟨g', T, F', K'⟩ := kts_ground K F hBG hfl.1 hsm
  refine ⟨g', T, F', K', fun q hq => ⟨hfl.1 _ _ (hl q hq).1, fun hz => ?_, T.none_ _ (kts_none F.keep (hl q hq).2.1)⟩⟩
  obtain ⟨_, ⟨L', _, hf, hn', _⟩, _⟩ := hfl.2.2.1
  have hL : L = L' := Option.some.inj hf
  have h1 := (hl q hq).1
  rw [hz, hL, hn'] at h1
  cases h1
theorem Came.land {Q : Unit → Shared → Prop} (R : Came A₀ base g (envOf name scope L a cd) outer L e t cls vs news m s'.heap)
    (h : ∀ h', Came A₀ base g (envOf name scope L a cd) outer L e t cls vs news m h' → Q () { s' with heap := h' }) :
    wpAny (model prog w) (A₀.deeper (envOf name scope L a cd)) (noteFrame (.ref e) (envOf name scope L a cd)) (fun _ s₂ => wpAny (model prog w) (A₀.deeper (envOf name scope L a cd)) (setFlight (.ref e) none) Q E s₂) E s' := by
  obtain ⟨⟨G, ⟨⟨B, hB, hBG, hl, hfl, hnew⟩, htup⟩, F, hsm⟩, K⟩ := R
  refine wpAny_looks_onW (Around.frames_deeper K.stack) rfl hfl fun h₄ held sm₄ => ?_
  refine wpAny_landsW held fun h₅ fl₅ sm₅ => ?_
  exact h h₅ ⟨⟨G, ⟨⟨B, hB, hBG, hl, fl₅, hnew⟩, (htup.of_slots sm₄).of_slots sm₅⟩, F, (hsm.trans sm₄).trans sm₅⟩, K⟩
theorem Came.obj {h : Heap} (R : Came A₀ base g (envOf name scope L a cd) outer L e t cls vs news m h) : ∃ ob, h.get? e = some ob ∧ ob.cls = cls := by
  obtain ⟨⟨G, ⟨⟨B, hB, hBG, hl, hfl, hnew⟩, htup⟩, F, hsm⟩, K⟩ := R
  exact hfl.there
theorem Came.hit {Q : Flow → Shared → Prop} (R : Came A₀ base g (envOf name scope L a cd) outer L e t (.ref C) vs news m s'.heap) (XB : KF.In base) (TB : Top p loose mean mg mb base)
    (ex : nsIn KF mainGlobals x = some (some (.ref C))) (q : ktsIn KF C "BaseException" = true)
    (k : ∀ h' g', KtsTurn (outer.filterMap (·.frame)) g g' → Fr g' L h' m → News g' L h' news → Below A₀ base outer g' →
      wpAny (model prog w) ((A₀.deeper (envOf name scope L a cd)).mark (some (.ref e))) (execs (b₀ :: suite) (envOf name scope L a cd)) Q (fun _ _ => False) { s' with heap := h' })
    (hk : scope.kind = .function := by kernel_rfl) (hx : (envOf name scope L a cd).kindOf x = some .globalImplicit := by kernel_rfl) (hd : (x == ("__debug__" : Str)) = false := by kernel_rfl) :
    wpAny (model prog w) (A₀.deeper (envOf name scope L a cd)) (handleBy (.ref e) (envOf name scope L a cd) (.ExceptHandler (some (.Name x np)) none (b₀ :: suite) pos :: rest)) Q (fun _ _ => False) s' := by
  obtain ⟨g₅, T₅, F₅, K₅, _⟩ := R.ground
  have X₅ : KF.In g₅ := XB.keeps K₅.stays
  obtain ⟨ob, hob, hobc⟩ := R.obj
  obtain ⟨nm, q', N, bs, bm, hdct, sn, sub, ab, col, dd, k0, k1, k2, k3, k5, newId, hC, hbase, hbT⟩ := kts_cls X₅ q
  refine wpAny_handleBy_cons (codeAny_handlers_test (name_K F₅ X₅ (topRead_of (TB.keeps K₅.stays)) ex ?_ hk hx hd)) (by intro q; cases q)
  refine wpAny_excMatches_sub_self (F₅.keep _ _ hC) hob hobc hbase (codeAny_handlers_suite ?_)
  have R2 := R
  obtain ⟨⟨G, ⟨⟨B, hB, hBG, hl, hfl, hnew⟩, htup⟩, F, hsm⟩, K⟩ := R
  refine lands_againW hfl fun h₆ fl₆ sm₆ => ?_
  have R6 : Came A₀ base g (envOf name scope L a cd) outer L e t (.ref C) vs news m h₆ := ⟨⟨G, ⟨⟨B, hB, hBG, hl, fl₆, hnew⟩, htup.of_slots sm₆⟩, F, hsm.trans sm₆⟩, K⟩
  obtain ⟨g₆, T₆, F₆, K₆, N₆⟩ := R6.ground
  exact wpAny_passesOwnAt PassesOwnAt.never (k h₆ g₆ T₆ F₆ N₆ K₆)
theorem Came.miss {Q : Flow → Shared → Prop} (R : Came A₀ base g (envOf name scope L a cd) outer L e t (.ref C) vs news m s'.heap) (XB : KF.In base) (TB : Top p loose mean mg mb base)
    (ex : nsIn KF mainGlobals x = some (some (.ref C'))) (q : ktsIn KF C' "BaseException" = true) (q₀ : ktsIn KF C "BaseException" = true) (ho : offIn KF C C' = true)
    (k : wpAny (model prog w) (A₀.deeper (envOf name scope L a cd)) (handleBy (.ref e) (envOf name scope L a cd) rest) Q E s')
    (hk : scope.kind = .function := by kernel_rfl) (hx : (envOf name scope L a cd).kindOf x = some .globalImplicit := by kernel_rfl) (hd : (x == ("__debug__" : Str)) = false := by kernel_rfl) :
    wpAny (model prog w) (A₀.deeper (envOf name scope L a cd)) (handleBy (.ref e) (envOf name scope L a cd) (.ExceptHandler (some (.Name x np)) none (b₀ :: suite) pos :: rest)) Q E s' := by
  obtain ⟨g₅, T₅, F₅, K₅, _⟩ := R.ground
  have X₅ : KF.In g₅ := XB.keeps K₅.stays
  obtain ⟨ob, hob, hobc⟩ := R.obj
  obtain ⟨nm, q', N, bs, bm, hdct, sn, sub, ab, col, dd, k0, k1, k2, k3, k5, newId, hC, hbase, hbT⟩ := kts_cls X₅ q
  obtain ⟨nm₀, q₀', N₀, bs₀, bm₀, hdct₀, sn₀, sub₀, ab₀, col₀, dd₀, k0₀, k1₀, k2₀, k3₀, k5₀, newId₀, hC₀, hbase₀, hbT₀⟩ := kts_cls X₅ q₀
  have hno : (Value.ref C :: bm₀).contains (.ref C') = false := by
    unfold offIn at ho
    split at ho
    · rename_i o hlo
      have e1 := X₅ _ _ hlo
      rw [hC₀] at e1
      cases e1
      simpa using ho
    · cases ho
  refine wpAny_handleBy_cons (codeAny_handlers_test (name_K F₅ X₅ (topRead_of (TB.keeps K₅.stays)) ex ?_ hk hx hd)) (by intro q; cases q)
  exact m_miss (F₅.keep _ _ hC₀) (F₅.keep _ _ hC) hob hobc hbase hno k
end
section
variable {w : World} {A A₀ : Around} {base g : Heap} {outer : List Env} {L : Addr} {m : Str → Option Value} {ν : List (Addr × Obj)} {z s : Shared} {D U : Nat} {Q : Value → Shared → Prop} {E : Value → Shared → Prop}
/-- a function entered that may raise -/
theorem r_enterR {f : Addr} {args : List Value} {binds : List (Str × Value)} {cn : Str} {cs : Scope} {a : Addr} {ccd : Value} {cl : List (Str × Addr)} {name qual : Str} {params : Arguments} {body : List Stmt} {scope : Scope} {dV kV doc pm cdv ct oc : Value} {an od : Option Addr} {osl : Array (Option Value)}
    (G : Gx w g) (X : Ax (D + 1) (U + 8) A (envX cn cs L a ccd cl) g) (B : Below A₀ base outer g) (hA : A.frames = some (envX cn cs L a ccd cl :: outer)) (C : Cx g L m ν z s) (hke : cs.kind = .function)
    (ho : (KF w).lookup f = some ⟨oc, od, .func (fnOf name qual params body scope dV kV doc pm an cdv ct), osl⟩)
    (hcd : codeIn (KF w) cdv qual = true)
    (hbind : BindsTo s (fnOf name qual params body scope dV kV doc pm an cdv ct) ⟨args, []⟩ binds)
    (hloc : ∀ y ∈ binds, scope.names.lookup y.1 = some .local)
    (hco : scope.isCoroutine = false) (hgen : scope.isGenerator = false) (hk : scope.kind = .function)
    (hcell : ∀ x ∈ scope.names, x.2 ≠ .cell)
    (h : ∀ g' L' s', Gx w g' → Ax D U (A.deeper (envX qual scope L' f cdv [])) (envX qual scope L' f cdv []) g' → (∀ b o, g.get? b = some o → g'.get? b = some o) → Below A base (envX cn cs L a ccd cl :: outer) g' → Fr g L g' m → Cx g' L' (bm binds) ν z s' →
      wpAny (MM w) (A.deeper (envX qual scope L' f cdv [])) (execs body (envX qual scope L' f cdv []))
        (fun fl s'' => ∃ m' ν', Cx g' L' m' ν' z s'' ∧ (Cx g L m ν' z s'' → Q (retv fl) s''))
        (fun e s' => wpAny (MM w) (A.deeper (envX qual scope L' f cdv [])) (leaving (envX qual scope L' f cdv []) e) (fun _ s'' => E e s'') (fun e' s'' => E e' s'') s') s') :
    wpAny (MM w) A (call (.ref f) args) Q E s := by
  obtain ⟨p, lo, mean, mg, mb, T⟩ := G.top
  have hd := X.dep
  have hu := X.un
  refine wpAny_call (code_def B C.fr G.kin C.nw T hA rfl hke ho hcd (by omega) hbind hloc (fun g' L' h₁ FG F' N' B' X' T' => ?_) hco hgen hk hcell)
  refine wpAny_mono (h g' L' _ ⟨X', p, lo, mean, mg, mb, T'⟩ ⟨⟨A, base, _, B', ?_⟩, X.hd, ?_, ?_⟩ (fun b o e => FG.keep b o e) B' FG (bm_eq binds ▸ C.at F' N' C.nd)) ?_ (fun _ _ h => h)
  · show A.frames.map _ = _
    rw [hA]; rfl
  · show A.depth + 1 + D < _
    omega
  · show A.units + 3 + U < _
    omega
  · rintro fl s'' ⟨m', ν', C', k⟩
    refine ⟨L', m', ν', C'.fr, C'.nw, fun F N => ?_⟩
    have := k ⟨F, N, C'.nd, C'.eq⟩
    cases fl <;> exact this
/-- a function entered from the outermost one, in which an exception may fly -/
theorem r_enterT {f : Addr} {args : List Value} {binds : List (Str × Value)} {cn : Str} {cs : Scope} {a : Addr} {ccd : Value} {cl : List (Str × Addr)} {name qual : Str} {params : Arguments} {body : List Stmt} {scope : Scope} {dV kV doc pm cdv ct oc : Value} {an od : Option Addr} {osl : Array (Option Value)}
    (G : Gx w g) (X : Ax (D + 1) (U + 8) A (envX cn cs L a ccd cl) g) (hA : A.frames = some [envX cn cs L a ccd cl]) (hA₀ : ∃ A₀ : Around, A₀.frames = some []) (C : Cx g L m ν z s) (hke : cs.kind = .function)
    (ho : (KF w).lookup f = some ⟨oc, od, .func (fnOf name qual params body scope dV kV doc pm an cdv ct), osl⟩)
    (hcd : codeIn (KF w) cdv qual = true)
    (hbind : BindsTo s (fnOf name qual params body scope dV kV doc pm an cdv ct) ⟨args, []⟩ binds)
    (hloc : ∀ y ∈ binds, scope.names.lookup y.1 = some .local)
    (hco : scope.isCoroutine = false) (hgen : scope.isGenerator = false) (hk : scope.kind = .function)
    (hcell : ∀ x ∈ scope.names, x.2 ≠ .cell)
    (h : ∀ g' L' s', Gx w g' → Ax D U (A.deeper (envX qual scope L' f cdv [])) (envX qual scope L' f cdv []) g' → (∀ b o, g.get? b = some o → g'.get? b = some o) → Below A g [envX cn cs L a ccd cl] g' → Cx g' L' (bm binds) ν z s' →
      wpAny (MM w) (A.deeper (envX qual scope L' f cdv [])) (execs body (envX qual scope L' f cdv []))
        (fun fl s'' => ∃ g'' m' ν', KtsTurn [L] g' g'' ∧ Cx g'' L' m' ν' z s'' ∧ (Cx g L m ν' z s'' → Q (retv fl) s'')) (fun _ _ => False) s') :
    wpAny (MM w) A (call (.ref f) args) Q E s := by
  obtain ⟨A₀, hA₀⟩ := hA₀
  have B : Below A₀ g [] g := ⟨hA₀, fun _ _ e => e, trivial⟩
  obtain ⟨p, lo, mean, mg, mb, T⟩ := G.top
  have hd := X.dep
  have hu := X.un
  obtain ⟨FG, BG, st, _⟩ := groundX (R := fun _ _ => True) B C.fr C.nw hA rfl hke
  have hX : (KF w).In s.heap := G.kin.keeps C.fr.keep
  refine wpAny_call (codeAny_call_def (fd := fnOf name qual params body scope dV kV doc pm an cdv ct) (body := body) (binds := binds) (by omega) (hX _ _ ho) rfl (T.nolimit.keeps C.fr.keep) (codeRec_of hX hcd) rfl hbind hcell hloc (fun h₁ hns hk₁ => ?_) hco hgen hk)
  have F' : Fr (hideAll s.heap (ν.map (·.1))) s.heap.objs.size h₁ (fun y => binds.reverse.lookup y) := ⟨hns, fun b o e => hk₁ b o (of_hideAll _ e), Nat.le_of_eq (hideAll_size _ _)⟩
  have N' : News (hideAll s.heap (ν.map (·.1))) s.heap.objs.size h₁ ν := fun p hp => ⟨hk₁ _ _ (C.nw p hp).1, Nat.ne_of_lt (Heap.lt_size (C.nw p hp).1), hideAll_none _ (List.mem_map_of_mem hp)⟩
  refine wpAny_mono (h _ s.heap.objs.size _ ⟨G.kin.keeps st, p, lo, mean, mg, mb, T.keeps st⟩ ⟨⟨A, g, _, BG, ?_⟩, X.hd, ?_, ?_⟩ st BG (bm_eq binds ▸ C.at F' N' C.nd)) ?_ (fun _ _ h => h.elim)
  · show A.frames.map _ = _
    rw [hA]; rfl
  · show A.depth + 1 + D < _
    omega
  · show A.units + 3 + U < _
    omega
  · rintro fl s'' ⟨g'', m', ν', T', C', k⟩
    obtain ⟨oL, es, ep, hLg, hLd, hLk, hLf⟩ := FG.ns
    obtain ⟨sl, hs⟩ := T'.up hLg
    have nL : g.get? L = none := kts_self C.fr
    have key : Cx g L m ν' z s'' := by
      refine ⟨⟨⟨_, es, ep, C'.fr.keep _ _ hs, hLd, hLk, hLf⟩, fun b o e => C'.fr.keep b o (T'.other b o (st b o e) fun hb => ?_), C.fr.above⟩, fun p hp => ⟨(C'.nw p hp).1, fun hz => ?_, ?_⟩, C'.nd, C'.eq⟩
      · rw [List.mem_singleton.mp hb, nL] at e; cases e
      · have := (C'.nw p hp).2.2
        rw [hz, hs] at this; cases this
      · cases hg : g.get? p.1 with
        | none => rfl
        | some o =>
          obtain ⟨sl', hs'⟩ := T'.up (st _ _ hg)
          have := (C'.nw p hp).2.2
          rw [hs'] at this; cases this
    have := k key
    cases fl <;> exact this
/-- an own class raised -/
theorem r_raise {name : Str} {scope : Scope} {a : Addr} {cd : Value} {x : Str} {K : Addr} {bmB : List Value} {newId nid initId inN Bn Bt : String} {bmN : List Value} {e₀ : Expr} {rest : List Expr} {np cpos pos : Pos} {Q : Flow → Shared → Prop}
    (G : Gx w g) (B : Below A base outer g) (C : Cx g L m ν z s) (hh : A.handled = none) (ex : nsIn (KF w) mainGlobals x = some (some (.ref K))) (q : excIn (KF w) K bmB newId = true)
    (Fn : ExcBaseFacts Bn newId inN bmN) (hBn : bmB.contains (.type Bn) = true) (FB : ExcBaseFacts Bt nid initId bmB)
    (h : wpAny (MM w) (A.deeper (envX name scope L a cd [])) (spliced (backTo cpos (starEach (e₀ :: rest) (envX name scope L a cd [])))) (fun vs s₂ => vs.length ≤ 1000000 ∧ ∃ m' ν', Cx g L m' ν' z s₂ ∧
      ∀ e t s', Cx g L m' ν' z s₂ → s' = { z with heap := s'.heap, toks := s'.toks } → RaisedS base g outer e (.ref K) t vs ν' s'.heap → g.UpToSlots s'.heap → E (.ref e) s') (fun e s' => wpAny (MM w) (A.deeper (envX name scope L a cd [])) (leaving (envX name scope L a cd []) e) (fun _ s'' => E e s'') (fun e' s'' => E e' s'') s') s)
    (he : starEach (e₀ :: rest) (envX name scope L a cd []) = (false, eval e₀ (envX name scope L a cd [])) :: starEach rest (envX name scope L a cd []) := by kernel_rfl)
    (hplain : (backTo cpos (starEach rest (envX name scope L a cd []))).any (·.1) = false := by kernel_rfl)
    (hk : scope.kind = .function := by kernel_rfl) (hx : (envX name scope L a cd []).kindOf x = some .globalImplicit := by kernel_rfl) (hd : (x == ("__debug__" : Str)) = false := by kernel_rfl) :
    wpAny (MM w) (A.deeper (envX name scope L a cd [])) (exec (.Raise (some (.Call (.Name x np) (e₀ :: rest) [] cpos)) none pos) (envX name scope L a cd [])) Q (fun e s' => wpAny (MM w) (A.deeper (envX name scope L a cd [])) (leaving (envX name scope L a cd []) e) (fun _ s'' => E e s'') (fun e' s'' => E e' s'') s') s := by
  obtain ⟨p, lo, mean, mg, mb, T⟩ := G.top
  have O := own_of_in G.kin (topRead_of T) ex q
  refine Raise_own2 C.fr T.g O Fn hBn FB hh (wpAny_mono h (fun vs s₂ h₂ => ?_) fun _ _ y => y) he hplain hk hx hd
  obtain ⟨h1, m', ν', C', k⟩ := h₂
  refine ⟨by rw [sizeLine_eq]; omega, C'.fr.keep, fun h' e M => ?_⟩
  refine leave_raiseS B M C'.fr C'.nw (fun h'' t R _ hU => ?_) hk
  exact k e t { s₂ with heap := h'' } C' (by rw [C'.eq]) R hU
end
theorem Pt.keys {a : Addr} {o : Obj} {ν : List (Addr × Obj)} {F : Obj → List (Addr × Obj)} (h : Pt a o ν F) (o' : Obj) : (F o').map (·.1) = ν.map (·.1) := by
  induction h with
  | head => rfl
  | tail _ ih => rw [List.map_cons, List.map_cons, ih]
theorem Pt.updF {a : Addr} {o : Obj} {ν : List (Addr × Obj)} {F : Obj → List (Addr × Obj)} (h : Pt a o ν F) (nd : (ν.map (·.1)).Nodup) : UpdF a o ν F := by
  induction h with
  | head => exact UpdF.head fun p hp e => (List.nodup_cons.mp nd).1 (List.mem_map.mpr ⟨p, hp, e⟩)
  | tail h ih =>
    rw [List.map_cons, List.nodup_cons] at nd
    exact UpdF.tail (fun e => nd.1 (e ▸ List.mem_map.mpr ⟨_, h.mem, rfl⟩)) (ih nd.2)
theorem strs_of : ∀ (l : List Nat) (vs : List Value), vs.length = l.length → (∀ (j : Nat) v, vs[j]? = some v → ∃ c t, l[j]? = some c ∧ v = .str (S [c]) t) → StrsAre vs (l.map fun c => S [c])
  | [], [], _, _ => .nil
  | [], _ :: _, h, _ => nomatch h
  | _ :: _, [], h, _ => nomatch h
  | c :: l, v :: vs, h, k => by
    obtain ⟨c', t, h1, rfl⟩ := k 0 v rfl
    cases h1
    exact .cons _ t (strs_of l vs (by simpa using h) fun j v hv => k (j + 1) v (by simpa using hv))
theorem StrsAre.rev {vs : List Value} {ss : List Str} (h : StrsAre vs ss) : StrsAre vs.reverse ss.reverse := by
  induction h with
  | nil => exact .nil
  | cons y t _ ih => rw [List.reverse_cons, List.reverse_cons]; exact StrsAre.snoc ih
section
variable {w : World} {A : Around} {g : Heap} {L : Addr} {m : Str → Option Value} {ν : List (Addr × Obj)} {z s : Shared} {D U : Nat} {Q : Value → Shared → Prop} {E : Value → Shared → Prop} {env : Env} {F : Obj → List (Addr × Obj)}
theorem r_listS {l : List Nat} {t : Tok} (C : Cx g L m ν z s) (hh : A.handled = none) (hl : l.length ≤ 1000000) (k : ∀ D vs n s', StrsAre vs (l.map fun c => S [c]) → Cx g L m ((D, LO vs n) :: ν) z s' → Q (.ref D) s') : wpAny (MM w) A (call (.type "list") [.str (S l) t]) Q E s := by
  have hsz : (S l).cps.size = l.length := by simp [S]
  refine call_list_str hh (S l) t (fun h' tk acc' c' hk hS' hacc => ?_) (by rw [hsz, sizeLine_eq]; omega)
  refine k _ acc'.toList c' _ (strs_of l _ (by have := hacc.1; simp [hsz] at this; simpa using this) fun j v hv => ?_) ?_
  · obtain ⟨c, u, h1, h2⟩ := hacc.2 j v (by simpa using hv)
    exact ⟨c, u, by simpa [S] using h1, h2⟩
  · have C1 := C.push (LO acc'.toList c') rfl s.toks
    have C2 := C.moved (h' := h') (k := tk) hk
    refine ⟨C2.fr, ?_, C1.nd, C2.eq⟩
    intro p hp
    rcases List.mem_cons.mp hp with rfl | hp
    · exact ⟨by simpa using hS', (C1.nw _ (.head _)).2⟩
    · exact C2.nw p hp
theorem r_slice3 {value slice : Expr} {l : Addr} {vs : List Value} {n : Nat} {vl vu vk : Value} {lo hi st : Option Int} {ops : List Value} (C : Cx g L m ν z s) (hl : Kn g ν l (LO vs n)) (hv : vs.length ≤ 1000000) (pl : IsPart vl lo) (pu : IsPart vu hi) (pk : IsPart vk st) (h0 : st ≠ some 0)
    (k : ∀ D s', Cx g L m ((D, LO (slicePick vs.toArray lo hi st).toList 0) :: ν) z s' → Q (.ref D) s')
    (hs : subscripted slice false (.ref l) (.ref s.heap.objs.size) = operate ops (getItem (.ref l) (.ref s.heap.objs.size)) := by kernel_rfl)
    (ht : ∀ r, letTemporaryGo value (.ref l) r = pure () := by intro _; kernel_rfl) :
    wpAny (MM w) A (subscriptTail value slice (.ref l) (.ref s.heap.objs.size)) Q E { s with heap := s.heap.push { cls := .type "slice", data := .fields #[vl, vu, vk] } } := by
  refine slice_list3 C.fr C.nw (items := vs.toArray) ⟨_, hl.get C, rfl, _, rfl⟩ pl pu pk h0 (fun h' F' N' => ?_) hs ht (by rw [List.size_toArray, sizeLine_eq]; omega)
  refine k _ _ (C.at F' (by simpa using N') ?_)
  rw [List.map_cons, List.nodup_cons]
  refine ⟨fun hx => ?_, C.nd⟩
  obtain ⟨p, hp, e⟩ := List.mem_map.mp hx
  have := Heap.lt_size (C.nw p hp).1
  rw [show p.1 = s.heap.objs.size + 1 from e] at this
  exact absurd this (Nat.not_lt.mpr (Nat.le_succ _))
theorem c_turn {value slice : Expr} {o i : Value} (h : wpAny (MM w) A (subscriptTail (.Name (Str.ofString "_") ⟨0, 0, 0, 0⟩) slice o i) Q E s) : wpAny (MM w) A (subscriptTail value slice o i) Q E s := kba_turn (fun _ => rfl) h
theorem r_sliceRev {value slice : Expr} {l : Addr} {vs : List Value} {n : Nat} {t : Tok} (C : Cx g L m ν z s) (hl : Kn g ν l (LO vs n)) (hv : vs.length ≤ 1000000)
    (k : ∀ D s', Cx g L m ((D, LO vs.reverse 0) :: ν) z s' → Q (.ref D) s')
    (hs : subscripted slice false (.ref l) (.ref s.heap.objs.size) = operate [.ref l, .ref s.heap.objs.size] (getItem (.ref l) (.ref s.heap.objs.size)) := by kernel_rfl)
    (ht : ∀ r, letTemporaryGo value (.ref l) r = pure () := by intro _; kernel_rfl) :
    wpAny (MM w) A (subscriptTail value slice (.ref l) (.ref s.heap.objs.size)) Q E { s with heap := s.heap.push { cls := .type "slice", data := .fields #[.none, .none, .int (-1) t] } } := by
  refine r_slice3 C hl hv .none .none (.int _ _) (by simp) (fun D s' C' => ?_) hs ht
  rw [krv_pick] at C'
  exact k D s' (by simpa using C')
theorem c_neg {x : Expr} {pos : Pos} (h : wpAny (MM w) A (eval x env) (fun v s₁ => wpAny (MM w) A (unaryOp .USub v) Q E s₁) E s) : wpAny (MM w) A (eval (.UnaryOp .USub x pos) env) Q E s := wpAny_UnaryOp h
theorem r_negI {a : Int} {t : Tok} (C : Cx g L m ν z s) (k : ∀ t s', Cx g L m ν z s' → Q (.int (-a) t) s') : wpAny (MM w) A (unaryOp .USub (.int a t)) Q E s := PyProof.Rows.neg_int (k _ _ (C.tk _))
/-- a lambda made -/
theorem r_lambda {params : Arguments} {body : Expr} {scope : Scope} {pos : Pos} {clos : List (Str × Addr)} {c P : Addr} {ps : Array Value} {cn : Str} {cs : Scope} {a : Addr} {cl : List (Str × Addr)}
    (G : Gx w g) (C : Cx g L m ν z s) (U : Pt P (tabObj ps) ν F) (hd : codeHdIn (KF w) c P = true) (ht : TriplesOk ps.toList) (hnf : codeAmong pos ps.toList = none) (hcl : closureFor scope (envX cn cs L a (.ref c) cl) = pure clos)
    (hdef : defaultsOf params (envX cn cs L a (.ref c) cl) = ([], []))
    (k : ∀ f c' oc vs t ctv pm s', oc.data = .fields vs → vs[1]? = some (.str ((envX cn cs L a (.ref c) cl).qual ++ "<lambda>") t) →
      Cx g L m ((f, kla_obj "<lambda>" ((envX cn cs L a (.ref c) cl).qual ++ "<lambda>") params body scope clos pm c' ctv) :: (c', oc) :: F (tabObj (ps ++ #[rawInt pos.line, rawInt pos.col, .ref c']))) z s' → Q (.ref f) s') :
    wpAny (MM w) A (eval (.Lambda params body scope pos) (envX cn cs L a (.ref c) cl)) Q E s := by
  obtain ⟨p, lo, mean, mg, mb, T⟩ := G.top
  refine kla_eval hdef (kla_nest C.fr C.nw T (codeHd_of_K G.kin hd) rfl (U.updF C.nd) ht hnf hcl fun f c' oc vs t ctv h' tk F' N' h1 h2 l1 l2 => ?_)
  refine k f c' oc vs t ctv _ _ h1 h2 (C.at F' N' ?_)
  rw [List.map_cons, List.map_cons, U.keys, List.nodup_cons, List.nodup_cons]
  have l3 : ∀ x, x ∈ ν.map (·.1) → x < c' := fun x hx => by
    obtain ⟨p, hp, rfl⟩ := List.mem_map.mp hx
    exact l1 p hp
  refine ⟨fun hx => ?_, fun hx => Nat.lt_irrefl _ (l3 _ hx), C.nd⟩
  rcases List.mem_cons.mp hx with hx | hx
  · exact Nat.lt_irrefl _ ((show f = c' from hx) ▸ l2)
  · exact Nat.lt_irrefl _ (Nat.lt_trans l2 (l3 _ hx))
end
set_option maxHeartbeats 4000000 in
theorem lexer_spec {w : World} {A : Around} {g : Heap} {L : Addr} {m : Str → Option Value} {ν : List (Addr × Obj)} {z s : Shared} {D U : Nat} {Q : Value → Shared → Prop} {E : Value → Shared → Prop} {cn : Str} {cs : Scope} {a : Addr} {ccd : Value} {cl : List (Str × Addr)}
    {l : List Nat} {t1 : Tok} {F : Obj → List (Addr × Obj)}
    (G : Gx w g) (X : Ax (D + 3) (U + 20) A (envX cn cs L a ccd cl) g) (C : Cx g L m ν z s) (hke : cs.kind = .function) (hl : l.length ≤ 100000) (hP : Pt 182 (tabObj #[]) ν F)
    (k : ∀ x dx src tl pb ext ps ν' s', Cx g L m ν' z s' → LexC w ext x dx src tl pb → LexL (1 + (l.count 10 : Nat)) dx src tl pb (ext ++ F (tabObj ps)) [] l ν' → Q (.ref x) s') :
    wpAny (MM w) A (call (.ref 187) [.str (S l) t1]) Q E s := by
  refine r_enterC (D := D + 2) (U := U + 12) (binds := [(Str.ofString "text", .str (S l) t1)]) (locs := [(Str.ofString "text", .str (S l) t1)]) G X C hke rfl (by kernel_rfl) (BindsTo.of_eq rfl) rfl (by decide +kernel) (fun L' => [(Str.ofString "tape", L' + 1)]) (fun _ => by kernel_rfl) (fun _ => by kernel_rfl) rfl rfl rfl ?_
  clear G X C
  intro g' L' s cells G X hg Y C
  simp only [bm, List.foldl] at C
  obtain ⟨o, rfl, ho⟩ := CellsAre.one Y
  simp only [List.cons_append, List.nil_append] at C
  clear Y
  repeat walk_at "go"
  with_reducible refine r_listS C X.hd (by omega) ?_; intro D1 vs n s hvs C
  repeat walk_at "go"
  have hvl : vs.length = l.length := by have := hvs.length; simpa using this
  refine c_turn ?_
  with_reducible refine r_sliceRev C (.nu (by walk_at "mem")) (by omega) ?_; intro tl s C
  repeat walk_at "go"
  with_reducible refine p_storeC (c := L' + 1) C (by kernel_rfl) (by walk_at "pt") ho ?_; intro o' s ho' C
  repeat walk_at "go"
  with_reducible refine c_callK G ?_
  repeat walk_at "go"
  refine ⟨kin_now G C, ?_⟩
  simp only [List.nil_append]
  refine lexI_spec (D := D) (U := U) G X C rfl ?_; intro src ds pb1 es1 n1 u1 u2 s C hA1
  repeat walk_at "go"
  with_reducible refine r_lambda G C (.tail (.tail (.tail (.tail (.tail (.tail hP)))))) (by kernel_rfl) (by simp [TriplesOk]) rfl (clos := [(Str.ofString "tape", L' + 1)]) (by kernel_rfl) (by kernel_rfl) ?_
  intro f c' oc cvs tq ctv pm s hcd hcq C
  repeat walk_at "go"
  with_reducible refine p_setA G C (.nu (by walk_at "mem")) (by walk_at "pt") hA1 (by omega) (by kernel_rfl) ?_; intro es2 n2 s hA2 C
  repeat walk_at "go"
  with_reducible refine c_callK G ?_
  repeat walk_at "go"
  refine ⟨kin_now G C, ?_⟩
  simp only [List.nil_append]
  refine lexI_spec (D := D) (U := U) G X C rfl ?_; intro x dx pb es3 n3 u3 u4 s C hA3
  repeat walk_at "go"
  refine ⟨_, _, C, fun C => ?_⟩
  have C := C.perm (List.perm_middle (l₁ := [_, _])).symm
  have C := C.perm (List.perm_middle (l₁ := [_, _, _, _, _, _, _, _])).symm
  have C := C.perm (List.Perm.swap _ _ _).symm
  generalize hps : tabObj (#[] ++ _) = oP at C
  have C := C.sub (ν' := (dx, dictOf es3 n3) :: (tl, LO vs.reverse 0) :: ([(pb, LO [] 0), (x, instObj 110 dx), (f, kla_obj "<lambda>" _ _ _ _ _ pm c' ctv), (c', oc), (src, instObj 110 ds), (ds, dictOf es2 n2), (L' + 1, o')] ++ F oP)) (List.Sublist.cons_cons _ (List.Sublist.cons_cons _ (List.Sublist.cons_cons _ (List.Sublist.cons_cons _ (List.Sublist.cons_cons _ (List.Sublist.cons_cons _ (List.Sublist.cons _ (List.Sublist.cons_cons _ (List.Sublist.cons_cons _ (List.Sublist.cons _ (List.Sublist.refl _)))))))))))
  subst hps
  unfold lexF at hA3
  have hl2 : lamOf w = some (_, _, _) := rfl
  refine k x dx src tl pb [(pb, LO [] 0), (x, instObj 110 dx), (f, kla_obj "<lambda>" _ _ _ _ _ pm c' ctv), (c', oc), (src, instObj 110 ds), (ds, dictOf es2 n2), (L' + 1, o')] _ _ s C ⟨by walk_at "mem", ⟨ds, es2, n2, _, _, f, by walk_at "mem", by walk_at "mem", hA2, by walk_at "lk", c', oc, cvs, tq, L' + 1, o', _, _, _, pm, ctv, _, _, hl2, by walk_at "mem", by walk_at "mem", hcd, hcq, by walk_at "mem", ho'⟩, by walk_at "mem"⟩
    ⟨es3, n3, _, _, 0, 1, u3, u4, rfl, hA3.le (by omega), by walk_at "lk", by walk_at "lk", by walk_at "lk", by walk_at "lk", rfl, rfl, ?_, rfl, hl⟩
  rw [List.map_reverse]
  exact StrsAre.rev hvs
theorem strs_values (l : List (Str × Tok)) : StrsAre (strValues l) (l.map (·.1)) := by
  induction l with
  | nil => exact .nil
  | cons p r ih => exact .cons p.1 p.2 ih
theorem StrsAre.get {vs : List Value} {ss : List Str} (h : StrsAre vs ss) : ∀ {i : Nat} {y : Str}, ss[i]? = some y → ∃ t, vs[i]? = some (.str y t) := by
  induction h with
  | nil => intro i v e; cases i <;> cases e
  | cons y t _ ih =>
    intro i v e
    cases i with
    | zero => cases e; exact ⟨t, rfl⟩
    | succ i => exact ih e
section
variable {w : World} {A : Around} {g : Heap} {L : Addr} {m : Str → Option Value} {ν : List (Addr × Obj)} {z s : Shared} {D U : Nat} {Q : Value → Shared → Prop} {E : Value → Shared → Prop} {env : Env} {F : Obj → List (Addr × Obj)}
theorem r_find {l : List Nat} {c : Nat} {t u : Tok} (C : Cx g L m ν z s) {p q : List Nat} (hl : l = p ++ c :: q) (hp : c ∉ p) (k : ∀ t s', Cx g L m ν z s' → Q (.int (p.length : Nat) t) s') : wpAny (MM w) A (call (.builtin "str.find") [.str (S l) t, .str (S [c]) u]) Q E s :=
  SC.find (by rw [find_at hl hp]; exact k _ _ (C.tk _))
theorem r_find3 {l : List Nat} {c : Nat} {i : Int} {t u v : Tok} (C : Cx g L m ν z s) {p q : List Nat} (n r : Nat) (hr : p.length = r) (hi : i = n) (hl : l = p ++ c :: q) (hn : n ≤ p.length) (hp : c ∉ p.drop n) (k : ∀ t s', Cx g L m ν z s' → Q (.int (r : Nat) t) s') : wpAny (MM w) A (call (.builtin "str.find") [.str (S l) t, .str (S [c]) u, .int i v]) Q E s := by
  subst hi hr
  refine call_gives F.slot_str_find (typeIs_str _ _ _) F.entry_str_find (F.args_str_find_3 _ _ _) (gives_str_find_from (S l) (S [c]) n t u v) ?_
  have := find3_at hl hn hp
  have k' := k s.toks _ (C.tk (s.toks + 1))
  rw [← this] at k'
  exact k'
theorem r_split {c : Nat} {ps : List (List Nat)} {t u : Tok} (C : Cx g L m ν z s) (hne : ps ≠ []) (hc : ∀ p ∈ ps, c ∉ p) (hl : (jn c ps).length ≤ 1000000) (k : ∀ D vs s', StrsAre vs (ps.map S) → Cx g L m ((D, LO vs 0) :: ν) z s' → Q (.ref D) s') : wpAny (MM w) A (call (.builtin "str.split") [.str (S (jn c ps)) t, .str (S [c]) u]) Q E s := by
  refine splitN1 C.fr C.nw rfl (fun l h' k' e F' N' => ?_) (by rw [S_len, sizeLine_eq]; omega)
  have hv := strs_values l
  rw [e, split_at hne hc] at hv
  refine k _ _ _ hv (C.at F' N' ?_)
  rw [List.map_cons, List.nodup_cons]
  exact ⟨C.fresh, C.nd⟩
theorem r_intS {n : Int} {t : Tok} (C : Cx g L m ν z s) (h0 : 0 ≤ n) (h1 : n < 10 ^ 10) (k : ∀ t s', Cx g L m ν z s' → Q (.int n t) s') : wpAny (MM w) A (call (.type "int") [.str (S (dec n)) t]) Q E s := by
  rw [show S (dec n) = Str.ofString (toString n) from S_u _]
  exact KIN.call_num h0 h1 (k _ _ (C.tk _))
end
inductive An
  | reply
  | proto
  | port (n : Int)
/-- what parse229 makes of a reply -/
inductive P229 (l : List Nat) : An → Prop
  | reply : cut l 0 3 ≠ [50, 50, 57] → P229 l .reply
  | marks (pre f post : List Nat) : cut l 0 3 = [50, 50, 57] → l = pre ++ 40 :: (f ++ 41 :: post) → 40 ∉ pre → 41 ∉ f → (f ++ [41]).getD 0 0 ≠ (40 :: f).getD f.length 0 → P229 l .proto
  | parts (pre : List Nat) (c : Nat) (ps : List (List Nat)) (post : List Nat) : cut l 0 3 = [50, 50, 57] → l = pre ++ 40 :: (jn c ps ++ 41 :: post) → 40 ∉ pre → 41 ∉ jn c ps → (jn c ps ++ [41]).getD 0 0 = c → (40 :: jn c ps).getD (jn c ps).length 0 = c → ps ≠ [] → (∀ p ∈ ps, c ∉ p) → ps.length ≠ 5 → P229 l .proto
  | port (pre : List Nat) (c : Nat) (p0 p1 p2 p4 : List Nat) (n : Int) (post : List Nat) : cut l 0 3 = [50, 50, 57] → l = pre ++ 40 :: (jn c [p0, p1, p2, dec n, p4] ++ 41 :: post) → 40 ∉ pre → 41 ∉ jn c [p0, p1, p2, dec n, p4] → (jn c [p0, p1, p2, dec n, p4] ++ [41]).getD 0 0 = c → (40 :: jn c [p0, p1, p2, dec n, p4]).getD (jn c [p0, p1, p2, dec n, p4]).length 0 = c → (∀ p ∈ [p0, p1, p2, dec n, p4], c ∉ p) → 0 ≤ n → n < 10 ^ 10 → P229 l (.port n)
theorem jn_len (c : Nat) : ∀ ps : List (List Nat), ps.length ≤ (jn c ps).length + 1
  | [] => by simp
  | [p] => by simp
  | p :: r :: rs => by
    have := jn_len c (r :: rs)
    show (r :: rs).length + 1 ≤ (p ++ c :: jn c (r :: rs)).length + 1
    simp only [List.length_append, List.length_cons] at this ⊢
    omega
theorem at_first {pre f post : List Nat} : (pre ++ 40 :: (f ++ 41 :: post)).getD (pre.length + 1) 0 = (f ++ [41]).getD 0 0 := by
  rw [List.getD_eq_getElem?_getD, List.getD_eq_getElem?_getD, List.getElem?_append_right (by omega)]
  rw [show pre.length + 1 - pre.length = 1 from by omega]
  cases f <;> simp
theorem at_last {pre f post : List Nat} : (pre ++ 40 :: (f ++ 41 :: post)).getD (pre.length + f.length) 0 = (40 :: f).getD f.length 0 := by
  rw [List.getD_eq_getElem?_getD, List.getD_eq_getElem?_getD, List.getElem?_append_right (by omega)]
  rw [show pre.length + f.length - pre.length = f.length from by omega, show 40 :: (f ++ 41 :: post) = (40 :: f) ++ 41 :: post from rfl, List.getElem?_append_left (by simp)]
theorem cut_mid {pre f post : List Nat} : cut (pre ++ 40 :: (f ++ 41 :: post)) (pre.length + 1) (pre.length + 1 + f.length) = f := by
  rw [← cut_eq]
  rw [show pre.length + 1 + f.length - (pre.length + 1) = f.length from by omega, ← List.drop_drop, List.drop_left]
  simp
set_option maxHeartbeats 4000000 in
theorem hideD {M : Model} {A : Around} {α : Type} {c : Sem α} {Q : α → Shared → Prop} {E : Value → Shared → Prop} {s : Shared}
    (h : ∀ Q' E', Q' = Q → E' = E → wpAny M A c Q' E' s) : wpAny M A c Q E s := h Q E rfl rfl
theorem p229_spec {w : World} {A : Around} {g : Heap} {L : Addr} {m : Str → Option Value} {ν : List (Addr × Obj)} {z s : Shared} {D U : Nat} {Q : Value → Shared → Prop} {E : Value → Shared → Prop} {cn : Str} {cs : Scope} {a : Addr} {ccd : Value} {cl : List (Str × Addr)}
    {A₀ : Around} {base : Heap} {outer : List Env} {l : List Nat} {t1 : Tok} {tp : Addr} {host v1 : Value} {np : Nat} {r : An}
    (G : Gx w g) (X : Ax (D + 1) (U + 8) A (envX cn cs L a ccd cl) g) (B : Below A₀ base outer g) (hA : A.frames = some (envX cn cs L a ccd cl :: outer)) (C : Cx g L m ν z s) (hke : cs.kind = .function) (hl : l.length ≤ 10000)
    (hp : Kn g ν tp (TO [host, v1] np)) (hr : P229 l r)
    (kp : ∀ n T t s', r = .port n → Cx g L m ((T, TO [host, .int n t] 0) :: ν) z s' → Q (.ref T) s')
    (ke : ∀ K e t vs s', ((r = .reply ∧ K = 44) ∨ (r = .proto ∧ K = 56)) → s' = { z with heap := s'.heap, toks := s'.toks } → Came A₀ base g (envX cn cs L a ccd cl) outer L e t (.ref K) vs ν m s'.heap → E (.ref e) s') :
    wpAny (MM w) A (call (.ref 65) [.str (S l) t1, .ref tp]) Q E s := by
  refine r_enterR (binds := [(Str.ofString "resp", .str (S l) t1), (Str.ofString "peer", .ref tp)]) G X B hA C hke rfl (by kernel_rfl) (BindsTo.of_eq rfl) (locs rfl) rfl rfl rfl (by decide) ?_
  have B₀ := B
  clear G C
  intro g' L' s G X' hg B' FG C
  have hh := X.hd
  clear X
  have X := X'
  simp only [bm, List.foldl] at C
  have ke' : ∀ K, ((r = .reply ∧ K = 44) ∨ (r = .proto ∧ K = 56)) → ∀ (e t : Addr) (vs : List Value) (s' : Shared), s' = { z with heap := s'.heap, toks := s'.toks } → RaisedS base g' (envX cn cs L a ccd cl :: outer) e (.ref K) t vs ν s'.heap → g'.UpToSlots s'.heap → E (.ref e) s' := fun K hK e t vs s' hs R hU => ke K e t vs s' hK hs ⟨⟨g', R, FG, hU⟩, B₀⟩
  refine hideD ?_; intro Q1 E1 hq1 he1
  repeat walk_at "go"
  with_reducible refine r_slice_ns 3 C (by omega) (by omega) ?_; intro t s C
  repeat walk_at "go"
  refine ite_b (fun hb => ?_) (fun hb => ?_)
  · have hb' : cut l 0 3 ≠ [50, 50, 57] := by simpa using hb
    have hrr : r = .reply := by
      cases hr <;> first | rfl | (exfalso; contradiction)
    repeat walk_at "go"
    subst hq1 he1
    refine r_raise (x := Str.ofString "error_reply") (K := 44) (bmB := [.type "Exception", .type "BaseException", .type "object"]) (newId := "Exception.__new__") G B' C hh (by kernel_rfl) (by kernel_rfl) PySem.F.excBase_Exception rfl PySem.F.excBase_Exception ?_
    repeat walk_at "go"
    refine ⟨by simp, _, ν, C, fun e t s' _ hs R hU => ke' 44 (.inl ⟨hrr, rfl⟩) e t _ s' hs R hU⟩
  · have hb' : cut l 0 3 = [50, 50, 57] := by simpa using hb
    obtain ⟨pre, f, post, hle, hpre, hf, hcs⟩ : ∃ pre f post, l = pre ++ 40 :: (f ++ 41 :: post) ∧ 40 ∉ pre ∧ 41 ∉ f ∧
        (((f ++ [41]).getD 0 0 ≠ (40 :: f).getD f.length 0 ∧ r = .proto) ∨ ∃ c ps, f = jn c ps ∧ (f ++ [41]).getD 0 0 = c ∧ (40 :: f).getD f.length 0 = c ∧ ps ≠ [] ∧ (∀ p ∈ ps, c ∉ p) ∧
          ((ps.length ≠ 5 ∧ r = .proto) ∨ ∃ p0 p1 p2 p4 n, ps = [p0, p1, p2, dec n, p4] ∧ r = .port n ∧ 0 ≤ n ∧ n < 10 ^ 10)) := by
      cases hr with
      | reply h => exact absurd hb' h
      | marks pre f post _ h1 h2 h3 h4 => exact ⟨pre, f, post, h1, h2, h3, .inl ⟨h4, rfl⟩⟩
      | parts pre c ps post _ h1 h2 h3 h4 h5 h6 h7 h8 => exact ⟨pre, _, post, h1, h2, h3, .inr ⟨c, ps, rfl, h4, h5, h6, h7, .inl ⟨h8, rfl⟩⟩⟩
      | port pre c p0 p1 p2 p4 n post _ h1 h2 h3 h4 h5 h6 h7 h8 => exact ⟨pre, _, post, h1, h2, h3, .inr ⟨c, _, rfl, h4, h5, by simp, h6, .inr ⟨p0, p1, p2, p4, n, rfl, rfl, h7, h8⟩⟩⟩
    have hll : l.length = pre.length + (f.length + (post.length + 1) + 1) := by rw [hle]; simp
    repeat walk_at "go"
    with_reducible refine r_find C hle hpre ?_; intro t s C
    repeat walk_at "go"
    refine ite_f (decide_eq_false (by omega)) ?_
    repeat walk_at "go"
    with_reducible refine r_find3 (p := pre ++ 40 :: f) (q := post) C (pre.length + 1) (pre.length + 1 + f.length) (by simp; omega) (by omega) (by rw [hle]; simp) (by simp) (by simp [hf]) ?_; intro t s C
    repeat walk_at "go"
    refine ite_f (decide_eq_false (by omega)) ?_
    repeat walk_at "go"
    with_reducible refine r_itemS C (by omega) (by omega) (by omega) ?_; intro t s C
    repeat walk_at "go"
    with_reducible refine r_itemS C (by omega) (by omega) (by omega) ?_; intro t s C
    repeat walk_at "go"
    have i1 : itemL l ((pre.length : Nat) + 1) = [(f ++ [41]).getD 0 0] := by
      unfold itemL
      rw [show ((pre.length : Int) + 1).toNat = pre.length + 1 from by omega, hle, at_first]
    have i2 : itemL l ((pre.length + 1 + f.length : Nat) - 1) = [(40 :: f).getD f.length 0] := by
      unfold itemL
      rw [show (((pre.length + 1 + f.length : Nat) : Int) - 1).toNat = pre.length + f.length from by omega, hle, at_last]
    refine ite_b (fun hm => ?_) (fun hm => ?_)
    · rw [i1, i2] at hm
      have hm' : (f ++ [41]).getD 0 0 ≠ (40 :: f).getD f.length 0 := by simpa using hm
      have hrr : r = .proto := by
        rcases hcs with ⟨_, h⟩ | ⟨c, ps, rfl, h1, h2, _⟩
        · exact h
        · exact absurd (h1.trans h2.symm) hm'
      repeat walk_at "go"
      subst hq1 he1
      refine r_raise (x := Str.ofString "error_proto") (K := 56) (bmB := [.type "Exception", .type "BaseException", .type "object"]) (newId := "Exception.__new__") G B' C hh (by kernel_rfl) (by kernel_rfl) PySem.F.excBase_Exception rfl PySem.F.excBase_Exception ?_
      repeat walk_at "go"
      refine ⟨by simp, _, ν, C, fun e t s' _ hs R hU => ke' 56 (.inr ⟨hrr, rfl⟩) e t _ s' hs R hU⟩
    · rw [i1, i2] at hm
      have hm' : (f ++ [41]).getD 0 0 = (40 :: f).getD f.length 0 := by simpa using hm
      rcases hcs with ⟨h, _⟩ | ⟨c, ps, rfl, h1, h2, hne, hc, hcs⟩
      · exact absurd hm' h
      rw [h1] at i1
      repeat walk_at "go"
      with_reducible refine r_slice_ss (pre.length + 1) (pre.length + 1 + (jn c ps).length) C (by omega) (by omega) (by omega) ?_; intro t s C
      have hcm : cut l (pre.length + 1) (pre.length + 1 + (jn c ps).length) = jn c ps := by rw [hle]; exact cut_mid
      rw [hcm] at *
      repeat walk_at "go"
      with_reducible refine r_itemS C (by omega) (by omega) (by omega) ?_; intro t s C
      rw [i1] at *
      repeat walk_at "go"
      with_reducible refine r_split C hne hc (by omega) ?_; intro D1 vs s hvs C
      have hvl : vs.length = ps.length := by have := hvs.length; simpa using this
      have hpl : ps.length ≤ 10001 := by
        have := jn_len c ps
        omega
      repeat walk_at "go"
      with_reducible refine r_lenL C (.nu (by walk_at "mem")) (by omega) ?_; intro t s C
      repeat walk_at "go"
      refine ite_b (fun hn => ?_) (fun hn => ?_)
      · have hn' : ps.length ≠ 5 := by
          have : (vs.length : Int) ≠ 5 := by simpa using hn
          omega
        have hrr : r = .proto := by
          rcases hcs with ⟨_, h⟩ | ⟨p0, p1, p2, p4, n, rfl, _⟩
          · exact h
          · exact absurd rfl hn'
        repeat walk_at "go"
        subst hq1 he1
        refine r_raise (x := Str.ofString "error_proto") (K := 56) (bmB := [.type "Exception", .type "BaseException", .type "object"]) (newId := "Exception.__new__") G B' C hh (by kernel_rfl) (by kernel_rfl) PySem.F.excBase_Exception rfl PySem.F.excBase_Exception ?_
        repeat walk_at "go"
        refine ⟨by simp, _, ν, C.tail, fun e t s' _ hs R hU => ke' 56 (.inr ⟨hrr, rfl⟩) e t _ s' hs R hU⟩
      · have hn' : ps.length = 5 := by
          have : (vs.length : Int) = 5 := by simpa using hn
          omega
        rcases hcs with ⟨h, _⟩ | ⟨p0, p1, p2, p4, n, rfl, hrr, hn0, hn1⟩
        · exact absurd hn' h
        obtain ⟨t3, h3⟩ := StrsAre.get hvs (i := 3) (y := S (dec n)) rfl
        repeat walk_at "go"
        with_reducible refine r_itemT C (hp.base hg |>.cons) (by omega) (by omega) (x := host) rfl ?_
        repeat walk_at "go"
        with_reducible refine r_itemL C (.nu (by walk_at "mem")) (by omega) (by omega) h3 ?_
        repeat walk_at "go"
        with_reducible refine r_intS C hn0 hn1 ?_; intro t s C
        repeat walk_at "go"
        with_reducible refine r_newT C ?_; intro T s C
        repeat walk_at "go"
        subst hq1 he1
        refine ⟨_, _, C, fun C => ?_⟩
        refine kp n T t s hrr (C.sub (List.Sublist.cons_cons _ (List.Sublist.cons _ (List.Sublist.refl _))))
abbrev anotherL : List Nat := [97, 110, 111, 116, 104, 101, 114, 32, 114, 101, 112, 108, 121]
abbrev notReadL : List Nat := [110, 111, 116, 32, 116, 111, 32, 98, 101, 32, 114, 101, 97, 100]
set_option maxHeartbeats 4000000 in
theorem answer_spec {w : World} {A : Around} {g : Heap} {L : Addr} {m : Str → Option Value} {ν : List (Addr × Obj)} {z s : Shared} {D U : Nat} {Q : Value → Shared → Prop} {E : Value → Shared → Prop} {cn : Str} {cs : Scope} {a : Addr} {ccd : Value} {cl : List (Str × Addr)}
    {l : List Nat} {t1 : Tok} {tp : Addr} {host v1 : Value} {np : Nat} {r : An}
    (G : Gx w g) (X : Ax (D + 2) (U + 16) A (envX cn cs L a ccd cl) g) (hA : A.frames = some [envX cn cs L a ccd cl]) (hA₀ : ∃ A₀ : Around, A₀.frames = some []) (C : Cx g L m ν z s) (hke : cs.kind = .function) (hl : l.length ≤ 10000)
    (hp : Kn g ν tp (TO [host, v1] np)) (hr : P229 l r)
    (kr : r = .reply → ∀ t s', Cx g L m ν z s' → Q (.str (S anotherL) t) s')
    (kq : r = .proto → ∀ t s', Cx g L m ν z s' → Q (.str (S notReadL) t) s')
    (kp : ∀ n, r = .port n → ∀ T t s', Cx g L m ((T, TO [host, .int n t] 0) :: ν) z s' → Q (.ref T) s') :
    wpAny (MM w) A (call (.ref 211) [.str (S l) t1, .ref tp]) Q E s := by
  refine r_enterT (D := D + 1) (U := U + 8) (binds := [(Str.ofString "word", .str (S l) t1), (Str.ofString "peer", .ref tp)]) G X hA hA₀ C hke rfl (by kernel_rfl) (BindsTo.of_eq rfl) (locs rfl) rfl rfl rfl (by decide) ?_
  have G₀ := G
  have nd := C.nd
  clear G X C
  intro g' L' s G X hg B C
  simp only [bm, List.foldl] at C
  have hp' := hp.base hg
  obtain ⟨p, lo, mean, mg, mb, T₀⟩ := G₀.top
  repeat walk_at "go"
  refine wpAny_Try_except ?_
  repeat walk_at "go"
  with_reducible refine c_callK G ?_
  repeat walk_at "go"
  refine ⟨kin_now G C, ?_⟩
  simp only [List.nil_append]
  refine p229_spec (D := D) (U := U) G X B (Around.frames_deeper B.stack) C rfl hl hp' hr (fun n T t s hrr C => ?_) (fun K e t vs s hrr hs R => ?_)
  · refine ⟨g', _, _, KtsTurn.refl, C, fun C => kp n hrr T t s C⟩
  · refine R.land fun h' R => ?_
    rcases hrr with ⟨hrr, rfl⟩ | ⟨hrr, rfl⟩
    · refine Came.hit (KF := KF w) R G₀.kin T₀ (by kernel_rfl) (by kernel_rfl) fun h₂ g₂ T₂ F₂ N₂ B₂ => ?_
      have C : Cx g₂ L' _ ν z { s with heap := h₂ } := ⟨F₂, N₂, nd, by rw [hs]⟩
      repeat walk_at "go"
      refine ⟨g₂, _, ν, T₂, C, fun C => kr hrr _ _ C⟩
    · refine Came.miss (KF := KF w) R G₀.kin T₀ (C' := 44) (by kernel_rfl) (by kernel_rfl) (by kernel_rfl) (by kernel_rfl) ?_
      refine Came.hit (KF := KF w) R G₀.kin T₀ (by kernel_rfl) (by kernel_rfl) fun h₂ g₂ T₂ F₂ N₂ B₂ => ?_
      have C : Cx g₂ L' _ ν z { s with heap := h₂ } := ⟨F₂, N₂, nd, by rw [hs]⟩
      repeat walk_at "go"
      refine ⟨g₂, _, ν, T₂, C, fun C => kq hrr _ _ C⟩
section
variable {w : World} {A : Around} {g : Heap} {L : Addr} {m : Str → Option Value} {ν : List (Addr × Obj)} {z s : Shared} {D U : Nat} {Q : Value → Shared → Prop} {E : Value → Shared → Prop} {env : Env} {F : Obj → List (Addr × Obj)}
theorem p_append {vs : List Value} {l : Addr} {n : Nat} {v : Value} (C : Cx g L m ν z s) (hl : Pt l (LO vs n) ν F) (hv : vs.length ≤ 1000000) (k : ∀ n' s', Cx g L m (F (LO (vs ++ [v]) n')) z s' → Q .none s') : wpAny (MM w) A (call (.builtin "list.append") [.ref l, v]) Q E s := by
  refine wpAny_list_append_plain (items := vs.toArray) ⟨n, C.get hl.mem⟩ (fun h' hp hs => ?_) (by rw [List.size_toArray, sizeLine_eq]; omega)
  obtain ⟨n', ho⟩ := hp
  rw [show vs.toArray.push v = (vs ++ [v]).toArray from by simp] at ho
  have := C.upd (k := s.toks) hl.mem hs ho
  rw [hl.up C.nd] at this
  exact k n' _ this
theorem r_sum {vs : List Value} {ns : List Int} {l : Addr} {n : Nat} (C : Cx g L m ν z s) (hh : A.handled = none) (hl : Kn g ν l (LO vs n)) (hi : IntsAre vs ns) (k : ∀ t s', Cx g L m ν z s' → Q (.int ns.sum t) s') : wpAny (MM w) A (call (.builtin "sum") [.ref l]) Q E s := by
  obtain ⟨xs, hxs⟩ := hi.allInts.items
  refine sum_intListG (xs := xs) hh (hxs ▸ ⟨_, hl.get C, rfl, n, rfl⟩) (fun h' tk t' hk => ?_)
  have e : preSum (numAt xs) xs.size = ns.sum := by
    rw [preSum_eq, List.take_of_length_le (by simp), ← nums_intItems, ← hxs]
    rw [show vs.toArray.toList = vs from rfl, hi.numsOf]
  rw [e]
  exact k t' _ (C.moved (k := tk) hk)
theorem r_sorted {vs : List Value} {ns : List Int} {l : Addr} {n : Nat} (C : Cx g L m ν z s) (hl : Kn g ν l (LO vs n)) (hi : IntsAre vs ns) (h64 : vs.length < 64) (k : ∀ D vs' ns' n' s', IntsAre vs' ns' → ns'.Perm ns → ns'.Pairwise (· ≤ ·) → Cx g L m ((D, LO vs' n') :: ν) z s' → Q (.ref D) s') : wpAny (MM w) A (call (.builtin "sorted") [.ref l]) Q E s := by
  refine sorted_N C.fr C.nw ⟨_, hl.get C, rfl, n, rfl⟩ hi h64 (fun h' vs' ns' e F' N' h1 h2 h3 => ?_)
  refine k _ vs' ns' e _ h1 h2 h3 (C.at F' N' ?_)
  rw [List.map_cons, List.nodup_cons]
  refine ⟨fun hx => ?_, C.nd⟩
  obtain ⟨p, hp, e⟩ := List.mem_map.mp hx
  have := Heap.lt_size (C.nw p hp).1
  rw [show p.1 = s.heap.objs.size + 1 from e] at this
  exact absurd this (Nat.not_lt.mpr (Nat.le_succ _))
end
section
variable {w : World} {A : Around} {g : Heap} {L : Addr} {m : Str → Option Value} {ν : List (Addr × Obj)} {z s : Shared} {D U : Nat} {Q : Value → Shared → Prop} {E : Value → Shared → Prop} {env : Env} {F : Obj → List (Addr × Obj)}
theorem p_extend {vs us : List Value} {l b : Addr} {n n2 : Nat} (C : Cx g L m ν z s) (hl : Pt l (LO vs n) ν F) (hb : (b, LO us n2) ∈ ν) (hv : vs.length + us.length ≤ 1000000) (k : ∀ n' s', Cx g L m (F (LO (vs ++ us) n')) z s' → Q .none s') : wpAny (MM w) A (call (.builtin "list.extend") [.ref l, .ref b]) Q E s := by
  have hd : ¬(!vs.toArray.isEmpty && Builtin.List.listTooLong (vs.toArray.size + us.toArray.size)) = true := by
    unfold Builtin.List.listTooLong
    rw [List.size_toArray, List.size_toArray, sizeLine_eq]
    simp only [Bool.and_eq_true, decide_eq_true_eq, not_and]
    intro _; omega
  have e1 : vs.toArray.toList.length ≤ sizeLine := by rw [sizeLine_eq]; simp; omega
  have e2 : vs.toArray.size + us.toArray.size ≤ sizeLine + 1 := by rw [List.size_toArray, List.size_toArray, sizeLine_eq]; omega
  by_cases hu : us = []
  · subst hu
    refine kxn_extend C.fr C.nw (its := vs.toArray) (its2 := [].toArray) (n := n) (n2 := n2) hb rfl (upd_up ν hl.mem C.nd) hd e1 e2 (fun h' F' N' => ?_)
    rw [hl.up C.nd] at N'
    have := C.at (k := s.toks) F' N' (by rw [hl.keys]; exact C.nd)
    refine k n _ ?_
    rw [List.append_nil]
    exact this
  · refine kl_extend C.fr C.nw (its := vs.toArray) (its2 := us.toArray) (l := vs ++ us) (n := n) (n2 := n2) hb rfl (by simp [hu]) (upd_up ν hl.mem C.nd) hd e1 e2 (fun h' F' N' => ?_)
    rw [hl.up C.nd] at N'
    exact k _ _ (C.at (k := s.toks) F' N' (by rw [hl.keys]; exact C.nd))
/-- a for loop behind its iterator, with any target -/
theorem r_forG {target : Expr} {body : List Stmt} {I : Addr} {n : Nat} {P : Nat → Value → Prop} {St : Nat → Heap → Prop} {K : List (Addr × Obj) → Prop} {oI : Obj} {R : Result → Shared → Prop}
    (hh : A.handled = none) (T : It w g I n P St K) (C : Cx g L m ((I, oI) :: ν) z s) (hst : St 0 s.heap)
    (J : Nat → (Str → Option Value) → List (Addr × Obj) → Prop) (h0 : J 0 m ν) (hK : ∀ i m ν, J i m ν → K ν)
    (turn : ∀ i v m ν oI s, i < n → P i v → J i m ν → Cx g L m ((I, oI) :: ν) z s →
      wpAny (MM w) A (assign target env v) (fun _ s₁ => wpAny (MM w) A (execs body env) (fun f s₂ => match f with | .next | .cont => ∃ m' ν', Cx g L m' ((I, oI) :: ν') z s₂ ∧ J (i + 1) m' ν' | .brk => R (.ok .next) s₂ | .ret v => R (.ok (.ret v)) s₂) (fun _ _ => False) s₁) (fun _ _ => False) s)
    (done : ∀ m ν s, J n m ν → Cx g L m ν z s → R (.ok .next) s) (ht : ∀ v, letOwnedTupleGo target (.ref I) v = pure () := by intro _; rfl) :
    codeAny (MM w) A (.forLoop target (.ref I) body [] env) R s := by
  obtain ⟨fp, W, hfp⟩ := T.walks A hh
  refine codeAny_forLoop (fun k s => ∃ i m ν oI, k = n + 1 - i ∧ i ≤ n ∧ Cx g L m ((I, oI) :: ν) z s ∧ St i s.heap ∧ J i m ν) ?_ (n + 1) ⟨0, m, ν, oI, rfl, Nat.zero_le _, C, hst, h0⟩ ht
  rintro k s ⟨i, m, ν, oI, rfl, hi, C, st', hJ⟩
  by_cases hlt : i < n
  · refine W.item i s _ _ hlt st' fun v h' tk hP st'' hk => ?_
    obtain ⟨o', ho'⟩ := T.ob _ _ st''
    have Ca := C.chg (k := tk) (.head _) (fun b ob hb e => hk b ob (by simpa using hb) e) ho'
    rw [up_head C.head_ne] at Ca
    refine wpAny_mono (turn i v m ν o' _ hlt hP hJ Ca) (fun _ s₁ h₁ => wpAny_mono h₁ (fun f s₂ h₂ => ?_) fun _ _ h => h.elim) fun _ _ h => h.elim
    have fin : (∃ m' ν', Cx g L m' ((I, o') :: ν') z s₂ ∧ J (i + 1) m' ν') → ∃ k', k' < n + 1 - i ∧ ∃ i m ν oI, k' = n + 1 - i ∧ i ≤ n ∧ Cx g L m ((I, oI) :: ν) z s₂ ∧ St i s₂.heap ∧ J i m ν := by
      rintro ⟨m', ν', C₂, hJ'⟩
      refine ⟨n + 1 - (i + 1), by omega, i + 1, m', ν', o', rfl, hlt, C₂, ?_, hJ'⟩
      exact It.move (s₁ := { s with heap := h', toks := tk }) W hfp st'' Ca C₂ (.head _) (.head _) (hK _ _ _ hJ) (hK _ _ _ hJ') (fun p hp => .tail _ hp) (fun p hp => .tail _ hp)
    cases f with
    | next => exact fin h₂
    | cont => exact fin h₂
    | brk => exact h₂
    | ret v => exact h₂
  · have hin : i = n := by omega
    subst hin
    refine W.done s _ _ st' fun h' tk hk => ?_
    exact wpAny_execs_nil (done m ν _ hJ (C.off (fun b ob hb e => hk b ob (by simpa using hb) e)))
end
/-- some entries of the ledger changed at once -/
theorem Cx.re {g : Heap} {L : Addr} {m : Str → Option Value} {ν ν' : List (Addr × Obj)} {z s : Shared} (C : Cx g L m ν z s) (W : List Addr) {h' : Heap} {k : Nat} (hk : ∀ b ob, b ∉ W → s.heap.get? b = some ob → h'.get? b = some ob) (hW : ∀ b ∈ W, b ∈ ν.map (·.1)) (hkeys : ν'.map (·.1) = ν.map (·.1))
    (hnew : ∀ p ∈ ν', (p ∈ ν ∧ p.1 ∉ W) ∨ h'.get? p.1 = some p.2) : Cx g L m ν' z { s with heap := h', toks := k } := by
  have hkey : ∀ b ∈ ν.map (·.1), b ≠ L ∧ g.get? b = none := fun b hb => by
    obtain ⟨p, hp, rfl⟩ := List.mem_map.mp hb
    exact (C.nw p hp).2
  obtain ⟨⟨oL, es, ep, hL, r⟩, keep, ab⟩ := C.fr
  refine C.at ⟨⟨oL, es, ep, hk _ _ (fun hb => (hkey _ (hW _ hb)).1 rfl) hL, r⟩, fun b ob e => hk b ob (fun hb => ?_) (keep b ob e), ab⟩ (fun p hp => ?_) (by rw [hkeys]; exact C.nd)
  · have := (hkey _ (hW _ hb)).2
    rw [e] at this; cases this
  · have hp1 : p.1 ∈ ν.map (·.1) := by rw [← hkeys]; exact List.mem_map.mpr ⟨p, hp, rfl⟩
    refine ⟨?_, hkey _ hp1⟩
    rcases hnew p hp with ⟨h1, h2⟩ | h1
    · exact hk _ _ h2 (C.nw p h1).1
    · exact h1
section
variable {w : World} {A : Around} {g : Heap} {L : Addr} {m : Str → Option Value} {ν : List (Addr × Obj)} {z s : Shared} {Q : Value → Shared → Prop} {E : Value → Shared → Prop} {env : Env}
theorem r_cstore {mc : Str → Option Value} {oc : Obj} {scope : Scope} {cl : List (Str × Addr)} {C' : Addr} {x : Str} {v : Value} {Q : Unit → Shared → Prop} (C : Cx g L m ((C', oc) :: ν) z s) (hn : NsO oc mc) (hx : scope.names.lookup x = some .local) (hkind : scope.kind = .function)
    (k : ∀ oc' s', NsO oc' (st mc x v) → Cx g L m ((C', oc') :: ν) z s' → Q () s') : wpAny (MM w) A (storeName (compEnvC scope cl C' env) x v) Q E s := by
  refine wpAny_storeName_local (lookup_relabel_local hx) (hn _ _ (C.get (.head _))) (fun h'' hn'' hs'' => ?_) (by simp [compEnvC, relabel, hkind])
  obtain ⟨oc', hoc', hns'⟩ := nsO_of hn''
  have Cb := C.chg (k := s.toks + 1) (.head _) (fun b ob hb e => hs''.extBut b ob hb e) hoc'
  rw [up_head C.head_ne] at Cb
  exact k oc' _ hns' Cb
theorem r_unpackP {v₁ v₂ : Value} {t : Addr} {k' : Nat} {e₁ e₂ : Expr} {pos : Pos} {Q : Unit → Shared → Prop} (C : Cx g L m ν z s) (hh : A.handled = none) (ht : s.heap.IsTuple t #[v₁, v₂])
    (k : ∀ s', Cx g L m ν z s' → wpAny (MM w) A (assign e₁ env v₁) (fun _ s₁ => wpAny (MM w) A (assign e₂ env v₂) Q E s₁) E s')
    (he : (assignEach [e₁, e₂] env).map (·.2) = [assign e₁ env, assign e₂ env] := by kernel_rfl) (hstar : (assignEach [e₁, e₂] env).findIdx? (·.1) = none := by kernel_rfl) : wpAny (MM w) A (assign (.Tuple [e₁, e₂] k' pos) env (.ref t)) Q E s := by
  refine unpackN_ (items := #[v₁, v₂]) C.fr C.nw ht hh ?_ hstar (fun h' F N => ?_)
  · have := congrArg List.length he
    simpa using this
  · rw [he]
    exact c_inOrder (wpAny_mono (k _ (C.at F N C.nd)) (fun _ s₁ h => c_inOrder (wpAny_mono h (fun _ s₂ h => c_inOrder0 h) fun _ _ h => h)) fun _ _ h => h)
/-- what a numbering iterator stands at -/
def EnSt (e it l : Addr) (items : List Value) (i : Nat) (h : Heap) : Prop := (∃ old, IsEnum h e it i old) ∧ h.IsListIter it l i ∧ h.IsList l items.toArray
theorem r_enum {vs : List Value} {l : Addr} {n : Nat} (C : Cx g L m ν z s) (hl : Kn g ν l (LO vs n)) (k : ∀ e it oe oi s', EnSt e it l vs 0 s'.heap → Cx g L m ((e, oe) :: (it, oi) :: ν) z s' → Q (.ref e) s') : wpAny (MM w) A (call (.type "enumerate") [.ref l]) Q E s := by
  have hL : s.heap.IsList l vs.toArray := ⟨_, hl.get C, rfl, n, rfl⟩
  refine call_enumerate_list hL (fun h' h1 h2 h3 h4 => ?_)
  have C1 := C.moved (h' := h') (k := s.toks) h4
  obtain ⟨oi, hoi⟩ : ∃ oi, h'.get? s.heap.objs.size = some oi := by obtain ⟨o, ho, _⟩ := h2; exact ⟨o, ho⟩
  obtain ⟨oe, hoe⟩ : ∃ oe, h'.get? (s.heap.objs.size + 1) = some oe := ⟨_, h1⟩
  have lt : ∀ p ∈ ν, p.1 < s.heap.objs.size := fun p hp => Heap.lt_size (C.nw p hp).1
  have hg : ∀ b, s.heap.objs.size ≤ b → g.get? b = none ∧ b ≠ L := fun b hb => by
    refine ⟨?_, ?_⟩
    · cases q : g.get? b with
      | none => rfl
      | some o => exact absurd (Heap.lt_size (C.fr.keep b o q)) (Nat.not_lt.mpr hb)
    · rintro rfl
      obtain ⟨o, _, _, ho, _⟩ := C.fr.ns
      exact absurd (Heap.lt_size ho) (Nat.not_lt.mpr hb)
  refine k _ _ oe oi _ ⟨⟨_, h1⟩, h2, hL.at fun o e => h4 _ _ e⟩ (C1.at (k := s.toks) C1.fr ?_ ?_)
  · intro p hp
    rcases List.mem_cons.mp hp with rfl | hp
    · exact ⟨hoe, (hg _ (Nat.le_succ _)).2, (hg _ (Nat.le_succ _)).1⟩
    · rcases List.mem_cons.mp hp with rfl | hp
      · exact ⟨hoi, (hg _ (Nat.le_refl _)).2, (hg _ (Nat.le_refl _)).1⟩
      · exact C1.nw p hp
  · rw [List.map_cons, List.map_cons, List.nodup_cons, List.nodup_cons]
    refine ⟨fun hx => ?_, C.fresh, C.nd⟩
    rcases List.mem_cons.mp hx with hx | hx
    · exact absurd (show s.heap.objs.size + 1 = s.heap.objs.size from hx) (Nat.succ_ne_self _)
    · obtain ⟨p, hp, e⟩ := List.mem_map.mp hx
      have := lt p hp
      rw [show p.1 = s.heap.objs.size + 1 from e] at this
      exact absurd this (Nat.not_lt.mpr (Nat.le_succ _))
/-- a comprehension over numbered items -/
theorem r_compE {elt iter : Expr} {x₁ x₂ : Str} {px₁ px₂ tpos pos : Pos} {k' : Nat} {scope : Scope} {cl : List (Str × Addr)} {e it l : Addr} {oe oi : Obj} {items : List Value} {nl : Nat} {R : Value → Addr → Result → Shared → Prop} (hh : A.handled = none) (C : Cx g L m ((e, oe) :: (it, oi) :: ν) z s) (hst : EnSt e it l items 0 s.heap)
    (hcell : ∀ y ∈ scope.names, y.2 ≠ .cell) (hkind : scope.kind = .function) (hx₁ : scope.names.lookup x₁ = some .local) (hx₂ : scope.names.lookup x₂ = some .local) (hne : (x₁ == x₂) = false) (hsz : items.length ≤ 1000000)
    (J : Nat → List Value → List (Addr × Obj) → Prop) (h0 : J 0 [] ν) (hK : ∀ i ys ν, J i ys ν → Kn g ν l (LO items nl))
    (turn : ∀ i v ys ν C' oc mc D k oe oi t s, items[i]? = some v → J i ys ν → NsO oc mc → mc x₁ = some (.int (i : Nat) t) → mc x₂ = some v → Cx g L m ((C', oc) :: (D, LO ys k) :: (e, oe) :: (it, oi) :: ν) z s →
      wpAny (MM w) A (eval elt (compEnvC scope cl C' env)) (fun y s₂ => ∃ ν', Cx g L m ((C', oc) :: (D, LO ys k) :: (e, oe) :: (it, oi) :: ν') z s₂ ∧ J (i + 1) (ys ++ [y]) ν') (fun _ _ => False) s)
    (done : ∀ ys ν D C' oc mc k s, J items.length ys ν → NsO oc mc → Cx g L m ((C', oc) :: (D, LO ys k) :: ν) z s → R (.ref D) C' (.ok .next) s)
    (he : ∀ C', (assignEach [.Name x₁ px₁, .Name x₂ px₂] (compEnvC scope cl C' env)).map (·.2) = [assign (.Name x₁ px₁) (compEnvC scope cl C' env), assign (.Name x₂ px₂) (compEnvC scope cl C' env)] := by intro _; kernel_rfl)
    (hstar : ∀ C', (assignEach [.Name x₁ px₁, .Name x₂ px₂] (compEnvC scope cl C' env)).findIdx? (·.1) = none := by intro _; kernel_rfl) :
    wpAny (MM w) A (newList []) (fun acc s₃ => wpAny (MM w) A (newFunctionEnv scope env.globals cl [] env.qual none .none (some env)) (fun cenv s₄ =>
      codeAny (MM w) A (.compStart (.ListComp elt [⟨.Tuple [.Name x₁ px₁, .Name x₂ px₂] k' tpos, iter, [], 0⟩] scope pos) 0 (.ref e) acc { cenv with scope := relabel scope env }) (R acc cenv.locals) s₄) E s₃) E s := by
  have hle : l ≠ e := fun q => by
    have h1 := (hK _ _ _ h0).get C.tail.tail
    have h2 := C.get (.head _)
    obtain ⟨⟨old, h3⟩, _, _⟩ := hst
    unfold IsEnum at h3
    rw [← q, h1] at h3
    exact absurd (congrArg Obj.cls (Option.some.inj h3)) (by simp)
  have hli : l ≠ it := fun q => by
    have h1 := (hK _ _ _ h0).get C.tail.tail
    obtain ⟨_, ⟨o, h3, h4, _⟩, _⟩ := hst
    rw [← q, h1] at h3
    cases h3
    exact absurd h4 (by simp)
  have hei : e ≠ it := fun q => C.head_ne (by simp [q])
  have W := WalksT.enumerate (prog := P0) (w := w) hh e it l hei hle hli items.toArray
  refine wpAny_newObj_type (wpAny_newFunctionEnv hcell (by intro y hy; simp at hy) (fun h₁ hns₁ hsb₁ => ?_) hkind)
  dsimp only at hns₁ hsb₁ ⊢
  have C1 : Cx g L m ((s.heap.objs.size, LO [] 0) :: (e, oe) :: (it, oi) :: ν) z { s with heap := s.heap.push (LO [] 0), toks := s.toks } := C.push _ rfl _
  have C2 := C1.push { cls := .type "dict", data := .dict #[] } rfl s.toks
  obtain ⟨oc, hoc, hns⟩ := nsO_of hns₁
  have hkeep : ∀ b ob, b ≠ (s.heap.push (LO [] 0)).objs.size → ((s.heap.push (LO [] 0)).push { cls := .type "dict", data := .dict #[] }).get? b = some ob → h₁.get? b = some ob := fun b ob hb e => hsb₁.extBut b ob hb e
  have C3 := C2.chg (k := s.toks + ([] : List (Str × Value)).length) (.head _) hkeep hoc
  rw [up_head C2.head_ne] at C3
  generalize hC' : (s.heap.push (LO [] 0)).objs.size = C' at C3 hns₁ hsb₁ ⊢
  generalize hD : s.heap.objs.size = D at C3 ⊢
  have move : ∀ {i : Nat} {s₁ s₂ : Shared} {m₁ m₂ : Str → Option Value} {ν₁ ν₂ μ₁ μ₂ : List (Addr × Obj)} {oe oi : Obj}, EnSt e it l items i s₁.heap → Cx g L m₁ μ₁ z s₁ → Cx g L m₂ μ₂ z s₂ → (e, oe) ∈ μ₁ → (it, oi) ∈ μ₁ → (e, oe) ∈ μ₂ → (it, oi) ∈ μ₂ → Kn g ν₁ l (LO items nl) → Kn g ν₂ l (LO items nl) → (∀ p ∈ ν₁, p ∈ μ₁) → (∀ p ∈ ν₂, p ∈ μ₂) → EnSt e it l items i s₂.heap := by
    intro i s₁ s₂ m₁ m₂ ν₁ ν₂ μ₁ μ₂ oe oi st c1 c2 a1 a2 b1 b2 k1 k2 j1 j2
    refine W.frame i _ _ st fun b hb ob eb => ?_
    rcases List.mem_cons.mp hb with rfl | hb
    · rw [c1.get a1] at eb; cases eb; exact c2.get b1
    · rcases List.mem_cons.mp hb with rfl | hb
      · rw [c1.get a2] at eb; cases eb; exact c2.get b2
      · rw [List.mem_singleton.mp hb] at eb ⊢
        rw [(k1.mono j1).get c1] at eb; cases eb; exact (k2.mono j2).get c2
  have hst3 : EnSt e it l items 0 h₁ := move (s₂ := { s with heap := h₁, toks := s.toks + ([] : List (Str × Value)).length }) hst C C3 (.head _) (.tail _ (.head _)) (.tail _ (.tail _ (.head _))) (.tail _ (.tail _ (.tail _ (.head _)))) (hK _ _ _ h0) (hK _ _ _ h0) (fun p hp => .tail _ (.tail _ hp)) (fun p hp => .tail _ (.tail _ (.tail _ (.tail _ hp))))
  have loop : ∀ s₃ : Shared, s₃ = { s with heap := h₁, toks := s.toks + ([] : List (Str × Value)).length } →
      codeAny (MM w) A (.compLoop (.ListComp elt [⟨.Tuple [.Name x₁ px₁, .Name x₂ px₂] k' tpos, iter, [], 0⟩] scope pos) 0 (.ref e) (.ref D) (compEnvC scope cl C' env)) (R (.ref D) C') s₃ := by
    rintro s₃ rfl
    refine LCp.codeAny_compLoop_pair (fun k s => ∃ i ys ν oe oi oc mc kk, k = items.length + 1 - i ∧ i ≤ items.length ∧ ys.length ≤ i ∧ Cx g L m ((C', oc) :: (D, LO ys kk) :: (e, oe) :: (it, oi) :: ν) z s ∧ EnSt e it l items i s.heap ∧ NsO oc mc ∧ J i ys ν) ?_ (items.length + 1)
      ⟨0, [], ν, oe, oi, oc, _, 0, rfl, Nat.zero_le _, Nat.le_refl _, C3, hst3, hns, h0⟩
    clear C C1 C2 C3 hst3 hns hst h0 hns₁ hsb₁ hkeep hoc
    rintro k s ⟨i, ys, ν, oe, oi, oc, mc, kk, rfl, hi, hys, C, st, hn, hJ⟩
    have hne1 : C' ≠ D := fun q => C.head_ne (by simp [q])
    by_cases hlt : i < items.length
    · refine W.item i s _ _ (by simpa using hlt) st fun T vals h' tk hP hTs hT hM hk => ?_
      dsimp only
      obtain ⟨t, v, hv, rfl⟩ := hP
      have hTw := W.apart _ _ _ hM
      refine W.go [.Name x₁ px₁, .Name x₂ px₂] k' tpos i T _ _ _ hM fun h'' st'' hk2 => ?_
      have hT2 : h''.IsTuple T #[.int i t, v] := hT.at fun o eo => hk2 _ _ hTw eo
      obtain ⟨⟨old', g1⟩, ⟨o2, g2, g3⟩, g4⟩ := id st''
      obtain ⟨oe', g1⟩ : ∃ oe', h''.get? e = some oe' := ⟨_, g1⟩
      have Ca : Cx g L m ((C', oc) :: (D, LO ys kk) :: (e, oe') :: (it, o2) :: ν) z { s with heap := h'', toks := tk } := by
        have n1 := C.head_ne
        have n2 := C.tail.head_ne
        have n3 := C.tail.tail.head_ne
        have n4 := C.tail.tail.tail.head_ne
        simp only [List.map_cons, List.mem_cons, not_or] at n1 n2 n3 n4
        refine C.re [e, it] (fun b ob hb eb => hk2 b ob (by simpa using hb) (hk b ob (by simpa using hb) eb)) (fun b hb => ?_) rfl (fun p hp => ?_)
        · rcases List.mem_cons.mp hb with rfl | hb
          · simp
          · rw [List.mem_singleton.mp hb]; simp
        · rcases List.mem_cons.mp hp with rfl | hp
          · exact .inl ⟨by simp, by simp; exact ⟨n1.2.1, n1.2.2.1⟩⟩
          · rcases List.mem_cons.mp hp with rfl | hp
            · exact .inl ⟨by simp, by simp; exact ⟨n2.1, n2.2.1⟩⟩
            · rcases List.mem_cons.mp hp with rfl | hp
              · exact .inr g1
              · rcases List.mem_cons.mp hp with rfl | hp
                · exact .inr g2
                · refine .inl ⟨by simp [hp], ?_⟩
                  have hm : p.1 ∈ ν.map (·.1) := List.mem_map.mpr ⟨p, hp, rfl⟩
                  simp only [List.mem_cons, List.not_mem_nil, or_false, not_or]
                  exact ⟨fun q => n3.2 (q ▸ hm), fun q => n4 (q ▸ hm)⟩
      refine r_unpackP Ca hh hT2 (fun s₁ C₁ => ?_) (he C') (hstar C')
      refine c_assignN (r_cstore C₁ hn hx₁ hkind fun oc₁ s₂ hn₁ C₂ => ?_)
      refine c_assignN (r_cstore C₂ hn₁ hx₂ hkind fun oc₂ s₃ hn₂ C₃ => ?_)
      refine wpAny_mono (turn i v ys ν C' oc₂ _ D kk oe' o2 t s₃ (by simpa using hv) hJ hn₂ (st_ne hne (st_same _ _ _)) (st_same _ _ _) C₃) (fun y s₄ h₄ => ?_) fun _ _ h => h.elim
      obtain ⟨ν', C₄, hJ'⟩ := h₄
      refine append_at (C₄.get (.tail _ (.head _))) (fun h₃ hs₃ he₃ => ?_) (by rw [List.size_toArray, sizeLine_eq]; omega)
      have C₅ := C₄.chg (k := s₄.toks) (.tail _ (.head _)) (fun b ob hb e => hs₃.extBut b ob hb e) he₃
      rw [up_tail hne1, up_head C₄.tail.head_ne] at C₅
      have C₆ : Cx g L m ((C', oc₂) :: (D, LO (ys ++ [y]) (kk + 1)) :: (e, oe') :: (it, o2) :: ν') z { s₄ with heap := h₃ } := by
        rw [show LO (ys ++ [y]) (kk + 1) = { cls := .type "list", data := .seq (ys.toArray.push y) (kk + 1) } from by simp [LO]]
        exact C₅
      refine ⟨items.length + 1 - (i + 1), by omega, i + 1, ys ++ [y], ν', oe', o2, oc₂, _, kk + 1, rfl, hlt, by simp; omega, C₆, ?_, hn₂, hJ'⟩
      exact move (s₁ := { s with heap := h'', toks := tk }) st'' Ca C₆ (.tail _ (.tail _ (.head _))) (.tail _ (.tail _ (.tail _ (.head _)))) (.tail _ (.tail _ (.head _))) (.tail _ (.tail _ (.tail _ (.head _)))) (hK _ _ _ hJ) (hK _ _ _ hJ') (fun p hp => .tail _ (.tail _ (.tail _ (.tail _ hp)))) (fun p hp => .tail _ (.tail _ (.tail _ (.tail _ hp))))
    · have hin : i = items.length := by omega
      subst hin
      refine W.done s _ _ st fun h' tk hk => ?_
      have Cp := C.perm (ν' := (e, oe) :: (it, oi) :: (C', oc) :: (D, LO ys kk) :: ν) (by
        exact ((List.perm_middle (l₁ := [(C', oc), (D, LO ys kk)])).trans (List.Perm.cons _ (List.perm_middle (l₁ := [(C', oc), (D, LO ys kk)])))).symm)
      have n1 := Cp.head_ne
      have n2 := Cp.tail.head_ne
      obtain ⟨⟨oL, es, ep, hL, r⟩, keep, ab⟩ := Cp.fr
      have ke := Cp.nw (e, oe) (.head _)
      have ki := Cp.nw (it, oi) (.tail _ (.head _))
      have Cq : Cx g L m ((C', oc) :: (D, LO ys kk) :: ν) z { s with heap := h', toks := tk } := by
        refine C.at ⟨⟨oL, es, ep, hk _ _ (by simp; exact ⟨Ne.symm ke.2.1, Ne.symm ki.2.1⟩) hL, r⟩, fun b ob eb => hk b ob (fun hb => ?_) (keep b ob eb), ab⟩ (fun p hp => ?_) Cp.tail.tail.nd
        · rcases List.mem_cons.mp hb with rfl | hb
          · have := ke.2.2; rw [eb] at this; cases this
          · rw [List.mem_singleton.mp hb] at eb
            have := ki.2.2; rw [eb] at this; cases this
        · have N := Cp.tail.tail.nw p hp
          have hm : p.1 ∈ ((C', oc) :: (D, LO ys kk) :: ν).map (·.1) := List.mem_map.mpr ⟨p, hp, rfl⟩
          refine ⟨hk _ _ (fun hb => ?_) N.1, N.2⟩
          rcases List.mem_cons.mp hb with q | hb
          · exact n1 (List.mem_cons_of_mem _ (q ▸ hm))
          · exact n2 (List.mem_singleton.mp hb ▸ hm)
      exact done ys ν D C' oc mc kk _ hJ hn Cq
  exact codeAny_compStart_list (loop _ rfl) (W.self 0 _ _ _ hst3 (loop _ rfl))
theorem c_compT {elt iter : Expr} {target : Expr} {pos : Pos} {ifs : List Expr} {scope : Scope} (cl : List (Str × Addr))
    (h : wpAny (MM w) A (eval iter env) (fun xv s₁ => wpAny (MM w) A (pyIter xv) (fun it s₂ => wpAny (MM w) A (newList []) (fun acc s₃ => wpAny (MM w) A (newFunctionEnv scope env.globals cl [] env.qual none .none (some env)) (fun cenv s₄ =>
      codeAny (MM w) A (.compStart (.ListComp elt [⟨target, iter, ifs, 0⟩] scope pos) 0 it acc { cenv with scope := relabel scope env }) (compPost (MM w) A E none Q acc cenv.locals) s₄) E s₃) E s₂) E s₁) E s)
    (hclos : closureFor scope env = pure cl := by kernel_rfl) (hkind : scope.kind = .function := by kernel_rfl) (hnames : ∀ x ∈ scope.names, x.2 = .local → scope.names.lookup x.1 = some .local := by decide) (hs : ∀ x, foldedSetIterable iter env x = pure x := by intro _; kernel_rfl) :
    wpAny (MM w) A (eval (.ListComp elt [⟨target, iter, ifs, 0⟩] scope pos) env) Q E s := by
  rw [eval_ListComp]
  exact wpAny_comprehension_free (g := ⟨target, iter, ifs, 0⟩) (gs := []) rfl hs hclos hkind hnames h
end
theorem lk_head (x : Str) (c : Addr) (r : List (Str × Addr)) : List.lookup x ((x, c) :: r) = some c := by rw [List.lookup_cons]; simp
theorem lk_tail {x y : Str} {c c' : Addr} {r : List (Str × Addr)} (h : (x == y) = false) (k : List.lookup x r = some c) : List.lookup x ((y, c') :: r) = some c := by rw [List.lookup_cons, h]; exact k
theorem CellsAre.uncons {cm : Str → Option Value} {n : Str} {c : Addr} {cs : List (Str × Addr)} {cells : List (Addr × Obj)} (h : CellsAre cm ((n, c) :: cs) cells) : ∃ o cells', cells = (c, o) :: cells' ∧ o.data = .cell (cm n) ∧ CellsAre cm cs cells' := by
  cases h with
  | cons h1 h2 => exact ⟨_, _, rfl, h1, h2⟩
theorem CellsAre.done {cm : Str → Option Value} {cells : List (Addr × Obj)} (h : CellsAre cm [] cells) : cells = [] := by
  cases h; rfl
section
variable {w : World} {A : Around} {g : Heap} {L : Addr} {m : Str → Option Value} {ν : List (Addr × Obj)} {z s : Shared} {D U : Nat} {Q : Value → Shared → Prop} {E : Value → Shared → Prop} {env : Env} {x : Str} {pos : Pos} {v : Value}
theorem r_ccellX {c : Addr} {o : Obj} {cn : Str} {cs : Scope} {a : Addr} {ccd : Value} {cl : List (Str × Addr)} (C : Cx g L m ν z s) (hc : cl.lookup x = some c) (hm : (c, o) ∈ ν) (hd : o.data = .cell (some v)) (h : Q v s) (hk : cs.kind = .function := by kernel_rfl) (hx : (envX cn cs L a ccd cl).kindOf x = some .cell := by kernel_rfl) (hb : (x == ("__debug__" : Str)) = false := by kernel_rfl) :
    wpAny (MM w) A (eval (.Name x pos) (envX cn cs L a ccd cl)) Q E s := r_ccell C hc hm hd h hk hx hb
theorem r_ccellC {c : Addr} {o : Obj} {scope : Scope} {C' : Addr} {cl : List (Str × Addr)} (C : Cx g L m ν z s) (hc : cl.lookup x = some c) (hm : (c, o) ∈ ν) (hd : o.data = .cell (some v)) (h : Q v s) (hk : (compEnvC scope cl C' env).scope.kind = .function := by kernel_rfl) (hx : (compEnvC scope cl C' env).kindOf x = some .cell := by kernel_rfl) (hb : (x == ("__debug__" : Str)) = false := by kernel_rfl) :
    wpAny (MM w) A (eval (.Name x pos) (compEnvC scope cl C' env)) Q E s := r_ccell C hc hm hd h hk hx hb
theorem r_newLI {vs : List Value} {ns : List Int} (C : Cx g L m ν z s) (hi : IntsAre vs ns) (hsz : vs.length ≤ 1000000) (k : ∀ D ws s', IntsAre ws ns → Cx g L m ((D, LO ws 0) :: ν) z s' → Q (.ref D) s') : wpAny (MM w) A (newList vs) Q E s := r_newL C (fun D s' C' => k D vs s' hi C') hsz
theorem c_expr {e : Expr} {Q : Flow → Shared → Prop} (h : wpAny (MM w) A (eval e env) (fun _ => Q .next) E s) (hi : interactive env = false := by kernel_rfl) (hs : swapsWith e none pos.line env = pure false := by kernel_rfl) : wpAny (MM w) A (exec (.Expr e pos) env) Q E s := wpAny_Expr_any h hi hs
end
def tabsB (ps : List Int) : Int := ps.getD 7 0 - ps.getD 6 0
def backB (ps : List Int) : Int := ps.getD 6 0 - 7 * tabsB ps
def wholeF (ps : List Int) (i : Nat) : Int := (ps.getD i 0 - backB ps).fdiv (1 + i) - tabsB ps
def wholeB (ps : List Int) : List Int := 0 :: (List.range 6).map (wholeF ps)
def moeb : List Int := [0, 1, -1, -1, 0, -1, 1]
def termF (ps : List Int) (i k : Nat) : Int := moeb.getD (k + 1) 0 * (wholeB ps).getD ((i + 1) * (k + 1)) 0
def sumB (ps : List Int) (i : Nat) : Int := ((List.range (6 / (i + 1))).map (termF ps i)).sum
def leastB (ps : List Int) : List Int := tabsB ps :: (List.range 6).map (sumB ps)
def cntB (ps : List Int) (b : Nat) : Int := (leastB ps).getD b 0 - (leastB ps ++ [0]).getD (b + 1) 0
def runsB (ps : List Int) (n : Nat) : List Int := ((List.range n).map fun b => List.replicate (cntB ps b).toNat (b : Int)).flatten
theorem moeb_small (n : Nat) : (moeb.getD n 0).natAbs < 2 ^ 64 := by
  rcases n with _ | _ | _ | _ | _ | _ | _ | n <;> simp [moeb]
theorem runs_succ (ps : List Int) (n : Nat) : runsB ps (n + 1) = runsB ps n ++ List.replicate (cntB ps n).toNat (n : Int) := by
  unfold runsB
  rw [List.range_succ, List.map_append, List.flatten_append]
  simp
theorem runs_len (ps : List Int) (hb : ∀ b, b < 7 → -100 ≤ cntB ps b ∧ cntB ps b ≤ 100) : ∀ n, n ≤ 7 → (runsB ps n).length ≤ 100 * n
  | 0, _ => by simp [runsB]
  | n + 1, h => by
    have h1 := runs_len ps hb n (by omega)
    have h2 := hb n (by omega)
    rw [runs_succ, List.length_append, List.length_replicate]
    omega
theorem rep_one (k : Nat) (x : Int) : (List.replicate k [x]).flatten = List.replicate k x := by
  induction k with
  | zero => rfl
  | succ k ih => rw [List.replicate_succ, List.replicate_succ, List.flatten_cons, ih]; rfl
set_option maxHeartbeats 4000000 in
theorem hideG {M : Model} {A : Around} {α : Type} {c : Sem α} {Q : α → Shared → Prop} {E : Value → Shared → Prop} {s : Shared} {D U : Nat} {env : Env} {g : Heap} (X : Ax D U A env g)
    (h : ∀ A' Q' E', Ax D U A' env g → Q' = Q → E' = E → wpAny M A' c Q' E' s) : wpAny M A c Q E s := h A Q E X rfl rfl
theorem hideF {M : Model} {A : Around} {α : Type} {c : Sem α} {Q : α → Shared → Prop} {E : Value → Shared → Prop} {s : Shared}
    (h : ∀ Q' E', Q' = Q → E' = E → wpAny M A c Q' E' s) : wpAny M A c Q E s := h Q E rfl rfl
theorem back_spec {w : World} {A : Around} {g : Heap} {L : Addr} {m : Str → Option Value} {ν : List (Addr × Obj)} {z s : Shared} {D U : Nat} {Q : Value → Shared → Prop} {E : Value → Shared → Prop} {cn : Str} {cs : Scope} {a : Addr} {ccd : Value} {cl : List (Str × Addr)}
    {ps : List Int} {vs : List Value} {lp : Addr} {n : Nat}
    (G : Gx w g) (X : Ax (D + 1) (U + 8) A (envX cn cs L a ccd cl) g) (C : Cx g L m ν z s) (hke : cs.kind = .function) (hp : Kn g ν lp (LO vs n)) (hi : IntsAre vs ps) (h8 : ps.length = 8) (hb : ∀ b, b < 7 → -100 ≤ cntB ps b ∧ cntB ps b ≤ 100)
    (k : ∀ T lr rs nr t s', IntsAre rs (runsB ps 7) → Cx g L m ((T, TO [.ref lr, .int (backB ps) t] 0) :: (lr, LO rs nr) :: ν) z s' → Q (.ref T) s') :
    wpAny (MM w) A (call (.ref 216) [.ref lp]) Q E s := by
  refine r_enterC (binds := [(Str.ofString "ports", .ref lp)]) (locs := []) G X C hke rfl (by kernel_rfl) (BindsTo.of_eq rfl) rfl (by decide +kernel)
    (fun L' => [(Str.ofString "moebius", L' + 6), (Str.ofString "whole", L' + 5), (Str.ofString "size", L' + 4), (Str.ofString "back", L' + 3), (Str.ofString "tabs", L' + 2), (Str.ofString "ports", L' + 1)]) (fun _ => by kernel_rfl) (fun _ => by kernel_rfl) rfl rfl rfl ?_
  clear G X C
  intro g' L' s cells G X hg Y C
  simp only [bm, List.foldl] at C
  obtain ⟨o1, c1, rfl, ho1, Y⟩ := CellsAre.uncons Y
  obtain ⟨o2, c2, rfl, ho2, Y⟩ := CellsAre.uncons Y
  obtain ⟨o3, c3, rfl, ho3, Y⟩ := CellsAre.uncons Y
  obtain ⟨o4, c4, rfl, ho4, Y⟩ := CellsAre.uncons Y
  obtain ⟨o5, c5, rfl, ho5, Y⟩ := CellsAre.uncons Y
  obtain ⟨o6, c6, rfl, ho6, Y⟩ := CellsAre.uncons Y
  cases CellsAre.done Y
  clear Y
  simp only [List.cons_append, List.nil_append] at C
  refine hideG X ?_; clear X; intro A' Q1 E1 X hq1 he1
  have q1 : List.lookup (Str.ofString "ports") [(Str.ofString "moebius", L' + 6), (Str.ofString "whole", L' + 5), (Str.ofString "size", L' + 4), (Str.ofString "back", L' + 3), (Str.ofString "tabs", L' + 2), (Str.ofString "ports", L' + 1)] = some (L' + 1) := by repeat (first | exact lk_head _ _ _ | refine lk_tail (by kernel_rfl) ?_)
  have q2 : List.lookup (Str.ofString "tabs") [(Str.ofString "moebius", L' + 6), (Str.ofString "whole", L' + 5), (Str.ofString "size", L' + 4), (Str.ofString "back", L' + 3), (Str.ofString "tabs", L' + 2), (Str.ofString "ports", L' + 1)] = some (L' + 2) := by repeat (first | exact lk_head _ _ _ | refine lk_tail (by kernel_rfl) ?_)
  have q3 : List.lookup (Str.ofString "back") [(Str.ofString "moebius", L' + 6), (Str.ofString "whole", L' + 5), (Str.ofString "size", L' + 4), (Str.ofString "back", L' + 3), (Str.ofString "tabs", L' + 2), (Str.ofString "ports", L' + 1)] = some (L' + 3) := by repeat (first | exact lk_head _ _ _ | refine lk_tail (by kernel_rfl) ?_)
  have q4 : List.lookup (Str.ofString "size") [(Str.ofString "moebius", L' + 6), (Str.ofString "whole", L' + 5), (Str.ofString "size", L' + 4), (Str.ofString "back", L' + 3), (Str.ofString "tabs", L' + 2), (Str.ofString "ports", L' + 1)] = some (L' + 4) := by repeat (first | exact lk_head _ _ _ | refine lk_tail (by kernel_rfl) ?_)
  have q5 : List.lookup (Str.ofString "whole") [(Str.ofString "moebius", L' + 6), (Str.ofString "whole", L' + 5), (Str.ofString "size", L' + 4), (Str.ofString "back", L' + 3), (Str.ofString "tabs", L' + 2), (Str.ofString "ports", L' + 1)] = some (L' + 5) := by repeat (first | exact lk_head _ _ _ | refine lk_tail (by kernel_rfl) ?_)
  have q6 : List.lookup (Str.ofString "moebius") [(Str.ofString "moebius", L' + 6), (Str.ofString "whole", L' + 5), (Str.ofString "size", L' + 4), (Str.ofString "back", L' + 3), (Str.ofString "tabs", L' + 2), (Str.ofString "ports", L' + 1)] = some (L' + 6) := by repeat (first | exact lk_head _ _ _ | refine lk_tail (by kernel_rfl) ?_)
  have r1 : List.lookup (Str.ofString "ports") [(Str.ofString "tabs", L' + 2), (Str.ofString "ports", L' + 1), (Str.ofString "back", L' + 3)] = some (L' + 1) := by repeat (first | exact lk_head _ _ _ | refine lk_tail (by kernel_rfl) ?_)
  have r2 : List.lookup (Str.ofString "tabs") [(Str.ofString "tabs", L' + 2), (Str.ofString "ports", L' + 1), (Str.ofString "back", L' + 3)] = some (L' + 2) := by repeat (first | exact lk_head _ _ _ | refine lk_tail (by kernel_rfl) ?_)
  have r3 : List.lookup (Str.ofString "back") [(Str.ofString "tabs", L' + 2), (Str.ofString "ports", L' + 1), (Str.ofString "back", L' + 3)] = some (L' + 3) := by repeat (first | exact lk_head _ _ _ | refine lk_tail (by kernel_rfl) ?_)
  have r4 : List.lookup (Str.ofString "moebius") [(Str.ofString "whole", L' + 5), (Str.ofString "size", L' + 4), (Str.ofString "moebius", L' + 6)] = some (L' + 6) := by repeat (first | exact lk_head _ _ _ | refine lk_tail (by kernel_rfl) ?_)
  have r5 : List.lookup (Str.ofString "size") [(Str.ofString "whole", L' + 5), (Str.ofString "size", L' + 4), (Str.ofString "moebius", L' + 6)] = some (L' + 4) := by repeat (first | exact lk_head _ _ _ | refine lk_tail (by kernel_rfl) ?_)
  have r6 : List.lookup (Str.ofString "whole") [(Str.ofString "whole", L' + 5), (Str.ofString "size", L' + 4), (Str.ofString "moebius", L' + 6)] = some (L' + 5) := by repeat (first | exact lk_head _ _ _ | refine lk_tail (by kernel_rfl) ?_)
  have ho6 : o6.data = .cell (some (.ref lp)) := ho6.trans (by kernel_rfl)
  have hp := hp.base hg
  have hl := hi.length
  have item : ∀ i : Nat, i < 8 → ∃ t, vs[i]? = some (.int (ps.getD i 0) t) := fun i hi8 => IntsAre.get hi (by rw [List.getD_eq_getElem?_getD, List.getElem?_eq_getElem (by omega)]; rfl)
  obtain ⟨t7, h7⟩ := item 7 (by omega)
  obtain ⟨t6, h6⟩ := item 6 (by omega)
  repeat walk_at "go"
  with_reducible refine r_itemL C (.cons (.cons (.cons (.cons (.cons (.cons hp)))))) (by omega) (by omega) (by with_unfolding_all exact h7) ?_
  repeat walk_at "go"
  with_reducible refine r_itemL C (.cons (.cons (.cons (.cons (.cons (.cons hp)))))) (by omega) (by omega) (by with_unfolding_all exact h6) ?_
  repeat walk_at "go"
  with_reducible refine r_itemL C (.cons (.cons (.cons (.cons (.cons (.cons hp)))))) (by omega) (by omega) (by with_unfolding_all exact h6) ?_
  repeat walk_at "go"
  with_reducible refine r_mulI C (by omega) ?_; intro t s C
  repeat walk_at "go"
  refine r_newLI (ns := [0]) C (.cons _ _ .nil) (by simp) ?_; intro z0 zs s hz0 C
  repeat walk_at "go"
  with_reducible refine c_comp [(Str.ofString "tabs", L' + 2), (Str.ofString "ports", L' + 1), (Str.ofString "back", L' + 3)] ?_
  repeat walk_at "go"
  with_reducible refine r_range2 C ?_; intro ra u' s C
  with_reducible refine r_iterR C Kn.head (by omega) (by omega) (by omega) (by omega) ?_; intro I oI St s T hst C
  have C := C.sub (List.Sublist.cons_cons _ (List.Sublist.cons _ (List.Sublist.refl _)))
  have hp6 : ∀ {p1 p2 p3 p4 p5 p6 : Addr × Obj}, Kn g' (p1 :: p2 :: p3 :: p4 :: p5 :: p6 :: ν) lp (LO vs n) := .cons (.cons (.cons (.cons (.cons (.cons hp)))))
  generalize hν : (z0, LO zs 0) :: _ = ν1 at C
  refine r_compW (R := compPost (MM w) _ _ none _) X.hd T C hst (by decide) rfl (by decide) (by omega) (fun i ys ν' => ν' = ν1 ∧ IntsAre ys ((List.range i).map (wholeF ps))) ⟨rfl, .nil⟩ (fun i ys ν' h => trivial) ?_ ?_
  · intro i v ys ν' C' oc mc D k oI s hlt hP hJ hns hv C
    rw [hJ.1, ← hν] at C
    have hys := hJ.2
    obtain ⟨tv, rfl⟩ := hP
    refine no_ifs (ite_t rfl ?_)
    refine hideF ?_; intro Q2 E2 hq2 he2
    repeat walk_at "go"
    have hi6 : i < 6 := by omega
    obtain ⟨ti, hti⟩ := item i (by omega)
    with_reducible refine r_itemL C (.cons (.cons (.cons (.cons hp6)))) (by omega) (by omega) (by rw [show ((1 : Int) + i - 1).toNat = i from by omega]; exact hti) ?_
    repeat walk_at "go"
    with_reducible refine r_divI C (by omega) (by omega) ?_; intro t s C
    repeat walk_at "go"
    subst hq2
    refine ⟨_, C, hν, ?_⟩
    rw [List.range_succ, List.map_append]
    exact IntsAre.app hys (.cons (wholeF ps i) _ .nil)
  · intro ys ν' D1 C' oc mc k' s hJ hns C
    rw [hJ.1, ← hν] at C
    have hys := hJ.2
    have hyl := hys.length
    have hzl := hz0.length
    refine compEnd hns C ?_; intro s C
    repeat walk_at "go"
    simp only [List.length_map, List.length_range, List.length_cons, List.length_nil] at hyl hzl
    with_reducible refine r_addL C (.nu (by walk_at "mem")) (.nu (by walk_at "mem")) (by omega) ?_; intro lw s C
    have hwh : IntsAre (zs ++ ys) (wholeB ps) := IntsAre.app hz0 hys
    generalize hws : zs ++ ys = ws at C hwh
    have C := C.sub (List.Sublist.cons_cons _ (List.Sublist.cons _ (List.Sublist.cons _ (List.Sublist.refl _))))
    repeat walk_at "go"
    refine r_newLI (ns := moeb) C (.cons _ _ (.cons _ _ (.cons _ _ (.cons _ _ (.cons _ _ (.cons _ _ (.cons _ _ .nil))))))) (by simp) ?_; intro lm ms s hms C
    repeat walk_at "go"
    refine r_newLI (ns := [tabsB ps]) C (.cons _ _ .nil) (by simp) ?_; intro ll ls s hls C
    repeat walk_at "go"
    with_reducible refine r_range2 C ?_; intro ra u' s C
    clear T hst
    with_reducible refine r_iterR C Kn.head (by omega) (by omega) (by omega) (by omega) ?_; intro I oI St s T hst C
    have C := C.sub (List.Sublist.cons_cons _ (List.Sublist.cons _ (List.Sublist.refl _)))
    refine r_forG X.hd T C hst (fun i m ν' => ∃ ls nn om ow os tl v ob tb, ν' = (ll, LO ls nn) :: (lm, LO ms 0) :: (lw, LO ws 0) :: (L' + 6, om) :: (L' + 5, ow) :: (L' + 4, os) :: (L' + 3, ob) :: tl ∧ ob.data = .cell (some (.int (backB ps) tb)) ∧ om.data = .cell (some (.ref lm)) ∧ ow.data = .cell (some (.ref lw)) ∧ os.data = .cell v ∧
        IntsAre ls (tabsB ps :: (List.range i).map (sumB ps)) ∧ m (Str.ofString "least") = some (.ref ll) ∧ ν.Sublist tl)
      ⟨ls, 0, _, _, _, _, _, _, _, rfl, by assumption, by assumption, by assumption, by assumption, hls, by walk_at "lk", .cons _ (.cons _ (.refl _))⟩ (fun _ _ _ _ => trivial) ?_ ?_
    · clear hls C hst T
      intro i v m ν' oI s hlt hP hJ C
      obtain ⟨ls, nn, om, ow, os, tl, vo, ob, tb, hν', hob, hom, how, hos, hls, hm, hsub⟩ := hJ
      rw [hν'] at C
      obtain ⟨tv, rfl⟩ := hP
      have hi6 : i < 6 := by omega
      have hlsl := hls.length
      simp only [List.length_map, List.length_range, List.length_cons] at hlsl
      have hq : (6 : Int).fdiv (1 + (i : Int)) = ((6 / (i + 1) : Nat) : Int) := by
        rw [Int.fdiv_eq_ediv_of_nonneg _ (by omega)]
        rw [show (1 : Int) + i = ((i + 1 : Nat) : Int) from by omega]
        exact (Int.natCast_ediv 6 (i + 1)).symm
      have hq6 : 6 / (i + 1) ≤ 6 := Nat.div_le_self _ _
      have hqn : ((6 : Int).fdiv (1 + (i : Int))).toNat = 6 / (i + 1) := by rw [hq, Int.toNat_natCast]
      have hq1 : 0 ≤ (6 : Int).fdiv (1 + (i : Int)) := by rw [hq]; exact Int.natCast_nonneg _
      have hq2 : (6 : Int).fdiv (1 + (i : Int)) ≤ 6 := by rw [hq]; exact Int.ofNat_le.mpr hq6
      clear hq
      repeat walk_at "go"
      with_reducible refine m_append C (.nu (by walk_at "mem")) ?_
      repeat walk_at "go"
      with_reducible refine c_comp [(Str.ofString "whole", L' + 5), (Str.ofString "size", L' + 4), (Str.ofString "moebius", L' + 6)] ?_
      repeat walk_at "go"
      with_reducible refine r_divI C (by omega) (by omega) ?_; intro t s C
      repeat walk_at "go"
      with_reducible refine r_range2 C ?_; intro ra u' s C
      with_reducible refine r_iterR C Kn.head (by omega) (by omega) (by omega) (by omega) ?_; intro I2 oI2 St2 s T2 hst2 C
      have C := C.sub (List.Sublist.cons_cons _ (List.Sublist.cons _ (List.Sublist.refl _)))
      generalize hν2 : (I, oI) :: (ll, LO ls nn) :: _ = ν2 at C
      refine r_compW (R := compPost (MM w) _ _ none _) X.hd T2 C hst2 (by decide) rfl (by decide) (by omega) (fun j ys ν' => ν' = ν2 ∧ IntsAre ys ((List.range j).map (termF ps i))) ⟨rfl, .nil⟩ (fun i ys ν' h => trivial) ?_ ?_
      · intro j v ys ν' C' oc mc D k oJ s hlt hP hJ hns hv C
        rw [hJ.1, ← hν2] at C
        have hys := hJ.2
        obtain ⟨tv, rfl⟩ := hP
        have hj : j < 6 / (i + 1) := by omega
        have hij : (i + 1) * (j + 1) ≤ 6 := Nat.le_trans (Nat.mul_le_mul_left _ hj) (Nat.mul_div_le _ _)
        have hje : ((1 : Int) + i) * (1 + j) = (((i + 1) * (j + 1) : Nat) : Int) := by
          rw [Int.natCast_mul, Int.natCast_succ, Int.natCast_succ, Int.add_comm 1 (i : Int), Int.add_comm 1 (j : Int)]
        refine no_ifs (ite_t rfl ?_)
        refine hideF ?_; intro Q3 E3 hq3 he3
        repeat walk_at "go"
        obtain ⟨tm, htm⟩ : ∃ t, ms[j + 1]? = some (.int (moeb.getD (j + 1) 0) t) := IntsAre.get hms (by rw [List.getD_eq_getElem?_getD, List.getElem?_eq_getElem (by simp [moeb]; omega)]; rfl)
        with_reducible refine r_itemL C (.nu (by walk_at "mem")) (by omega) (by omega) (by rw [show ((1 : Int) + j).toNat = j + 1 from by omega]; exact htm) ?_
        repeat walk_at "go"
        with_reducible refine r_mulI C (by omega) ?_; intro t s C
        repeat walk_at "go"
        obtain ⟨tw, htw⟩ : ∃ t, ws[(i + 1) * (j + 1)]? = some (.int ((wholeB ps).getD ((i + 1) * (j + 1)) 0) t) := IntsAre.get hwh (by rw [List.getD_eq_getElem?_getD, List.getElem?_eq_getElem (by simp [wholeB]; omega)]; rfl)
        with_reducible refine r_itemL C (.nu (by walk_at "mem")) (by rw [hje]; omega) (by rw [hje]; omega) (by rw [hje, Int.toNat_natCast]; exact htw) ?_
        with_reducible refine r_mulI C (moeb_small _) ?_; intro t s C
        subst hq3
        refine ⟨_, C, hν2, ?_⟩
        rw [List.range_succ, List.map_append]
        exact IntsAre.app hys (.cons (termF ps i j) _ .nil)
      · intro ys ν' D1 C' oc mc k' s hJ hns C
        rw [hJ.1, ← hν2] at C
        have hys := hJ.2
        rw [show ((6 : Int).fdiv (1 + (i : Int)) + 1 - 1).toNat = 6 / (i + 1) from by omega] at hys
        refine compEnd hns C ?_; intro s C
        repeat walk_at "go"
        with_reducible refine r_sum C X.hd (.nu (by walk_at "mem")) hys ?_; intro t s C
        repeat walk_at "go"
        have C := C.tail
        with_reducible refine p_append C (by walk_at "pt") (by omega) ?_; intro n2 s C
        repeat walk_at "go"
        refine ⟨_, _, C, _, n2, om, ow, _, tl, _, ob, tb, rfl, hob, hom, how, by assumption, ?_, by walk_at "lk", hsub⟩
        rw [List.range_succ, List.map_append, ← List.cons_append]
        exact IntsAre.app hls (.cons (sumB ps i) _ .nil)
    · clear hls C hst T
      rintro m ν' s ⟨ls, nn, om, ow, os, tl, vo, ob, tb, hν', hob, hom, how, hos, hls, hm, hsub⟩ C
      rw [hν'] at C
      have hlsl := hls.length
      have hls' : IntsAre ls (leastB ps) := hls
      simp only [List.length_map, List.length_range, List.length_cons] at hlsl
      have C := C.sub (ν' := (ll, LO ls nn) :: (L' + 3, ob) :: ν) (List.Sublist.cons_cons _ (List.Sublist.cons _ (List.Sublist.cons _ (List.Sublist.cons _ (List.Sublist.cons _ (List.Sublist.cons _ (List.Sublist.cons_cons _ hsub)))))))
      repeat walk_at "go"
      refine r_newLI (ns := []) C .nil (by simp) ?_; intro lr rs s hrs C
      repeat walk_at "go"
      with_reducible refine r_range1 C ?_; intro ra u1 u' s C
      with_reducible refine r_iterR C Kn.head (by omega) (by omega) (by omega) (by omega) ?_; intro I oI St s T hst C
      have C := C.sub (List.Sublist.cons_cons _ (List.Sublist.cons _ (List.Sublist.refl _)))
      refine r_forW (Q := fun _ _ => True) X.hd T C hst (fun i m ν' => ∃ rs nr, ν' = (lr, LO rs nr) :: (ll, LO ls nn) :: (L' + 3, ob) :: ν ∧ IntsAre rs (runsB ps i) ∧ m (Str.ofString "least") = some (.ref ll) ∧ m (Str.ofString "runs") = some (.ref lr))
        ⟨rs, 0, rfl, hrs, by walk_at "lk", by walk_at "lk"⟩ (fun _ _ _ _ => trivial) ?_ ?_
      · clear hrs C hst T
        intro i v m ν' oI s hlt hP hJ C
        obtain ⟨rs, nr, hν', hrs, hm1, hm2⟩ := hJ
        rw [hν'] at C
        obtain ⟨tv, rfl⟩ := hP
        have hi7 : i < 7 := by omega
        have hbi := hb i hi7
        have hrl := hrs.length
        have hrb := runs_len ps hb i (by omega)
        have hz : (0 : Int) + (i : Int) = i := Int.zero_add _
        rw [hz] at C
        refine hideF ?_; intro Q2 E2 hq2 he2
        repeat walk_at "go"
        with_reducible refine m_extend C (.nu (by walk_at "mem")) ?_
        repeat walk_at "go"
        with_reducible refine r_newL C ?_; intro lb s C
        repeat walk_at "go"
        obtain ⟨ta, hta⟩ : ∃ t, ls[i]? = some (.int ((leastB ps).getD i 0) t) := IntsAre.get hls' (by rw [List.getD_eq_getElem?_getD, List.getElem?_eq_getElem (by simp [leastB]; omega)]; rfl)
        with_reducible refine r_itemL C (.nu (by walk_at "mem")) (by omega) (by omega) (by rw [Int.toNat_natCast]; exact hta) ?_
        repeat walk_at "go"
        refine r_newLI (ns := [0]) C (.cons _ _ .nil) (by simp) ?_; intro l0 zs0 s hzs0 C
        have hzl0 := hzs0.length
        simp only [List.length_cons, List.length_nil] at hzl0
        repeat walk_at "go"
        with_reducible refine r_addL C (.nu (by walk_at "mem")) (.nu (by walk_at "mem")) (by omega) ?_; intro la s C
        repeat walk_at "go"
        obtain ⟨tb, htb⟩ : ∃ t, (ls ++ zs0)[i + 1]? = some (.int ((leastB ps ++ [0]).getD (i + 1) 0) t) := IntsAre.get (IntsAre.app hls' hzs0) (by rw [List.getD_eq_getElem?_getD, List.getElem?_eq_getElem (by simp [leastB]; omega)]; rfl)
        refine c_turn ?_
        with_reducible refine r_itemL C (.nu (by walk_at "mem")) (by omega) (by omega) (by rw [show ((i : Int) + 1).toNat = i + 1 from by omega]; exact htb) ?_
        repeat walk_at "go"
        with_reducible refine r_mulL C (.nu (by walk_at "mem")) (by simp) (by exact Int.le_trans (by decide) hbi.1) (by exact Int.le_trans hbi.2 (by decide)) ?_; intro lx s C
        repeat walk_at "go"
        have hus : IntsAre (repV ((leastB ps).getD i 0 - (leastB ps ++ [0]).getD (i + 1) 0) [Value.int i tv]) (List.replicate (cntB ps i).toNat (i : Int)) := by
          rw [← rep_one]
          exact repV_ints (IntsAre.cons _ _ .nil) _
        have hul := hus.length
        rw [List.length_replicate] at hul
        generalize repV ((leastB ps).getD i 0 - (leastB ps ++ [0]).getD (i + 1) 0) [Value.int i tv] = us at C hus hul
        with_reducible refine p_extend C (by walk_at "pt") (by walk_at "mem") (by omega) ?_; intro n2 s C
        repeat walk_at "go"
        subst hq2
        refine ⟨_, _, C.tail.tail.tail.tail, _, n2, rfl, ?_, by walk_at "lk", by walk_at "lk"⟩
        rw [runs_succ]
        exact IntsAre.app hrs hus
      · clear hrs C hst T
        rintro m ν' s ⟨rs, nr, hν', hrs, hm1, hm2⟩ C
        rw [hν'] at C
        repeat walk_at "go"
        with_reducible refine r_newT C ?_; intro T s C
        repeat walk_at "go"
        subst hq1
        refine ⟨_, _, C, fun C => ?_⟩
        exact k T lr rs nr tb s hrs (C.sub (.cons_cons _ (.cons_cons _ (.cons _ (.cons _ (.refl _))))))
theorem Ax.le {D U D' U' : Nat} {A : Around} {env : Env} {g : Heap} (X : Ax D U A env g) (h1 : D' ≤ D) (h2 : U' ≤ U) : Ax D' U' A env g :=
  ⟨X.below, X.hd, by have := X.dep; omega, by have := X.un; omega⟩
/-- the law's text, as the program has it -/
noncomputable def lawOf (w : World) : Option (List Stmt × Scope) :=
  match (KF w).lookup 221 with
  | some o => match o.data with
    | .func fd => match fd.body with
      | .stmts ss => some (ss, fd.scope)
      | _ => none
    | _ => none
  | none => none
/-- the law's cells -/
abbrev lawCl (L : Addr) : List (Str × Addr) := [(Str.ofString "read", L + 4), (Str.ofString "lexer", L + 3), (Str.ofString "sums", L + 2), (Str.ofString "script", L + 1)]
theorem cl_read (L : Addr) : List.lookup (Str.ofString "read") (lawCl L) = some (L + 4) := by repeat (first | exact lk_head _ _ _ | refine lk_tail (by kernel_rfl) ?_)
theorem cl_lexer (L : Addr) : List.lookup (Str.ofString "lexer") (lawCl L) = some (L + 3) := by repeat (first | exact lk_head _ _ _ | refine lk_tail (by kernel_rfl) ?_)
theorem cl_sums (L : Addr) : List.lookup (Str.ofString "sums") (lawCl L) = some (L + 2) := by repeat (first | exact lk_head _ _ _ | refine lk_tail (by kernel_rfl) ?_)
theorem cl_script (L : Addr) : List.lookup (Str.ofString "script") (lawCl L) = some (L + 1) := by repeat (first | exact lk_head _ _ _ | refine lk_tail (by kernel_rfl) ?_)
theorem cl_one (x : Str) (c : Addr) : List.lookup x [(x, c)] = some c := lk_head _ _ _
theorem IntsAre.drop {vs : List Value} {ns : List Int} (h : IntsAre vs ns) : ∀ n, IntsAre (vs.drop n) (ns.drop n) := by
  induction h with
  | nil => intro n; simp; exact .nil
  | cons y t h ih =>
    intro n
    cases n with
    | zero => exact .cons y t h
    | succ n => exact ih n
section
variable {w : World} {A : Around} {g : Heap} {L : Addr} {m : Str → Option Value} {ν : List (Addr × Obj)} {z s : Shared} {Q : Value → Shared → Prop} {E : Value → Shared → Prop} {env : Env}
theorem c_assignC {elt iter : Expr} {x y : Str} {px py pos spos : Pos} {ifs : List Expr} {scope : Scope} (cl : List (Str × Addr)) {Q : Flow → Shared → Prop}
    (h : wpAny (MM w) A (eval iter env) (fun xv s₁ => wpAny (MM w) A (pyIter xv) (fun it s₂ => wpAny (MM w) A (newList []) (fun acc s₃ => wpAny (MM w) A (newFunctionEnv scope env.globals cl [] env.qual none .none (some env)) (fun cenv s₄ =>
      codeAny (MM w) A (.compStart (.ListComp elt [⟨.Name x px, iter, ifs, 0⟩] scope pos) 0 it acc { cenv with scope := relabel scope env }) (compPost (MM w) A E (some (assign (.Name y py) env)) (fun _ s' => Q .next s') acc cenv.locals) s₄) E s₃) E s₂) E s₁) E s)
    (hsw : swapsWith (.ListComp elt [⟨.Name x px, iter, ifs, 0⟩] scope pos) (some (.Name y py)) spos.line env = pure true := by kernel_rfl)
    (hclos : closureFor scope env = pure cl := by kernel_rfl) (hkind : scope.kind = .function := by kernel_rfl) (hnames : ∀ x ∈ scope.names, x.2 = .local → scope.names.lookup x.1 = some .local := by decide) (hs : ∀ x, foldedSetIterable iter env x = pure x := by intro _; kernel_rfl) :
    wpAny (MM w) A (exec (.Assign [.Name y py] (.ListComp elt [⟨.Name x px, iter, ifs, 0⟩] scope pos) spos) env) Q E s := by
  rw [exec_Assign_Name_used _ _ _ _ hsw]
  refine wpAny_bind (wpAny_standAt (wpAny_bind ?_))
  show wpAny _ A (do let _ ← comprehension (.ListComp elt [⟨.Name x px, iter, ifs, 0⟩] scope pos) scope env _ (newList []) false (eval iter env) (some (assign (.Name y py) env))) _ _ s
  exact wpAny_bind (wpAny_mono (wpAny_comprehension_free (g := ⟨.Name x px, iter, ifs, 0⟩) (gs := []) (use := some (assign (.Name y py) env)) (Q := fun _ s' => Q .next s') rfl hs hclos hkind hnames h) (fun _ s' hq => wpAny_pure (wpAny_pure hq)) fun _ _ e => e)
theorem compEndU {D C' : Addr} {oc : Obj} {mc : Str → Option Value} {ys : List Value} {k : Nat} {cn : Str} {cs : Scope} {a : Addr} {ccd : Value} {cl : List (Str × Addr)} {y : Str} {py : Pos} (hn : NsO oc mc) (C : Cx g L m ((C', oc) :: (D, LO ys k) :: ν) z s) (h : ∀ s', Cx g L (st m y (.ref D)) ((D, LO ys k) :: ν) z s' → Q .none s')
    (hk : cs.kind = .function := by kernel_rfl) (hx : cs.names.lookup y = some .local := by decide +kernel) : compPost (MM w) A E (some (assign (.Name y py) (envX cn cs L a ccd cl))) Q (.ref D) C' (.ok .next) s := by
  refine c_assignN (r_store C (fun s' C1 => ?_) hk hx)
  exact ⟨mc, hn _ _ (C1.get (.head _)), fun h' hs => h _ (C1.off fun b ob hb e => hs.extBut b ob hb e)⟩
theorem r_iterE {e it l : Addr} {items : List Value} (hst : EnSt e it l items 0 s.heap) (h : Q (.ref e) s) : wpAny (MM w) A (pyIter (.ref e)) Q E s := by
  obtain ⟨⟨old, he⟩, _, _⟩ := hst
  exact wpAny_pyIter_enum he h
theorem r_slice3G {value slice : Expr} {l : Addr} {vs : List Value} {vl vu vk : Value} {lo hi st : Option Int} (ops : List Value) (C : Cx g L m ν z s) (hl : g.IsList l vs.toArray) (hv : vs.length ≤ 1000000) (pl : IsPart vl lo) (pu : IsPart vu hi) (pk : IsPart vk st) (h0 : st ≠ some 0)
    (k : ∀ D s', Cx g L m ((D, LO (slicePick vs.toArray lo hi st).toList 0) :: ν) z s' → Q (.ref D) s')
    (hs : subscripted slice false (.ref l) (.ref s.heap.objs.size) = operate ops (getItem (.ref l) (.ref s.heap.objs.size)) := by kernel_rfl)
    (ht : ∀ r, letTemporaryGo value (.ref l) r = pure () := by intro _; kernel_rfl) :
    wpAny (MM w) A (subscriptTail value slice (.ref l) (.ref s.heap.objs.size)) Q E { s with heap := s.heap.push { cls := .type "slice", data := .fields #[vl, vu, vk] } } := by
  refine slice_list3 C.fr C.nw (items := vs.toArray) (hl.at fun o e => C.old e) pl pu pk h0 (fun h' F' N' => ?_) hs ht (by rw [List.size_toArray, sizeLine_eq]; omega)
  refine k _ _ (C.at F' (by simpa using N') ?_)
  rw [List.map_cons, List.nodup_cons]
  refine ⟨fun hx => ?_, C.nd⟩
  obtain ⟨p, hp, e⟩ := List.mem_map.mp hx
  have := Heap.lt_size (C.nw p hp).1
  rw [show p.1 = s.heap.objs.size + 1 from e] at this
  exact absurd this (Nat.not_lt.mpr (Nat.le_succ _))
end
theorem sum_nn : ∀ {ns : List Int}, (∀ x ∈ ns, 0 ≤ x) → 0 ≤ ns.sum
  | [], _ => by simp
  | n :: r, h => by
    have h1 := h n (.head _)
    have h2 := sum_nn fun x hx => h x (.tail _ hx)
    rw [List.sum_cons]
    omega
set_option maxHeartbeats 4000000 in
theorem law_A {w : World} {A : Around} {g : Heap} {L : Addr} {m : Str → Option Value} {ν : List (Addr × Obj)} {z s : Shared} {Q : Flow → Shared → Prop} {E : Value → Shared → Prop} {ss : List Stmt} {cs : Scope} {a : Addr} {ccd : Value}
    {o1 o2 o3 o4 : Obj} {lsc : Addr} {svs : List Value} {script : List Int}
    (hlaw : lawOf w = some (ss, cs)) (G : Gx w g) (X : Ax 20 200 A (envX (Str.ofString "law") cs L a ccd (lawCl L)) g) (C : Cx g L m ((L + 4, o4) :: (L + 3, o3) :: (L + 2, o2) :: (L + 1, o1) :: ν) z s)
    (ho1 : o1.data = .cell (some (.ref lsc))) (ho2 : ∃ v, o2.data = .cell v) (hls : g.IsList lsc svs.toArray) (hlen : svs.length ≤ 63) (hsc : IntsAre svs script)
    (k : ∀ o2 lx xs nx X0 X1 X2 s', 0 ≤ X0 → 0 ≤ X1 → 0 ≤ X2 → IntsAre xs [X0, X1, X2] → o2.data = .cell (some (.ref lx)) → Cx g L m ((lx, LO xs nx) :: (L + 4, o4) :: (L + 3, o3) :: (L + 2, o2) :: (L + 1, o1) :: ν) z s' →
      wpAny (MM w) A (execs (ss.drop 1) (envX (Str.ofString "law") cs L a ccd (lawCl L))) Q E s') :
    wpAny (MM w) A (execs ss (envX (Str.ofString "law") cs L a ccd (lawCl L))) Q E s := by
  have hl2 : lawOf w = some (_, _) := rfl
  rw [hl2] at hlaw
  cases hlaw
  clear hl2
  obtain ⟨v2, ho2⟩ := ho2
  have q1 := cl_read L
  have q2 := cl_lexer L
  have q3 := cl_sums L
  have q4 := cl_script L
  have r1 := cl_one (Str.ofString "script") (L + 1)
  repeat walk_at "go"
  with_reducible refine c_compT [(Str.ofString "script", L + 1)] ?_
  repeat walk_at "go"
  refine r_newLI (ns := [1334, 9, 46539271]) C (.cons _ _ (.cons _ _ (.cons _ _ .nil))) (by simp) ?_; intro l3 v3 s hv3 C
  repeat walk_at "go"
  with_reducible refine r_enum C (.nu (by walk_at "mem")) ?_; intro e it oe oi s hst C
  refine r_iterE hst ?_
  generalize hν : (l3, LO v3 0) :: _ = ν1 at C
  have hh := X.hd
  refine r_compE (R := compPost (MM w) _ _ none _) hh C hst (by decide) rfl (by decide) (by decide) (by kernel_rfl) (by have := hv3.length; simp at this; omega) (nl := 0)
    (fun i ys ν' => ν' = ν1 ∧ ∃ ns, IntsAre ys ns ∧ ns.length = i ∧ ∀ x ∈ ns, 0 ≤ x) ⟨rfl, [], .nil, rfl, by simp⟩ (fun i ys ν' h => by rw [h.1, ← hν]; exact Kn.head) ?_ ?_
  · intro i v ys ν' C' oc mc D k oe oi t s hi hJ hns hv1 hv2 C
    rw [hJ.1, ← hν] at C
    obtain ⟨ns, hys, hnl, hn0⟩ := hJ.2
    obtain ⟨y, ty, hy, rfl⟩ := IntsAre.at hv3 hi
    have hy0 : 0 ≤ y := by
      have := List.mem_of_getElem? hy
      simp at this
      omega
    repeat walk_at "go"
    with_reducible refine c_comp [] ?_
    repeat walk_at "go"
    refine r_slice3G [.ref lsc, .ref s.heap.objs.size] C hls (by omega) (.int _ _) (.int _ _) (.int _ _) (by simp) ?_; intro sl s C
    have hsl := IntsAre.pick hsc (some (i : Int)) (some 63) (some 3)
    have hslz := length_pickNums_le hsc (some (i : Int)) (some 63) (some 3)
    have hscl := hsc.length
    generalize (slicePick svs.toArray (some (i : Int)) (some 63) (some 3)).toList = sv at C hsl
    have hsvl := hsl.length
    with_reducible refine r_iterL C Kn.head ?_; intro I oI St s T hst C
    generalize hν2 : (sl, LO sv 0) :: _ = ν2 at C
    refine r_compW (R := compPost (MM w) _ _ none _) hh T C hst (by decide) rfl (by decide) (by omega) (fun i ys ν' => ν' = ν2 ∧ ∃ ns, IntsAre ys ns ∧ ∀ x ∈ ns, 0 ≤ x) ⟨rfl, [], .nil, by simp⟩ (fun i ys ν' h => by rw [h.1, ← hν2]; exact Kn.head) ?_ ?_
    · intro j v zs ν' C2 oc2 mc2 D2 k2 oI2 s hlt hP hJ2 hns2 hv C
      rw [hJ2.1, ← hν2] at C
      obtain ⟨ns2, hzs, hn2⟩ := hJ2.2
      obtain ⟨y2, ty2, hy2, rfl⟩ := IntsAre.at hsl hP
      refine no_ifs (ite_t rfl ?_)
      repeat walk_at "go"
      with_reducible refine r_powI C (by omega) (by decide) ?_; intro t s C
      repeat walk_at "go"
      refine ⟨_, C, hν2, _, IntsAre.snoc hzs, ?_⟩
      intro x hx
      rcases List.mem_append.mp hx with hx | hx
      · exact hn2 x hx
      · rw [List.mem_singleton.mp hx]
        exact Int.fmod_nonneg_of_pos _ (by decide)
    · intro zs ν' D2 C2 oc2 mc2 k2 s hJ2 hns2 C
      rw [hJ2.1, ← hν2] at C
      obtain ⟨ns2, hzs, hn2⟩ := hJ2.2
      refine compEnd hns2 C ?_; intro s C
      repeat walk_at "go"
      with_reducible refine r_sum C hh Kn.head hzs ?_; intro t s C
      repeat walk_at "go"
      have C := C.tail.tail
      refine ⟨_, C, hν, _, IntsAre.snoc hys, by simp [hnl], ?_⟩
      intro x hx
      rcases List.mem_append.mp hx with hx | hx
      · exact hn0 x hx
      · rw [List.mem_singleton.mp hx]
        have := sum_nn hn2
        omega
  · intro ys ν' D C' oc mc k' s hJ hns C
    rw [hJ.1, ← hν] at C
    obtain ⟨ns, hys, hnl, hn0⟩ := hJ.2
    refine compEnd hns C ?_; intro s C
    have C := C.sub (.cons_cons _ (.cons _ (.refl _)))
    walk_at "go"
    have hl3 := hv3.length
    simp only [List.length_cons, List.length_nil] at hl3
    rw [hl3] at hnl
    match ns, hnl, hn0, hys with
    | [X0, X1, X2], _, hn0, hys => exact k oc D ys k' X0 X1 X2 s (hn0 _ (.head _)) (hn0 _ (.tail _ (.head _))) (hn0 _ (.tail _ (.tail _ (.head _)))) hys (by assumption) C
abbrev intsN (rl : List Nat) : List Int := rl.map fun (r : Nat) => (r : Int)
def nameL (rl : List Nat) (bk : Nat) : List Nat := leadL (intsN rl) (bk : Int) ++ [120, 34, 34, 32, 9]
theorem name_len (rl : List Nat) (bk : Nat) (h1 : rl.length ≤ 4) (h2 : ∀ r ∈ rl, r ≤ 6) (h3 : bk ≤ 3) : (nameL rl bk).length ≤ 450 := by
  unfold nameL leadL
  have := leadRuns_len (intsN rl) (by
    intro b hb
    obtain ⟨r, hr, rfl⟩ := List.mem_map.mp hb
    have := h2 r hr
    omega)
  rw [List.length_map] at this
  simp only [List.length_append, rep_len, List.length_cons, List.length_nil]
  omega
theorem runs_nat (ns : List Int) (h : ∀ x ∈ ns, 0 ≤ x ∧ x ≤ 6) : ∃ rl : List Nat, intsN rl = ns ∧ ∀ r ∈ rl, r ≤ 6 := by
  refine ⟨ns.map Int.toNat, ?_, ?_⟩
  · unfold intsN
    rw [List.map_map]
    conv => rhs; rw [← List.map_id ns]
    apply List.map_congr_left
    intro x hx
    have := h x hx
    show ((x.toNat : Nat) : Int) = x
    omega
  · intro r hr
    obtain ⟨x, hx, rfl⟩ := List.mem_map.mp hr
    have := h x hx
    omega
set_option maxHeartbeats 4000000 in
theorem law_B {w : World} {A : Around} {g : Heap} {L : Addr} {m : Str → Option Value} {ν : List (Addr × Obj)} {z s : Shared} {Q : Flow → Shared → Prop} {E : Value → Shared → Prop} {ss : List Stmt} {cs : Scope} {a : Addr} {ccd : Value}
    {o1 o2 o3 o4 : Obj} {lx : Addr} {xs : List Value} {nx : Nat} {X0 X1 X2 : Int}
    (hlaw : lawOf w = some (ss, cs)) (G : Gx w g) (X : Ax 20 200 A (envX (Str.ofString "law") cs L a ccd (lawCl L)) g) (C : Cx g L m ((lx, LO xs nx) :: (L + 4, o4) :: (L + 3, o3) :: (L + 2, o2) :: (L + 1, o1) :: ν) z s)
    (ho2 : o2.data = .cell (some (.ref lx))) (hx0 : 0 ≤ X0) (hx1 : 0 ≤ X1) (hxs : IntsAre xs [X0, X1, X2])
    (k : ∀ m lr rv nr rl bk tb tn x dx tp tc es n f vs τ s', rl.length ≤ 4 → 1 ≤ rl.length → (∀ r ∈ rl, r ≤ 6) → bk ≤ 3 → IntsAre rv (intsN rl) → m (Str.ofString "runs") = some (.ref lr) → m (Str.ofString "back") = some (.int ((bk : Nat) : Int) tb) → m (Str.ofString "name") = some (.str (S (nameL rl bk)) tn) → m (Str.ofString "drawn") = some (.ref x) →
      Cx g L m (τ ++ (lr, LO rv nr) :: (lx, LO xs nx) :: (L + 4, o4) :: (L + 3, o3) :: (L + 2, o2) :: (L + 1, o1) :: ν) z s' → WsAt τ g x dx tp tc es n f vs (wsGo (nameL rl bk) [] 0 0 0) →
      wpAny (MM w) A (execs (ss.drop 5) (envX (Str.ofString "law") cs L a ccd (lawCl L))) Q E s') :
    wpAny (MM w) A (execs (ss.drop 1) (envX (Str.ofString "law") cs L a ccd (lawCl L))) Q E s := by
  have hl2 : lawOf w = some (_, _) := rfl
  rw [hl2] at hlaw
  cases hlaw
  clear hl2
  simp only [List.drop_succ_cons, List.drop_zero] at k ⊢
  have q1 := cl_read L
  have q2 := cl_lexer L
  have q3 := cl_sums L
  have q4 := cl_script L
  have r1 := cl_one (Str.ofString "sums") (L + 2)
  have hh := X.hd
  obtain ⟨t0, h0⟩ : ∃ t, xs[0]? = some (.int X0 t) := IntsAre.get hxs rfl
  obtain ⟨t1, h1⟩ : ∃ t, xs[1]? = some (.int X1 t) := IntsAre.get hxs rfl
  repeat walk_at "go"
  with_reducible refine c_comp [(Str.ofString "sums", L + 2)] ?_
  repeat walk_at "go"
  with_reducible refine r_range1 C ?_; intro ra u1 u' s C
  with_reducible refine r_iterR C Kn.head (by omega) (by omega) (by omega) (by omega) ?_; intro I oI St s T hst C
  have C := C.sub (.cons_cons _ (.cons _ (.refl _)))
  generalize hν : (lx, LO xs nx) :: _ = ν1 at C
  refine r_compW (R := compPost (MM w) _ _ none _) hh T C hst (by decide) rfl (by decide) (by omega) (fun i ys ν' => ν' = ν1 ∧ ∃ ns, IntsAre ys ns ∧ ns.length = i ∧ ∀ x ∈ ns, 0 ≤ x ∧ x ≤ 6) ⟨rfl, [], .nil, rfl, by simp⟩ (fun i ys ν' h => trivial) ?_ ?_
  · intro i v ys ν' C' oc mc D k oI s hlt hP hJ hns hv C
    rw [hJ.1, ← hν] at C
    obtain ⟨ns, hys, hnl, hn0⟩ := hJ.2
    obtain ⟨tv, rfl⟩ := hP
    refine no_ifs (ite_t rfl ?_)
    repeat walk_at "go"
    with_reducible refine r_itemL C (.nu (by walk_at "mem")) (by omega) (by omega) (by with_unfolding_all exact h0) ?_
    repeat walk_at "go"
    have hi4 : i < 4 := by omega
    with_reducible refine r_powI C (by omega) (by have : Builtin.Int.intBits 7 = 3 := by decide
                                                  rw [this]; omega) ?_; intro t s C
    have hpw : (7 : Int) ^ ((0 : Int) + (i : Int)).toNat ≠ 0 ∧ ((7 : Int) ^ ((0 : Int) + (i : Int)).toNat).natAbs < 1073741824 := by
      have : i = 0 ∨ i = 1 ∨ i = 2 ∨ i = 3 := by omega
      rcases this with rfl | rfl | rfl | rfl <;> decide
    with_reducible refine r_divI C hpw.1 hpw.2 ?_; intro t s C
    repeat walk_at "go"
    refine ⟨_, C, hν, _, IntsAre.snoc hys, by simp [hnl], ?_⟩
    intro x hx
    rcases List.mem_append.mp hx with hx | hx
    · exact hn0 x hx
    · rw [List.mem_singleton.mp hx]
      have a1 := Int.fmod_nonneg_of_pos (X0.fdiv (7 ^ ((0 : Int) + (i : Int)).toNat)) (b := 7) (by decide)
      have a2 := Int.fmod_lt_of_pos (X0.fdiv (7 ^ ((0 : Int) + (i : Int)).toNat)) (b := 7) (by decide)
      omega
  · intro ys ν' D C' oc mc k' s hJ hns C
    rw [hJ.1, ← hν] at C
    obtain ⟨ns, hys, hnl, hn0⟩ := hJ.2
    refine compEnd hns C ?_; intro s C
    repeat walk_at "go"
    with_reducible refine r_itemL C (.nu (by walk_at "mem")) (by omega) (by omega) (by with_unfolding_all exact h1) ?_
    repeat walk_at "go"
    refine c_turn ?_
    refine r_slice3 (ops := [.ref s.heap.objs.size, .ref D]) C (.nu (by walk_at "mem")) (by have := hys.length; omega) (.int _ _) .none .none (by simp) ?_; intro lr s C
    have f0 := Int.fmod_nonneg_of_pos X1 (b := 4) (by decide)
    have f1 := Int.fmod_lt_of_pos X1 (b := 4) (by decide)
    have hrv := kmk_from hys f0
    obtain ⟨rl, hrl, hr6⟩ := runs_nat (ns.drop (X1.fmod 4).toNat) (fun x hx => hn0 x (List.mem_of_mem_drop hx))
    have hrll : rl.length = 4 - (X1.fmod 4).toNat := by
      have := congrArg List.length hrl
      rw [List.length_map, List.length_drop, hnl] at this
      exact this
    rw [← hrl] at hrv
    generalize (slicePick ys.toArray (some (X1.fmod 4)) none none).toList = rv at C hrv
    have C := C.sub (ν' := (lr, LO rv 0) :: (lx, LO xs nx) :: (L + 4, o4) :: (L + 3, o3) :: (L + 2, o2) :: (L + 1, o1) :: ν) (.cons_cons _ (.cons _ (.refl _)))
    repeat walk_at "go"
    with_reducible refine r_itemL C (.nu (by walk_at "mem")) (by omega) (by omega) (by with_unfolding_all exact h1) ?_
    repeat walk_at "go"
    obtain ⟨bk, hbk⟩ : ∃ bk : Nat, (X1.fdiv 4).fmod 4 = (bk : Int) := ⟨((X1.fdiv 4).fmod 4).toNat, by have := Int.fmod_nonneg_of_pos (X1.fdiv 4) (b := 4) (by decide); omega⟩
    have hbk3 : bk ≤ 3 := by have := Int.fmod_lt_of_pos (X1.fdiv 4) (b := 4) (by decide); omega
    rw [hbk] at C
    rw [hbk] at *
    with_reducible refine c_callK G ?_
    repeat walk_at "go"
    refine ⟨kin_now G C, ?_⟩
    simp only [List.nil_append]
    refine lead_spec (D := 0) (U := 0) G (X.le (by omega) (by omega)) C rfl (.nu (by walk_at "mem")) hrv (by rw [List.length_map]; omega) (fun b hb => ?_) (by omega) (by omega) (fun t s C => ?_)
    · obtain ⟨r, hr, rfl⟩ := List.mem_map.mp hb
      have := hr6 r hr
      omega
    have hnl2 := name_len rl bk (by omega) hr6 hbk3
    have hll : (leadL (intsN rl) (bk : Int)).length ≤ 450 := by
      unfold nameL at hnl2
      rw [List.length_append] at hnl2
      omega
    repeat walk_at "go"
    with_reducible refine c_callK G ?_
    repeat walk_at "go"
    refine ⟨kin_now G C, ?_⟩
    simp only [List.nil_append]
    rw [show leadL (intsN rl) (bk : Int) ++ [120, 34, 34, 32, 9] = nameL rl bk from rfl] at *
    refine ws_spec (D := 0) (U := 0) G (X.le (by omega) (by omega)) C rfl (by omega) ?_
    intro x dx tp tc es n f ws τ s C hW
    walk_at "go"
    exact k _ lr rv 0 rl bk _ _ x dx tp tc es n f ws τ s (by omega) (by omega) hr6 hbk3 hrv (by walk_at "lk") (by walk_at "lk") (by walk_at "lk") (by walk_at "lk") C hW
section
variable {w : World} {A : Around} {g : Heap} {L : Addr} {m : Str → Option Value} {ν : List (Addr × Obj)} {z s : Shared} {Q : Value → Shared → Prop} {E : Value → Shared → Prop} {env : Env}
theorem r_litT {x : Str} {l : List Nat} {kk : Nat} {pos : Pos} (C : Cx g L m ν z s) (h : x = S l) (k : Cx g L m ν z { s with toks := s.toks + 1 } → Q (.str (S l) s.toks) { s with toks := s.toks + 1 }) : wpAny (MM w) A (eval (.Constant (.str x) kk pos) env) Q E s := by
  subst h
  exact wpAny_Constant_str (k (C.tk _))
theorem r_replD {l : List Nat} {c : Nat} {t u v : Tok} (C : Cx g L m ν z s) (hl : l.length ≤ 1000) (hu : u ≠ 0) (hv : v ≠ 0) (huv : u ≠ v) (k : ∀ t s', Cx g L m ν z s' → Q (.str (S (StrLaws.dbl c l)) t) s') : wpAny (MM w) A (call (.builtin "str.replace") [.str (S l) t, .str (S [c]) u, .str (S [c, c]) v]) Q E s := by
  refine SC.replaceW hu hv huv ?_ (by rw [S_len]; omega) (by rw [S_len]; simp) (fun t' kt => ?_)
  · rw [S_beq]; simp
  · rw [replace_dbl (S l) (S [c]) (S [c, c]) c rfl rfl]
    have := k t' _ (C.tk kt)
    rw [show S (StrLaws.dbl c l) = (⟨(StrLaws.dbl c (S l).cps.toList).toArray⟩ : Str) from by simp [S]] at this
    exact this
end
theorem dbl_len (c : Nat) (l : List Nat) : (StrLaws.dbl c l).length ≤ 2 * l.length := by
  induction l with
  | nil => simp [StrLaws.dbl]
  | cons k r ih =>
    unfold StrLaws.dbl
    split <;> simp only [List.length_cons] <;> omega
theorem r_newLS {w : World} {A : Around} {g : Heap} {L : Addr} {m : Str → Option Value} {ν : List (Addr × Obj)} {z s : Shared} {Q : Value → Shared → Prop} {E : Value → Shared → Prop} {vs : List Value} {ns : List Str} (C : Cx g L m ν z s) (hi : StrsAre vs ns) (hsz : vs.length ≤ 1000000) (k : ∀ D ws s', StrsAre ws ns → Cx g L m ((D, LO ws 0) :: ν) z s' → Q (.ref D) s') : wpAny (MM w) A (newList vs) Q E s := r_newL C (fun D s' C' => k D vs s' hi C') hsz
/-- what a list of the law tells: texts, and pairs of a text and a number -/
inductive Due
  | txt (l : List Nat)
  | pair (l : List Nat) (n : Int)
inductive DueAre (ν : List (Addr × Obj)) : List Value → List Due → Prop
  | nil : DueAre ν [] []
  | txt {l : List Nat} {t : Tok} {vs : List Value} {ds : List Due} : DueAre ν vs ds → DueAre ν (.str (S l) t :: vs) (.txt l :: ds)
  | pair {l : List Nat} {n : Int} {t t' : Tok} {T : Addr} {vs : List Value} {ds : List Due} : (T, TO [.str (S l) t, .int n t'] 0) ∈ ν → DueAre ν vs ds → DueAre ν (.ref T :: vs) (.pair l n :: ds)
theorem DueAre.mono {ν ν' : List (Addr × Obj)} {vs : List Value} {ds : List Due} (h : DueAre ν vs ds) (hs : ∀ p ∈ ν, p ∈ ν') : DueAre ν' vs ds := by
  induction h with
  | nil => exact .nil
  | txt _ ih => exact .txt ih
  | pair hm _ ih => exact .pair (hs _ hm) ih
theorem DueAre.app {ν : List (Addr × Obj)} {vs us : List Value} {ds es : List Due} (h : DueAre ν vs ds) (k : DueAre ν us es) : DueAre ν (vs ++ us) (ds ++ es) := by
  induction h with
  | nil => exact k
  | txt _ ih => exact .txt ih
  | pair hm _ ih => exact .pair hm ih
theorem DueAre.length {ν : List (Addr × Obj)} {vs : List Value} {ds : List Due} (h : DueAre ν vs ds) : vs.length = ds.length := by
  induction h with
  | nil => rfl
  | txt _ ih => simp [ih]
  | pair _ _ ih => simp [ih]
theorem StrsAre.appS {a b : List Value} {x y : List Str} (ha : StrsAre a x) (hb : StrsAre b y) : StrsAre (a ++ b) (x ++ y) := by
  induction ha with
  | nil => exact hb
  | cons y t _ ih => exact .cons y t ih
theorem r_newLD {w : World} {A : Around} {g : Heap} {L : Addr} {m : Str → Option Value} {ν : List (Addr × Obj)} {z s : Shared} {Q : Value → Shared → Prop} {E : Value → Shared → Prop} {vs : List Value} {ns : List Due} {τ : List (Addr × Obj)} (C : Cx g L m ν z s) (hi : DueAre τ vs ns) (hsz : vs.length ≤ 1000000) (k : ∀ D ws s', DueAre τ ws ns → Cx g L m ((D, LO ws 0) :: ν) z s' → Q (.ref D) s') : wpAny (MM w) A (newList vs) Q E s := r_newL C (fun D s' C' => k D vs s' hi C') hsz
def kindN (X2 : Int) (i : Nat) : Int := (X2.fdiv (10 ^ i)).fmod 10
def isBad (kind port : Int) : Bool := decide (7 < kind) || (decide (kind = 7) && decide (53 ∈ dec port))
def repsF (r : List Int × Nat × Int × Int) (X2 : Int) (i : Nat) : List (List Nat) :=
  replyL (1 + i) (kindN X2 i) (lvl r (1 + i)) :: (if isBad (kindN X2 i) (lvl r (1 + i)) = true then [replyL (1 + i) 0 (lvl r (1 + i))] else [])
def dueF (nm : List Nat) (r : List Int × Nat × Int × Int) (X2 : Int) (i : Nat) : List Due :=
  (if isBad (kindN X2 i) (lvl r (1 + i)) = true then [.txt notReadL] else []) ++ [.pair nm (lvl r (1 + i))]
def reply0 (nm : List Nat) : List Nat := [50, 53, 55, 32, 34] ++ StrLaws.dbl 34 nm ++ [34, 32, 34, 121]
def repsL (nm : List Nat) (r : List Int × Nat × Int × Int) (X2 : Int) (n : Nat) : List (List Nat) := reply0 nm :: ((List.range n).map (repsF r X2)).flatten
def dueL (nm : List Nat) (r : List Int × Nat × Int × Int) (X2 : Int) (n : Nat) : List Due := .txt anotherL :: ((List.range n).map (dueF nm r X2)).flatten
theorem flat2 {α : Type} (f : Nat → List α) (h : ∀ i, (f i).length ≤ 2) (n : Nat) : ((List.range n).map f).flatten.length ≤ 2 * n := by
  induction n with
  | zero => simp
  | succ n ih =>
    rw [List.range_succ, List.map_append, List.flatten_append, List.length_append]
    have := h n
    simp only [List.map_cons, List.map_nil, List.flatten_cons, List.flatten_nil, List.append_nil]
    omega
theorem reps_len (nm : List Nat) (r : List Int × Nat × Int × Int) (X2 : Int) (i : Nat) : (repsL nm r X2 i).length ≤ 1 + 2 * i := by
  unfold repsL
  have := flat2 (repsF r X2) (fun i => by unfold repsF; split <;> simp) i
  rw [List.length_cons]; omega
theorem due_len (nm : List Nat) (r : List Int × Nat × Int × Int) (X2 : Int) (i : Nat) : (dueL nm r X2 i).length ≤ 1 + 2 * i := by
  unfold dueL
  have := flat2 (dueF nm r X2) (fun i => by unfold dueF; split <;> simp) i
  rw [List.length_cons]; omega
theorem reps_succ (nm : List Nat) (r : List Int × Nat × Int × Int) (X2 : Int) (i : Nat) : repsL nm r X2 (i + 1) = repsL nm r X2 i ++ repsF r X2 i := by
  unfold repsL
  rw [List.range_succ, List.map_append, List.flatten_append]
  simp
theorem due_succ (nm : List Nat) (r : List Int × Nat × Int × Int) (X2 : Int) (i : Nat) : dueL nm r X2 (i + 1) = dueL nm r X2 i ++ dueF nm r X2 i := by
  unfold dueL
  rw [List.range_succ, List.map_append, List.flatten_append]
  simp
theorem dec_len {n : Int} (h0 : 0 ≤ n) (h1 : n < 1000) : (dec n).length ≤ 20 := by
  have := KT.len_num (n := n) h0 (by omega)
  unfold dec
  have e : (u (Str.ofString (toString n))).length = (Str.ofString (toString n)).length := by simp [Str.length]
  omega
theorem log_small {n : Int} (h0 : 0 ≤ n) (h1 : n < 1000) : n.natAbs.log2 < 1920 := by
  have : n.natAbs < 2 ^ 1920 := Nat.lt_of_lt_of_le (show n.natAbs < 2 ^ 10 by omega) (Nat.pow_le_pow_right (by decide) (by decide))
  by_cases h : n.natAbs = 0
  · rw [h]; decide
  · exact (Nat.log2_lt h).mpr this
set_option maxHeartbeats 4000000 in
theorem hideC {M : Model} {A : Around} {α : Type} {c : Sem α} {Q : α → Shared → Prop} {E : Value → Shared → Prop} {s : Shared}
    (h : ∀ Q' E', Q' = Q → E' = E → wpAny M A c Q' E' s) : wpAny M A c Q E s := h Q E rfl rfl
theorem law_C {w : World} {A : Around} {g : Heap} {L : Addr} {m : Str → Option Value} {ν : List (Addr × Obj)} {z s : Shared} {Q : Flow → Shared → Prop} {E : Value → Shared → Prop} {ss : List Stmt} {cs : Scope} {a : Addr} {ccd : Value}
    {o1 o2 o3 o4 : Obj} {lx lr : Addr} {xs rv : List Value} {nx nr bk : Nat} {X0 X1 X2 : Int} {tb tn : Tok} {x dx tp tc : Addr} {es : List DictEntry} {n : Nat} {f : Str → Option Value} {vs : List Value} {τ : List (Addr × Obj)} {nm : List Nat} {r : List Int × Nat × Int × Int}
    (hlaw : lawOf w = some (ss, cs)) (G : Gx w g) (X : Ax 20 200 A (envX (Str.ofString "law") cs L a ccd (lawCl L)) g) (C : Cx g L m (τ ++ (lr, LO rv nr) :: (lx, LO xs nx) :: (L + 4, o4) :: (L + 3, o3) :: (L + 2, o2) :: (L + 1, o1) :: ν) z s)
    (ho2 : o2.data = .cell (some (.ref lx))) (hx2 : 0 ≤ X2) (hxs : IntsAre xs [X0, X1, X2]) (hW : WsAt τ g x dx tp tc es n f vs r) (hnl : nm.length ≤ 450)
    (hm1 : m (Str.ofString "runs") = some (.ref lr)) (hm2 : m (Str.ofString "back") = some (.int ((bk : Nat) : Int) tb)) (hm3 : m (Str.ofString "name") = some (.str (S nm) tn)) (hm4 : m (Str.ofString "drawn") = some (.ref x))
    (hr9 : r.1.length ≤ 900) (hpo : ∀ i : Nat, i < 8 → 0 ≤ lvl r (1 + i) ∧ lvl r (1 + i) < 1000)
    (k : ∀ m ll ld ls vd nl nd τ s', StrsAre ls ((repsL nm r X2 8).map S) → DueAre τ vd (dueL nm r X2 8) → m (Str.ofString "runs") = some (.ref lr) → m (Str.ofString "back") = some (.int ((bk : Nat) : Int) tb) → m (Str.ofString "name") = some (.str (S nm) tn) →
      m (Str.ofString "replies") = some (.ref ll) → m (Str.ofString "due") = some (.ref ld) →
      Cx g L m ((ld, LO vd nd) :: (ll, LO ls nl) :: (τ ++ (lr, LO rv nr) :: (lx, LO xs nx) :: (L + 4, o4) :: (L + 3, o3) :: (L + 2, o2) :: (L + 1, o1) :: ν)) z s' →
      wpAny (MM w) A (execs (ss.drop 8) (envX (Str.ofString "law") cs L a ccd (lawCl L))) Q E s') :
    wpAny (MM w) A (execs (ss.drop 5) (envX (Str.ofString "law") cs L a ccd (lawCl L))) Q E s := by
  have hl2 : lawOf w = some (_, _) := rfl
  rw [hl2] at hlaw
  cases hlaw
  clear hl2
  simp only [List.drop_succ_cons, List.drop_zero] at k ⊢
  have q1 := cl_read L
  have q2 := cl_lexer L
  have q3 := cl_sums L
  have q4 := cl_script L
  have hh := X.hd
  obtain ⟨t2, h2⟩ : ∃ t, xs[2]? = some (.int X2 t) := IntsAre.get hxs rfl
  iterate 6 walk_at "go"
  refine r_litT (l := [50, 53, 55, 32, 34]) C (by decide +kernel) ?_; intro C
  iterate 5 walk_at "go"
  refine r_litT (l := [34]) C (by decide +kernel) ?_; intro C
  iterate 1 walk_at "go"
  refine r_litT (l := [34, 34]) C (by decide +kernel) ?_; intro C
  repeat walk_at "go"
  refine r_replD C (by omega) (Nat.succ_ne_zero _) (Nat.succ_ne_zero _) (Nat.ne_of_lt (Nat.lt_succ_self _)) ?_; intro t s C
  have hdl := dbl_len 34 nm
  repeat walk_at "go"
  refine r_newLS (ns := (repsL nm r X2 0).map S) C (.cons (S (reply0 nm)) _ .nil) (by simp) ?_; intro ll ls0 s hls0 C
  repeat walk_at "go"
  refine r_newLD (τ := τ) (ns := dueL nm r X2 0) C (.txt .nil) (by simp) ?_; intro ld vd0 s hvd0 C
  repeat walk_at "go"
  with_reducible refine r_range2 C ?_; intro ra u' s C
  with_reducible refine r_iterR C Kn.head (by omega) (by omega) (by omega) (by omega) ?_; intro I oI St s T hst C
  have C := C.sub (.cons_cons _ (.cons _ (.refl _)))
  refine r_forW (Q := fun _ _ => True) hh T C hst (fun i m ν' => ∃ ls vd nl nd τ', ν' = (ld, LO vd nd) :: (ll, LO ls nl) :: (τ' ++ (lr, LO rv nr) :: (lx, LO xs nx) :: (L + 4, o4) :: (L + 3, o3) :: (L + 2, o2) :: (L + 1, o1) :: ν) ∧ StrsAre ls ((repsL nm r X2 i).map S) ∧ DueAre τ' vd (dueL nm r X2 i) ∧ (∀ p ∈ τ, p ∈ τ') ∧
      m (Str.ofString "runs") = some (.ref lr) ∧ m (Str.ofString "back") = some (.int ((bk : Nat) : Int) tb) ∧ m (Str.ofString "name") = some (.str (S nm) tn) ∧ m (Str.ofString "drawn") = some (.ref x) ∧ m (Str.ofString "replies") = some (.ref ll) ∧ m (Str.ofString "due") = some (.ref ld))
    ⟨ls0, vd0, 0, 0, τ, rfl, hls0, hvd0, fun _ h => h, by walk_at "lk", by walk_at "lk", by walk_at "lk", by walk_at "lk", by walk_at "lk", by walk_at "lk"⟩ (fun _ _ _ _ => trivial) ?_ ?_
  · clear hls0 hvd0 C hst T hm1 hm2 hm3 hm4
    intro i v m ν' oI s hlt hP hJ C
    obtain ⟨ls, vd, nl, nd, τ', hν', hls, hvd, hτ, hm1, hm2, hm3, hm4, hm5, hm6⟩ := hJ
    rw [hν'] at C
    obtain ⟨tv, rfl⟩ := hP
    refine hideC ?_; intro Q2 E2 hq2 he2
    have hi8 : i < 8 := by omega
    obtain ⟨hp0, hp1⟩ := hpo i hi8
    repeat walk_at "go"
    with_reducible refine r_itemL C (.nu (by walk_at "mem")) (by omega) (by omega) (by with_unfolding_all exact h2) ?_
    repeat walk_at "go"
    with_reducible refine r_powI C (by omega) (by have : Builtin.Int.intBits 10 = 4 := by decide
                                                  rw [this]; omega) ?_; intro t s C
    rw [show ((1 : Int) + (i : Int) - 1).toNat = i from by omega]
    have hpw : (10 : Int) ^ i ≠ 0 ∧ ((10 : Int) ^ i).natAbs < 1073741824 := by
      have : i = 0 ∨ i = 1 ∨ i = 2 ∨ i = 3 ∨ i = 4 ∨ i = 5 ∨ i = 6 ∨ i = 7 := by omega
      rcases this with rfl | rfl | rfl | rfl | rfl | rfl | rfl | rfl <;> decide
    with_reducible refine r_divI C hpw.1 hpw.2 ?_; intro t s C
    repeat walk_at "go"
    have hW2 : WsAt ((I, oI) :: (ld, LO vd nd) :: (ll, LO ls nl) :: (τ' ++ (lr, LO rv nr) :: (lx, LO xs nx) :: (L + 4, o4) :: (L + 3, o3) :: (L + 2, o2) :: (L + 1, o1) :: ν)) g x dx tp tc es n f vs r := hW.mono fun p hp => .tail _ (.tail _ (.tail _ (List.mem_append_left _ (hτ p hp))))
    with_reducible refine r_meth (fA := 145) G C hW2.inst hW2.dict hW2.attr hW2.lvl (by kernel_rfl) (by kernel_rfl) ?_
    with_reducible refine c_callK G ?_
    repeat walk_at "go"
    refine ⟨kin_now G C, ?_⟩
    simp only [List.cons_append, List.nil_append]
    refine level_spec (D := 0) (U := 0) G (X.le (by omega) (by omega)) C rfl hW2 hr9 (by omega) (by omega) (fun t s C => ?_)
    have k0 := Int.fmod_nonneg_of_pos (X2.fdiv (10 ^ i)) (b := 10) (by decide)
    have k1 := Int.fmod_lt_of_pos (X2.fdiv (10 ^ i)) (b := 10) (by decide)
    have hrlen : (repsL nm r X2 i).length ≤ 1 + 2 * i := reps_len nm r X2 i
    have hdlen : (dueL nm r X2 i).length ≤ 1 + 2 * i := due_len nm r X2 i
    have hlsl := hls.length
    have hvdl := hvd.length
    rw [List.length_map] at hlsl
    have hdec := dec_len hp0 hp1
    have hlog := log_small hp0 hp1
    rw [show (X2.fdiv (10 ^ i)).fmod 10 = kindN X2 i from rfl] at *
    generalize hK : kindN X2 i = K at *
    generalize hpv : lvl r (1 + i) = pv at *
    repeat walk_at "go"
    with_reducible refine m_append C (.nu (by walk_at "mem")) ?_
    repeat walk_at "go"
    with_reducible refine c_callK G ?_
    repeat walk_at "go"
    refine ⟨kin_now G C, ?_⟩
    simp only [List.cons_append, List.nil_append]
    refine reply_spec (D := 0) (U := 0) G (X.le (by omega) (by omega)) C rfl k0 k1 hdec hlog (fun t s C => ?_)
    repeat walk_at "go"
    with_reducible refine p_append C (by walk_at "pt") (by omega) ?_; intro n2 s C
    repeat walk_at "go"
    refine ite_b (fun hb => ?_) (fun hb => ?_)
    · have hbad : isBad K pv = true := by unfold isBad; rw [hb]; rfl
      refine ite_t rfl ?_
      repeat walk_at "go"
      with_reducible refine m_append C (.nu (by walk_at "mem")) ?_
      repeat walk_at "go"
      with_reducible refine p_append C (by walk_at "pt") (by omega) ?_; intro n3 s C
      repeat walk_at "go"
      with_reducible refine m_append C (.nu (by walk_at "mem")) ?_
      repeat walk_at "go"
      with_reducible refine c_callK G ?_
      repeat walk_at "go"
      refine ⟨kin_now G C, ?_⟩
      simp only [List.cons_append, List.nil_append]
      refine reply_spec (D := 0) (U := 0) G (X.le (by omega) (by omega)) C rfl (by omega) (by omega) hdec hlog (fun t s C => ?_)
      repeat walk_at "go"
      with_reducible refine p_append C (by walk_at "pt") (by simp; omega) ?_; intro n4 s C
      repeat walk_at "go"
      with_reducible refine m_append C (.nu (by walk_at "mem")) ?_
      repeat walk_at "go"
      with_reducible refine r_newT C ?_; intro T s C
      repeat walk_at "go"
      with_reducible refine p_append C (by walk_at "pt") (by simp; omega) ?_; intro n5 s C
      repeat walk_at "go"
      have C := C.perm (List.perm_middle (l₁ := [_, _, _]))
      subst hq2
      refine ⟨_, _, C, _, _, _, _, (T, _) :: τ', rfl, ?_, ?_, fun p hp => .tail _ (hτ p hp), by walk_at "lk", by walk_at "lk", by walk_at "lk", by walk_at "lk", by walk_at "lk", by walk_at "lk"⟩
      · rw [reps_succ, List.map_append]
        unfold repsF
        rw [hK, hpv, if_pos hbad]
        simp only [List.append_assoc]
        exact StrsAre.appS hls (.cons _ _ (.cons _ _ .nil))
      · rw [due_succ]
        unfold dueF
        rw [hK, hpv, if_pos hbad]
        simp only [List.append_assoc]
        exact DueAre.app (hvd.mono fun p hp => .tail _ hp) (.txt (.pair (.head _) .nil))
    · repeat walk_at "go"
      refine ite_b (fun hb2 => ?_) (fun hb2 => ?_)
      · repeat walk_at "go"
        with_reducible refine r_strI C hlog ?_; intro t s C
        repeat walk_at "go"
        refine ite_b (fun hb3 => ?_) (fun hb3 => ?_)
        · have hbad : isBad K pv = true := by unfold isBad; rw [show decide (K = 7) = true from hb2, hb3]; simp
          repeat walk_at "go"
          refine ite_t rfl ?_
          refine ite_t rfl ?_
          repeat walk_at "go"
          with_reducible refine m_append C (.nu (by walk_at "mem")) ?_
          repeat walk_at "go"
          with_reducible refine p_append C (by walk_at "pt") (by omega) ?_; intro n3 s C
          repeat walk_at "go"
          with_reducible refine m_append C (.nu (by walk_at "mem")) ?_
          repeat walk_at "go"
          with_reducible refine c_callK G ?_
          repeat walk_at "go"
          refine ⟨kin_now G C, ?_⟩
          simp only [List.cons_append, List.nil_append]
          refine reply_spec (D := 0) (U := 0) G (X.le (by omega) (by omega)) C rfl (by omega) (by omega) hdec hlog (fun t s C => ?_)
          repeat walk_at "go"
          with_reducible refine p_append C (by walk_at "pt") (by simp; omega) ?_; intro n4 s C
          repeat walk_at "go"
          with_reducible refine m_append C (.nu (by walk_at "mem")) ?_
          repeat walk_at "go"
          with_reducible refine r_newT C ?_; intro T s C
          repeat walk_at "go"
          with_reducible refine p_append C (by walk_at "pt") (by simp; omega) ?_; intro n5 s C
          repeat walk_at "go"
          have C := C.perm (List.perm_middle (l₁ := [_, _, _]))
          subst hq2
          refine ⟨_, _, C, _, _, _, _, (T, _) :: τ', rfl, ?_, ?_, fun p hp => .tail _ (hτ p hp), by walk_at "lk", by walk_at "lk", by walk_at "lk", by walk_at "lk", by walk_at "lk", by walk_at "lk"⟩
          · rw [reps_succ, List.map_append]
            unfold repsF
            rw [hK, hpv, if_pos hbad]
            simp only [List.append_assoc]
            exact StrsAre.appS hls (.cons _ _ (.cons _ _ .nil))
          · rw [due_succ]
            unfold dueF
            rw [hK, hpv, if_pos hbad]
            simp only [List.append_assoc]
            exact DueAre.app (hvd.mono fun p hp => .tail _ hp) (.txt (.pair (.head _) .nil))
        · have hbad : ¬ isBad K pv = true := by unfold isBad; rw [hb, hb3]; simp
          repeat walk_at "go"
          refine ite_f rfl ?_
          repeat walk_at "go"
          refine ite_f rfl ?_
          repeat walk_at "go"
          with_reducible refine m_append C (.nu (by walk_at "mem")) ?_
          repeat walk_at "go"
          with_reducible refine r_newT C ?_; intro T s C
          repeat walk_at "go"
          with_reducible refine p_append C (by walk_at "pt") (by omega) ?_; intro n5 s C
          repeat walk_at "go"
          have C := C.perm (List.perm_middle (l₁ := [_, _, _]))
          subst hq2
          refine ⟨_, _, C, _, _, _, _, (T, _) :: τ', rfl, ?_, ?_, fun p hp => .tail _ (hτ p hp), by walk_at "lk", by walk_at "lk", by walk_at "lk", by walk_at "lk", by walk_at "lk", by walk_at "lk"⟩
          · rw [reps_succ, List.map_append]
            unfold repsF
            rw [hK, hpv, if_neg hbad]
            exact StrsAre.appS hls (.cons _ _ .nil)
          · rw [due_succ]
            unfold dueF
            rw [hK, hpv, if_neg hbad]
            exact DueAre.app (hvd.mono fun p hp => .tail _ hp) (.pair (.head _) .nil)
      · have hbad : ¬ isBad K pv = true := by unfold isBad; rw [hb, show decide (K = 7) = false from hb2]; simp
        refine ite_f rfl ?_
        repeat walk_at "go"
        refine ite_f rfl ?_
        repeat walk_at "go"
        with_reducible refine m_append C (.nu (by walk_at "mem")) ?_
        repeat walk_at "go"
        with_reducible refine r_newT C ?_; intro T s C
        repeat walk_at "go"
        with_reducible refine p_append C (by walk_at "pt") (by omega) ?_; intro n5 s C
        repeat walk_at "go"
        have C := C.perm (List.perm_middle (l₁ := [_, _, _]))
        subst hq2
        refine ⟨_, _, C, _, _, _, _, (T, _) :: τ', rfl, ?_, ?_, fun p hp => .tail _ (hτ p hp), by walk_at "lk", by walk_at "lk", by walk_at "lk", by walk_at "lk", by walk_at "lk", by walk_at "lk"⟩
        · rw [reps_succ, List.map_append]
          unfold repsF
          rw [hK, hpv, if_neg hbad]
          exact StrsAre.appS hls (.cons _ _ .nil)
        · rw [due_succ]
          unfold dueF
          rw [hK, hpv, if_neg hbad]
          exact DueAre.app (hvd.mono fun p hp => .tail _ hp) (.pair (.head _) .nil)
  · clear hls0 hvd0 C hst T hm1 hm2 hm3 hm4
    rintro m ν' s ⟨ls, vd, nl, nd, τ', hν', hls, hvd, hτ, hm1, hm2, hm3, hm4, hm5, hm6⟩ C
    rw [hν'] at C
    exact k m ll ld ls vd nl nd τ' s hls hvd hm1 hm2 hm3 hm5 hm6 C
theorem StrsAre.at {vs : List Value} {ys : List Str} (h : StrsAre vs ys) : ∀ {i : Nat} {v : Value}, vs[i]? = some v → ∃ y t, ys[i]? = some y ∧ v = .str y t := by
  induction h with
  | nil => intro i v e; cases i <;> cases e
  | cons y t _ ih =>
    intro i v e
    cases i with
    | zero => cases e; exact ⟨y, t, rfl, rfl⟩
    | succ i => exact ih e
/-- one word of the text, spelled, with the sign behind it -/
def pieceF (X1 : Int) (i : Nat) (word : List Nat) : List Nat := spl ((X1.fdiv 16 + (i : Int)).fmod 3) word ++ itemL [32, 10, 9, 13] ((i : Int).fmod 4)
def pieces (X1 : Int) : Nat → List (List Nat) → List (List Nat)
  | _, [] => []
  | i, w :: r => pieceF X1 i w :: pieces X1 (i + 1) r
theorem pieces_snoc (X1 : Int) (w : List Nat) : ∀ (i : Nat) (l : List (List Nat)), pieces X1 i (l ++ [w]) = pieces X1 i l ++ [pieceF X1 (i + l.length) w]
  | i, [] => rfl
  | i, v :: l => by
    show pieceF X1 i v :: pieces X1 (i + 1) (l ++ [w]) = pieceF X1 i v :: pieces X1 (i + 1) l ++ [_]
    rw [pieces_snoc X1 w (i + 1) l, List.length_cons, show i + 1 + l.length = i + (l.length + 1) from by omega]
    rfl
theorem spl_len (form : Int) (word : List Nat) : (spl form word).length ≤ 2 * word.length + 2 := by
  unfold spl
  split
  · have := flat_len word (fun c => [92] ++ [c]) (fun c => by simp)
    omega
  · split
    · have := splB_len [34, 92] word
      simp only [List.length_append, List.length_cons, List.length_nil]
      omega
    · have := splB_len [92, 32, 9, 10, 13] word
      omega
theorem pieces_len (X1 : Int) (B : Nat) : ∀ (i : Nat) (l : List (List Nat)), (∀ w ∈ l, w.length ≤ B) → (pieces X1 i l).flatten.length ≤ (2 * B + 3) * l.length
  | _, [], _ => by simp [pieces]
  | i, w :: r, h => by
    have h1 := pieces_len X1 B (i + 1) r fun v hv => h v (.tail _ hv)
    have h2 := h w (.head _)
    have h3 := spl_len ((X1.fdiv 16 + (i : Int)).fmod 3) w
    show (pieceF X1 i w ++ (pieces X1 (i + 1) r).flatten).length ≤ _
    unfold pieceF itemL
    simp only [List.length_append, List.length_cons, List.length_nil]
    have h4 : (2 * B + 3) * (r.length + 1) = (2 * B + 3) * r.length + (2 * B + 3) := by rw [Nat.mul_add, Nat.mul_one]
    omega
set_option maxHeartbeats 4000000 in
theorem law_D {w : World} {A : Around} {g : Heap} {L : Addr} {m : Str → Option Value} {ν : List (Addr × Obj)} {z s : Shared} {Q : Flow → Shared → Prop} {E : Value → Shared → Prop} {ss : List Stmt} {cs : Scope} {a : Addr} {ccd : Value}
    {o1 o2 o3 o4 : Obj} {lx lr ll ld : Addr} {xs rv ls vd : List Value} {nx nr nl nd : Nat} {X0 X1 X2 : Int} {τ : List (Addr × Obj)} {reps : List (List Nat)} {F : Obj → List (Addr × Obj)}
    (hlaw : lawOf w = some (ss, cs)) (G : Gx w g) (X : Ax 20 200 A (envX (Str.ofString "law") cs L a ccd (lawCl L)) g) (C : Cx g L m ((ld, LO vd nd) :: (ll, LO ls nl) :: (τ ++ (lr, LO rv nr) :: (lx, LO xs nx) :: (L + 4, o4) :: (L + 3, o3) :: (L + 2, o2) :: (L + 1, o1) :: ν)) z s)
    (ho2 : o2.data = .cell (some (.ref lx))) (ho3 : ∃ v, o3.data = .cell v) (hx1 : 0 ≤ X1) (hxs : IntsAre xs [X0, X1, X2]) (hP : Pt 182 (tabObj #[]) ν F)
    (hls : StrsAre ls (reps.map S)) (hrl : reps.length ≤ 17) (hrw : ∀ w ∈ reps, w.length ≤ 2000)
    (hm5 : m (Str.ofString "replies") = some (.ref ll))
    (k : ∀ tx x dx src tl pb ext ps oc ν' s', oc.data = .cell (some (.ref x)) → Cx g L (st m (Str.ofString "text") (.str (S (pieces X1 0 reps).flatten) tx)) ν' z s' → LexC w ext x dx src tl pb →
      LexL (1 + ((pieces X1 0 reps).flatten.count 10 : Nat)) dx src tl pb (ext ++ (ld, LO vd nd) :: (ll, LO ls nl) :: (τ ++ (lr, LO rv nr) :: (lx, LO xs nx) :: (L + 4, o4) :: (L + 3, oc) :: (L + 2, o2) :: (L + 1, o1) :: F (tabObj ps))) [] (pieces X1 0 reps).flatten ν' →
      wpAny (MM w) A (execs (ss.drop 10) (envX (Str.ofString "law") cs L a ccd (lawCl L))) Q E s') :
    wpAny (MM w) A (execs (ss.drop 8) (envX (Str.ofString "law") cs L a ccd (lawCl L))) Q E s := by
  have hl2 : lawOf w = some (_, _) := rfl
  rw [hl2] at hlaw
  cases hlaw
  clear hl2
  simp only [List.drop_succ_cons, List.drop_zero] at k ⊢
  have q1 := cl_read L
  have q2 := cl_lexer L
  have q3 := cl_sums L
  have q4 := cl_script L
  have r1 := cl_one (Str.ofString "sums") (L + 2)
  have hh := X.hd
  obtain ⟨v3, ho3⟩ := ho3
  obtain ⟨t1, h1⟩ : ∃ t, xs[1]? = some (.int X1 t) := IntsAre.get hxs rfl
  have hlsl := hls.length
  rw [List.length_map] at hlsl
  repeat walk_at "go"
  with_reducible refine c_compT [(Str.ofString "sums", L + 2)] ?_
  repeat walk_at "go"
  with_reducible refine r_enum C (.nu (by walk_at "mem")) ?_; intro e it oe oi s hst C
  refine r_iterE hst ?_
  generalize hν : (ld, LO vd nd) :: _ = ν1 at C
  refine r_compE (R := compPost (MM w) _ _ none _) hh C hst (by decide) rfl (by decide) (by decide) (by kernel_rfl) (by omega) (nl := nl)
    (fun i ys ν' => ν' = ν1 ∧ StrsAre ys ((pieces X1 0 (reps.take i)).map S)) ⟨rfl, .nil⟩ (fun i ys ν' h => by rw [h.1, ← hν]; exact .nu (by walk_at "mem")) ?_ ?_
  · intro i v ys ν' C' oc mc D k oe oi t s hi hJ hns hv1 hv2 C
    rw [hJ.1, ← hν] at C
    have hys := hJ.2
    obtain ⟨y, ty, hy, rfl⟩ := StrsAre.at hls hi
    rw [List.getElem?_map, Option.map_eq_some_iff] at hy
    obtain ⟨word, hword, rfl⟩ := hy
    have hwl := hrw word (List.mem_of_getElem? hword)
    repeat walk_at "go"
    with_reducible refine c_callK G ?_
    repeat walk_at "go"
    with_reducible refine r_itemL C (.nu (by walk_at "mem")) (by omega) (by omega) (by with_unfolding_all exact h1) ?_
    repeat walk_at "go"
    refine ⟨kin_now G C, ?_⟩
    simp only [List.cons_append, List.nil_append]
    refine spelled_spec (D := 0) (U := 0) G (X.le (by omega) (by omega)) C rfl (by omega) (fun t s C => ?_)
    have hsl := spl_len ((X1.fdiv 16 + (i : Int)).fmod 3) word
    have k0 := Int.fmod_nonneg_of_pos (i : Int) (b := 4) (by decide)
    have k1 := Int.fmod_lt_of_pos (i : Int) (b := 4) (by decide)
    repeat walk_at "go"
    with_reducible refine r_itemS C (by omega) (by simp only [List.length_cons, List.length_nil]; omega) (by simp) ?_; intro t s C
    repeat walk_at "go"
    refine ⟨_, C, hν, ?_⟩
    rw [List.take_add_one, hword]
    simp only [Option.toList_some]
    rw [pieces_snoc, List.map_append, List.length_take, Nat.min_eq_left (by have := (List.getElem?_eq_some_iff.mp hword).1; omega), Nat.zero_add]
    exact StrsAre.snoc hys
  · intro ys ν' D C' oc mc k' s hJ hns C
    rw [hJ.1, ← hν] at C
    have hys := hJ.2
    rw [hlsl, List.take_length] at hys
    have hpl := pieces_len X1 2000 0 reps hrw
    have hpl2 : (pieces X1 0 reps).flatten.length ≤ 100000 := by
      have : (2 * 2000 + 3) * reps.length ≤ (2 * 2000 + 3) * 17 := Nat.mul_le_mul_left _ hrl
      omega
    refine compEnd hns C ?_; intro s C
    repeat walk_at "go"
    with_reducible refine r_join C Kn.head hys (by omega) ?_
    intro t s C
    have C := C.tail
    generalize (pieces X1 0 reps).flatten = text at *
    repeat walk_at "go"
    with_reducible refine c_callK G ?_
    repeat walk_at "go"
    refine ⟨kin_now G C, ?_⟩
    simp only [List.nil_append]
    refine lexer_spec (D := 0) (U := 0) G (X.le (by omega) (by omega)) C rfl hpl2 (.tail (.tail (Pt.app (.tail (.tail (.tail (.tail (.tail (.tail hP)))))) τ))) ?_
    intro x dx src tl pb ext ps ν' s C hX hL
    obtain ⟨es, n, fl, ws, kk, ln, u1, u2, rfl, rst⟩ := hL
    with_reducible refine p_storeC C q2 (.tail (.tail (Pt.app (.tail (.tail (Pt.app (.tail (.tail (.tail .head))) τ))) ext))) ho3 ?_; intro oc s hoc C
    exact k t x dx src tl pb ext ps oc _ s hoc C hX ⟨es, n, fl, ws, kk, ln, u1, u2, rfl, rst⟩
def dueD : Due → PyData
  | .txt l => .str (S l)
  | .pair l n => .tuple [.str (S l), .int n]
theorem due_reads {g : Heap} {L : Addr} {m : Str → Option Value} {ν : List (Addr × Obj)} {z s : Shared} (C : Cx g L m ν z s) {vs : List Value} {ds : List Due} (h : DueAre ν vs ds) : ReadsAll s.heap vs (ds.map dueD) [] := by
  induction h with
  | nil => exact .nil
  | txt _ ih => exact ReadsAll.cons (as := []) (Reads.str _ _) ih
  | pair hm _ ih =>
    refine ReadsAll.cons (as := []) (Reads.tuple (C.get hm) rfl rfl ?_) ih
    exact ReadsAll.cons (as := []) (bs := []) (Reads.str _ _) (ReadsAll.cons (as := []) (bs := []) (Reads.int _ _) .nil)
def txtOk (l : List Nat) : Prop := ∀ c ∈ l, c < 1114112
def dueOk : Due → Prop
  | .txt l => txtOk l
  | .pair l _ => txtOk l
theorem strOk_S {l : List Nat} (h : txtOk l) : PyData.strOk (S l) = true := by
  unfold PyData.strOk S
  rw [Array.all_eq_true]
  intro i hi
  have := h (l[i]'(by simpa using hi)) (List.getElem_mem _)
  simpa using this
theorem due_lay (ds : List Due) (h : ∀ d ∈ ds, dueOk d) : PyData.canLayAll0 (ds.map dueD) = true := by
  induction ds with
  | nil => rfl
  | cons d r ih =>
    have h1 := h d (.head _)
    have h2 := ih fun d hd => h d (.tail _ hd)
    cases d <;> simp [dueD, PyData.canLayAll0, PyData.canLay0, h2, strOk_S h1]
theorem due_depth (ds : List Due) : PyData.depthAll (ds.map dueD) ≤ 3 := by
  induction ds with
  | nil => simp [PyData.depthAll]
  | cons d r ih =>
    cases d <;> simp only [List.map_cons, dueD, PyData.depthAll, PyData.depth] <;> omega
theorem due_mix (ds : List Due) : SeqAt.noMixAll (ds.map dueD) (ds.map dueD) = true := by
  induction ds with
  | nil => rfl
  | cons d r ih => cases d <;> simp [dueD, SeqAt.noMixAll, SeqAt.noMix, ih]
theorem strs_due {ν : List (Addr × Obj)} {reps : List (List Nat)} : ∀ {vs : List Value}, StrsAre vs (reps.map S) → DueAre ν vs (reps.map .txt) := by
  induction reps with
  | nil => intro vs h; cases h; exact .nil
  | cons w r ih => intro vs h; cases h with | cons y t h => exact .txt (ih h)
theorem count_S (l : List Nat) (c : Nat) : Txt.count (S l) (S [c]) = (l.count c : Nat) := by
  rw [show S [c] = (⟨#[c]⟩ : Str) from rfl, count_is]
  have : (S l).cps.toList = l := by simp [S]
  rw [this]
  induction l with
  | nil => rfl
  | cons k r ih =>
    rw [List.map_cons]
    unfold Spec.countIn
    rw [ih (by simp [S]), List.count_cons]
    by_cases h : k = c
    · subst h
      rw [if_pos (PyProof.Rows.same_iff.mpr rfl)]
      simp
      omega
    · rw [if_neg (fun e => h (by have := PyProof.Rows.same_iff.mp e; injection this with this; have := congrArg (fun x : Str => x.cps.toList) this; simpa using this))]
      simp [h]
/-- the words that a reader will tell, and then the empty one -/
def Toks : List (List Nat) → List Nat → Prop
  | [], tape => tk tape = some ([], [])
  | w :: r, tape => ∃ rest, tk tape = some (w, rest) ∧ Toks r rest
theorem LexC.mono {w : World} {ν ν' : List (Addr × Obj)} {x dx src tl pb : Addr} (H : LexC w ν x dx src tl pb) (h : ∀ p ∈ ν, p ∈ ν') : LexC w ν' x dx src tl pb := by
  obtain ⟨ds, ess, ns, fs, ks, f, hs1, hs2, hs3, hs4, c, oc, cvs, tq, cc, ocell, params, body, scope, pm, ctv, name, qual, hlam, hf, hc, hcd, hcq, hcc, hcell⟩ := H.src
  exact ⟨h _ H.inst, ⟨ds, ess, ns, fs, ks, f, h _ hs1, h _ hs2, hs3, hs4, c, oc, cvs, tq, cc, ocell, params, body, scope, pm, ctv, name, qual, hlam, h _ hf, h _ hc, hcd, hcq, h _ hcc, hcell⟩, h _ H.pbk⟩
theorem lex_kn {w : World} {g : Heap} {N : Int} {x dx src tl pb : Addr} {ν0 μ ν : List (Addr × Obj)} {tape : List Nat} (H : LexC w ν0 x dx src tl pb) (hL : LexL N dx src tl pb ν0 μ tape ν) :
    (∀ p ∈ ν0, p ∈ ν) ∧ ∃ es n fl ln t1, Kn g ν x (instObj 110 dx) ∧ Kn g ν dx (dictOf es n) ∧ Attr es fl 8 ∧ fl (Str.ofString "get_token") = none ∧ fl (Str.ofString "lineno") = some (.int ln t1) ∧ ln + (tape.count 10 : Nat) = N := by
  obtain ⟨es, n, fl, vs, kk, ln, t1, t2, rfl, hA, e1, e2, e3, e4, e5, e6, hvs, hN, hlen⟩ := hL
  have sub : ∀ p ∈ ν0, p ∈ μ ++ (dx, dictOf es n) :: (tl, LO vs kk) :: ν0 := fun p hp => List.mem_append_right _ (.tail _ (.tail _ hp))
  exact ⟨sub, es, n, fl, ln, t1, .nu (sub _ H.inst), .nu (List.mem_append_right _ (.head _)), hA, e6, e1, hN⟩
section
variable {w : World} {A : Around} {g : Heap} {L : Addr} {m : Str → Option Value} {ν : List (Addr × Obj)} {z s : Shared} {Q : Value → Shared → Prop} {E : Value → Shared → Prop} {env : Env}
theorem r_neSame {l b : Addr} {vs us : List Value} {ds : List Due} {n n' : Nat} (C : Cx g L m ν z s) (hl : Kn g ν l (LO vs n)) (hb : Kn g ν b (LO us n')) (hv : DueAre ν vs ds) (hw : DueAre ν us ds) (hok : ∀ d ∈ ds, dueOk d) (hu : A.units + 8 < cLine) (k : Q (.bool false) s) : wpAny (MM w) A (compareOp .NotEq (.ref l) (.ref b)) Q E s := by
  refine r_neD (r := true) (da := .list (ds.map dueD)) (db := .list (ds.map dueD)) (Reads.list (hl.get C) rfl rfl (due_reads C hv)) (Reads.list (hb.get C) rfl rfl (due_reads C hw)) ?_ ?_ ?_ hu ?_ (by simp) k
  · simp [PyData.canLay0, due_lay ds hok]
  · simp [PyData.canLay0, due_lay ds hok]
  · have := due_depth ds
    simp only [PyData.depth]
    omega
  · simp [SeqAt.noMix, due_mix]
theorem r_countS {l : List Nat} {c : Nat} {t u : Tok} (C : Cx g L m ν z s) (k : ∀ t s', Cx g L m ν z s' → Q (.int (l.count c : Nat) t) s') : wpAny (MM w) A (call (.builtin "str.count") [.str (S l) t, .str (S [c]) u]) Q E s :=
  SC.count (by rw [count_S]; exact k _ _ (C.tk _))
end
theorem rep_txtok (reps : List (List Nat)) (h : ∀ l ∈ reps, txtOk l) : ∀ d ∈ reps.map Due.txt, dueOk d := by
  intro d hd
  obtain ⟨l, hl, rfl⟩ := List.mem_map.mp hd
  exact h l hl
set_option maxHeartbeats 4000000 in
theorem law_E {w : World} {A : Around} {g : Heap} {L : Addr} {m : Str → Option Value} {ν R : List (Addr × Obj)} {z s : Shared} {Q : Flow → Shared → Prop} {E : Value → Shared → Prop} {ss : List Stmt} {cs : Scope} {a : Addr} {ccd : Value}
    {oc : Obj} {ll : Addr} {ls : List Value} {nl : Nat} {reps : List (List Nat)} {text : List Nat} {tx : Tok} {x dx src tl pb : Addr} {ext : List (Addr × Obj)}
    (hlaw : lawOf w = some (ss, cs)) (G : Gx w g) (X : Ax 20 200 A (envX (Str.ofString "law") cs L a ccd (lawCl L)) g) (C : Cx g L m ν z s)
    (hX : LexC w ext x dx src tl pb) (hL : LexL (1 + (text.count 10 : Nat)) dx src tl pb (ext ++ R) [] text ν) (hoc : oc.data = .cell (some (.ref x))) (hmc : (L + 3, oc) ∈ R) (hml : (ll, LO ls nl) ∈ R)
    (hls : StrsAre ls (reps.map S)) (hrl : reps.length ≤ 17) (hT : Toks reps text) (hok : ∀ l ∈ reps, txtOk l)
    (hm5 : m (Str.ofString "replies") = some (.ref ll)) (hm6 : m (Str.ofString "text") = some (.str (S text) tx))
    (k : ∀ lt ys kt s', StrsAre ys (reps.map S) → Cx g L (st m (Str.ofString "told") (.ref lt)) ((lt, LO ys kt) :: R) z s' →
      wpAny (MM w) A (execs (ss.drop 12) (envX (Str.ofString "law") cs L a ccd (lawCl L))) Q E s') :
    wpAny (MM w) A (execs (ss.drop 10) (envX (Str.ofString "law") cs L a ccd (lawCl L))) Q E s := by
  have hl2 : lawOf w = some (_, _) := rfl
  rw [hl2] at hlaw
  cases hlaw
  clear hl2
  simp only [List.drop_succ_cons, List.drop_zero] at k ⊢
  have q1 := cl_read L
  have q2 := cl_lexer L
  have q3 := cl_sums L
  have q4 := cl_script L
  have r1 := cl_one (Str.ofString "lexer") (L + 3)
  have hh := X.hd
  have hlsl := hls.length
  rw [List.length_map] at hlsl
  have hX2 : LexC w (ext ++ R) x dx src tl pb := hX.mono fun p hp => List.mem_append_left _ hp
  have hu := X.un
  refine wpAny_execs_cons ?_
  with_reducible refine c_assignC [(Str.ofString "lexer", L + 3)] ?_
  repeat walk_at "go"
  have kn0 := lex_kn (g := g) hX2 hL
  with_reducible refine r_iterL C (.nu (kn0.1 _ (List.mem_append_right _ hml))) ?_; intro I oI St s T hst C
  refine r_compW (R := compPost (MM w) _ _ (some (assign _ _)) _) hh T C hst (by decide) rfl (by decide) (by omega) (fun i ys ν' => StrsAre ys ((reps.take i).map S) ∧ ∃ tape, LexL (1 + (text.count 10 : Nat)) dx src tl pb (ext ++ R) [] tape ν' ∧ Toks (reps.drop i) tape)
    ⟨.nil, text, hL, hT⟩ (fun i ys ν' h => by obtain ⟨_, tape, h, _⟩ := h; exact .nu ((lex_kn (g := g) hX2 h).1 _ (List.mem_append_right _ hml))) ?_ ?_
  · clear C hL hT kn0 T hst
    intro i v ys ν' C' oc2 mc D k oI s hlt hP hJ hns hv C
    obtain ⟨hys, tape, hL, hT⟩ := hJ
    obtain ⟨y, ty, hy, rfl⟩ := StrsAre.at hls hP
    rw [List.getElem?_map, Option.map_eq_some_iff] at hy
    obtain ⟨word, hword, rfl⟩ := hy
    have hil : i < reps.length := by omega
    rw [List.drop_eq_getElem_cons hil] at hT
    obtain ⟨rest, ht1, ht2⟩ := hT
    rw [List.getElem?_eq_getElem hil] at hword
    have hwe : reps[i] = word := Option.some.inj hword
    rw [hwe] at ht1
    obtain ⟨sub, es, n, fl, ln, t1, i1, i2, i3, i4, i5, i6⟩ := lex_kn (g := g) hX2 hL
    refine no_ifs (ite_t rfl ?_)
    repeat walk_at "go"
    with_reducible refine r_ccellC C r1 (List.mem_cons_of_mem _ (List.mem_cons_of_mem _ (List.mem_cons_of_mem _ (sub _ (List.mem_append_right _ hmc))))) hoc ?_
    with_reducible refine r_meth (fA := 100) G C (.cons (.cons (.cons i1))) (.cons (.cons (.cons i2))) i3 i4 (by kernel_rfl) (by kernel_rfl) ?_
    with_reducible refine c_callK0 G C ?_
    simp only [List.append_nil]
    refine token_spec (D := 0) (U := 0) G (X.le (by omega) (by omega)) C rfl hX2 (((hL.wrap (I, oI)).wrap (D, LO ys k)).wrap (C', oc2)) ht1 ?_
    intro t ν2 s C hL2
    obtain ⟨ν3, rfl, hL3⟩ := hL2.peel
    obtain ⟨ν4, rfl, hL4⟩ := hL3.peel
    obtain ⟨ν5, rfl, hL5⟩ := hL4.peel
    refine ⟨_, C, ?_, rest, hL5, ht2⟩
    rw [List.take_add_one, List.getElem?_eq_getElem hil, hwe]
    simp only [Option.toList_some, List.map_append, List.map_cons, List.map_nil]
    exact StrsAre.snoc hys
  · clear C hL hT kn0 T hst
    intro ys ν' D C' oc2 mc k' s hJ hns C
    obtain ⟨hys, tape, hL, hT⟩ := hJ
    rw [hlsl, List.take_length] at hys
    rw [hlsl, List.drop_length] at hT
    refine compEndU hns C ?_; intro s C
    obtain ⟨sub, es, n, fl, ln, t1, i1, i2, i3, i4, i5, i6⟩ := lex_kn (g := g) hX2 hL
    repeat walk_at "go"
    refine r_neSame C Kn.head (.cons (.nu (sub _ (List.mem_append_right _ hml)))) (strs_due hys) (strs_due hls) (rep_txtok _ hok) (by omega) ?_
    repeat walk_at "go"
    refine ite_f rfl ?_
    repeat walk_at "go"
    with_reducible refine r_ccellX C q2 (List.mem_cons_of_mem _ (sub _ (List.mem_append_right _ hmc))) hoc ?_
    with_reducible refine r_meth (fA := 100) G C (.cons i1) (.cons i2) i3 i4 (by kernel_rfl) (by kernel_rfl) ?_
    with_reducible refine c_callK0 G C ?_
    simp only [List.append_nil]
    refine token_spec (D := 0) (U := 0) G (X.le (by omega) (by omega)) C rfl hX2 (hL.wrap (D, LO ys k')) hT ?_
    intro t ν2 s C hL2
    obtain ⟨ν3, rfl, hL3⟩ := hL2.peel
    obtain ⟨sub3, es3, n3, fl3, ln3, t3, j1, j2, j3, j4, j5, j6⟩ := lex_kn (g := g) hX2 hL3
    repeat walk_at "go"
    refine ite_f rfl ?_
    repeat walk_at "go"
    with_reducible refine r_ccellX C q2 (List.mem_cons_of_mem _ (sub3 _ (List.mem_append_right _ hmc))) hoc ?_
    with_reducible refine r_getA0 G C (.cons j1) (.cons j2) j3 j5 rfl ?_; intro s C
    repeat walk_at "go"
    with_reducible refine r_countS C ?_; intro t s C
    repeat walk_at "go"
    have hln : ln3 = 1 + (text.count 10 : Nat) := by
      rw [← j6]; simp
    refine ite_f (by rw [hln]; simp) ?_
    walk_at "go"
    refine ite_f rfl ?_
    walk_at "go"
    obtain ⟨es4, n4, fl4, ws4, kk4, ln4, u1, u2, rfl, _⟩ := hL3
    exact k D ys k' s hys (C.sub (.cons_cons _ (.cons _ (.cons _ (List.sublist_append_right _ _)))))
def dueOf (nm : List Nat) : An → Due
  | .reply => .txt anotherL
  | .proto => .txt notReadL
  | .port n => .pair nm n
set_option maxHeartbeats 4000000 in
theorem law_F {w : World} {A : Around} {g : Heap} {L : Addr} {m : Str → Option Value} {ν τ : List (Addr × Obj)} {z s : Shared} {Q : Flow → Shared → Prop} {E : Value → Shared → Prop} {ss : List Stmt} {cs : Scope} {a : Addr} {ccd : Value}
    {o1 o2 o3 o4 : Obj} {lx lr ll ld lt : Addr} {xs rv ls vd ys : List Value} {nx nr nl nd kt : Nat} {reps : List (List Nat)} {nm : List Nat} {dues : List Due} {tn : Tok}
    (hlaw : lawOf w = some (ss, cs)) (G : Gx w g) (X : Ax 20 200 A (envX (Str.ofString "law") cs L a ccd (lawCl L)) g) (hA : A.frames = some [envX (Str.ofString "law") cs L a ccd (lawCl L)]) (hA₀ : ∃ A₀ : Around, A₀.frames = some [])
    (C : Cx g L m ((lt, LO ys kt) :: (ld, LO vd nd) :: (ll, LO ls nl) :: (τ ++ (lr, LO rv nr) :: (lx, LO xs nx) :: (L + 4, o4) :: (L + 3, o3) :: (L + 2, o2) :: (L + 1, o1) :: ν)) z s)
    (ho4 : ∃ v, o4.data = .cell v) (hys : StrsAre ys (reps.map S)) (hvd : DueAre τ vd dues) (hrl : reps.length ≤ 17) (hrw : ∀ w ∈ reps, w.length ≤ 2000) (h0 : reps[0]? = some (reply0 nm)) (hp : p257 ((reply0 nm).drop 5) = nm)
    (hans : ∀ (i : Nat) w, reps[i]? = some w → ∃ r, P229 w r ∧ dues[i]? = some (dueOf nm r)) (hdl : dues.length = reps.length) (hdo : ∀ d ∈ dues, dueOk d)
    (hm3 : m (Str.ofString "name") = some (.str (S nm) tn)) (hm4 : m (Str.ofString "told") = some (.ref lt)) (hm6 : m (Str.ofString "due") = some (.ref ld))
    (k : ∀ la as ka σ oc t s', oc.data = .cell (some (.str (S nm) t)) → DueAre σ as dues → Cx g L (st m (Str.ofString "answers") (.ref la)) ((la, LO as ka) :: (σ ++ (lt, LO ys kt) :: (ld, LO vd nd) :: (ll, LO ls nl) :: (τ ++ (lr, LO rv nr) :: (lx, LO xs nx) :: (L + 4, oc) :: (L + 3, o3) :: (L + 2, o2) :: (L + 1, o1) :: ν))) z s' →
      wpAny (MM w) A (execs (ss.drop 15) (envX (Str.ofString "law") cs L a ccd (lawCl L))) Q E s') :
    wpAny (MM w) A (execs (ss.drop 12) (envX (Str.ofString "law") cs L a ccd (lawCl L))) Q E s := by
  have hl2 : lawOf w = some (_, _) := rfl
  rw [hl2] at hlaw
  cases hlaw
  clear hl2
  simp only [List.drop_succ_cons, List.drop_zero] at k ⊢
  have q1 := cl_read L
  have q2 := cl_lexer L
  have q3 := cl_sums L
  have q4 := cl_script L
  have r1 := cl_one (Str.ofString "read") (L + 4)
  have hh := X.hd
  have hu := X.un
  obtain ⟨v4, ho4⟩ := ho4
  have hyl := hys.length
  rw [List.length_map] at hyl
  obtain ⟨t0, h0'⟩ : ∃ t, ys[0]? = some (.str (S (reply0 nm)) t) := StrsAre.get hys (by rw [List.getElem?_map, h0]; rfl)
  have h0l := hrw _ (List.mem_of_getElem? h0)
  repeat walk_at "go"
  with_reducible refine c_callK G ?_
  repeat walk_at "go"
  with_reducible refine r_itemL C Kn.head (by omega) (by omega) (by with_unfolding_all exact h0') ?_
  repeat walk_at "go"
  refine ⟨kin_now G C, ?_⟩
  simp only [List.nil_append]
  refine parse257_spec (D := 0) (U := 0) G (X.le (by omega) (by omega)) C rfl (by omega) rfl rfl (fun t s C => ?_)
  rw [hp]
  with_reducible refine p_storeC C q1 (.tail (.tail (.tail (Pt.app (.tail (.tail .head)) τ)))) ho4 ?_; intro oc s hoc C
  refine wpAny_execs_cons ?_
  with_reducible refine c_assignC [(Str.ofString "read", L + 4)] ?_
  repeat walk_at "go"
  with_reducible refine r_iterL C Kn.head ?_; intro I oI St s T hst C
  generalize hν : (lt, LO ys kt) :: _ = ν1 at C
  have hmo : (L + 4, oc) ∈ ν1 := by rw [← hν]; walk_at "mem"
  refine r_compW (R := compPost (MM w) _ _ (some (assign _ _)) _) hh T C hst (by decide) rfl (by decide) (by omega) (fun i as ν' => ∃ σ, ν' = σ ++ ν1 ∧ DueAre σ as (dues.take i))
    ⟨[], rfl, .nil⟩ (fun i ys ν' h => by obtain ⟨σ, rfl, _⟩ := h; exact .nu (List.mem_append_right _ (by rw [← hν]; exact .head _))) ?_ ?_
  · clear C T hst
    intro i v as ν' C' oc2 mc D k oI s hlt hP hJ hns hv C
    obtain ⟨σ, rfl, has⟩ := hJ
    obtain ⟨y, ty, hy, rfl⟩ := StrsAre.at hys hP
    rw [List.getElem?_map, Option.map_eq_some_iff] at hy
    obtain ⟨word, hword, rfl⟩ := hy
    have hwl := hrw word (List.mem_of_getElem? hword)
    obtain ⟨r, hr, hdi⟩ := hans i word hword
    refine no_ifs (ite_t rfl ?_)
    repeat walk_at "go"
    with_reducible refine c_callK G ?_
    repeat walk_at "go"
    with_reducible refine r_newT C ?_; intro T0 s C
    repeat walk_at "go"
    refine ⟨kin_now G C, ?_⟩
    simp only [List.cons_append, List.nil_append]
    have htk : ∀ p, DueAre (p :: σ) as (dues.take i) := fun p => has.mono fun q hq => .tail _ hq
    have hil : i < reps.length := (List.getElem?_eq_some_iff.mp hword).1
    have htake : ∀ d, dues[i]? = some d → dues.take (i + 1) = dues.take i ++ [d] := fun d hd => by rw [List.take_add_one, hd]; rfl
    refine answer_spec (D := 0) (U := 0) G (X.le (by omega) (by omega)) hA hA₀ C rfl (by omega) Kn.head hr (fun hrr t s C => ?_) (fun hrr t s C => ?_) (fun n hrr T t s C => ?_)
    · subst hrr
      refine ⟨_, C.perm (List.perm_middle (l₁ := [_, _, _])), _ :: σ, rfl, ?_⟩
      rw [htake _ hdi]
      exact DueAre.app (htk _) (.txt .nil)
    · subst hrr
      refine ⟨_, C.perm (List.perm_middle (l₁ := [_, _, _])), _ :: σ, rfl, ?_⟩
      rw [htake _ hdi]
      exact DueAre.app (htk _) (.txt .nil)
    · subst hrr
      have C := C.perm ((List.perm_middle (l₁ := [_, _, _])).trans (List.Perm.cons _ (List.perm_middle (l₁ := [_, _, _]))) )
      refine ⟨_, C, _ :: _ :: σ, rfl, ?_⟩
      rw [htake _ hdi]
      exact DueAre.app ((htk _).mono fun p hp => .tail _ hp) (.pair (.head _) .nil)
  · clear C T hst
    intro as ν' D C' oc2 mc k' s hJ hns C
    obtain ⟨σ, rfl, has⟩ := hJ
    rw [hyl, ← hdl, List.take_length] at has
    refine compEndU hns C ?_; intro s C
    rw [← hν] at C
    repeat walk_at "go"
    refine ite_f (by simp) ?_
    repeat walk_at "go"
    refine r_neSame C Kn.head (.nu (by walk_at "mem")) (ds := dues) (has.mono fun p hp => .tail _ (List.mem_append_left _ hp)) (hvd.mono fun p hp => .tail _ (List.mem_append_right _ (.tail _ (.tail _ (.tail _ (List.mem_append_left _ hp)))))) hdo (by omega) ?_
    repeat walk_at "go"
    refine ite_f rfl ?_
    walk_at "go"
    refine ite_f rfl ?_
    walk_at "go"
    exact k D as k' σ oc t s hoc has C
def portOf : Due → Option Int
  | .pair _ n => some n
  | .txt _ => none
def portsOf (ds : List Due) : List Int := ds.filterMap portOf
theorem DueAre.at {ν : List (Addr × Obj)} {vs : List Value} {ds : List Due} (h : DueAre ν vs ds) : ∀ {i : Nat} {v : Value}, vs[i]? = some v → ∃ d, ds[i]? = some d ∧ ((∃ l t, d = .txt l ∧ v = .str (S l) t) ∨ ∃ l n t t' T, d = .pair l n ∧ v = .ref T ∧ (T, TO [.str (S l) t, .int n t'] 0) ∈ ν) := by
  induction h with
  | nil => intro i v e; cases i <;> cases e
  | txt _ ih =>
    intro i v e
    cases i with
    | zero => cases e; exact ⟨_, rfl, .inl ⟨_, _, rfl, rfl⟩⟩
    | succ i => exact ih e
  | pair hm _ ih =>
    intro i v e
    cases i with
    | zero => cases e; exact ⟨_, rfl, .inr ⟨_, _, _, _, _, rfl, rfl, hm⟩⟩
    | succ i => exact ih e
section
variable {w : World} {A : Around} {g : Heap} {L : Addr} {m : Str → Option Value} {ν : List (Addr × Obj)} {z s : Shared} {Q : Value → Shared → Prop} {E : Value → Shared → Prop} {env : Env}
theorem mix_ints (ns : List Int) : SeqAt.noMixAll (ns.map .int) (ns.map .int) = true := by
  induction ns with
  | nil => rfl
  | cons n r ih => simp [SeqAt.noMixAll, SeqAt.noMix, ih]
theorem r_neInts {l b : Addr} {vs us : List Value} {ns : List Int} {n n' : Nat} (C : Cx g L m ν z s) (hl : Kn g ν l (LO vs n)) (hb : Kn g ν b (LO us n')) (hv : IntsAre vs ns) (hw : IntsAre us ns) (hu : A.units + 8 < cLine) (k : Q (.bool false) s) : wpAny (MM w) A (compareOp .NotEq (.ref l) (.ref b)) Q E s := by
  refine r_neD (r := true) (da := .list (ns.map .int)) (db := .list (ns.map .int)) (Reads.list (hl.get C) rfl rfl (reads_ints hv)) (Reads.list (hb.get C) rfl rfl (reads_ints hw)) ?_ ?_ ?_ hu ?_ (by simp) k
  · simp [PyData.canLay0, lay_ints]
  · simp [PyData.canLay0, lay_ints]
  · have := depth_ints ns
    simp only [PyData.depth]
    omega
  · simp [SeqAt.noMix, mix_ints]
theorem one_if {f : Expr → Sem Bool} {c : Expr} {Q : Bool → Shared → Prop} (h : wpAny (MM w) A (isTrue c env (eval c env)) Q E s) :
    wpAny (MM w) A (forIn [c] true fun c r => if r = true then do let ok ← isTrue c env (eval c env); pure (ForInStep.yield ok) else pure (ForInStep.yield r)) Q E s := wpAny_tests_one h
end
set_option maxHeartbeats 4000000 in
theorem law_G {w : World} {A : Around} {g : Heap} {L : Addr} {m : Str → Option Value} {R σ : List (Addr × Obj)} {z s : Shared} {Q : Flow → Shared → Prop} {E : Value → Shared → Prop} {ss : List Stmt} {cs : Scope} {a : Addr} {ccd : Value}
    {la lr : Addr} {as rv : List Value} {ka nr bk : Nat} {dues : List Due} {tb : Tok} {rl : List Nat}
    (hlaw : lawOf w = some (ss, cs)) (G : Gx w g) (X : Ax 20 200 A (envX (Str.ofString "law") cs L a ccd (lawCl L)) g)
    (C : Cx g L m ((la, LO as ka) :: (σ ++ R)) z s) (has : DueAre σ as dues) (hdl : dues.length ≤ 17) (hmr : (lr, LO rv nr) ∈ R) (hrv : IntsAre rv (intsN rl)) (hrl : rl.length ≤ 4)
    (h8 : (portsOf dues).length = 8) (hb : ∀ b, b < 7 → -100 ≤ cntB (portsOf dues) b ∧ cntB (portsOf dues) b ≤ 100) (hbk : backB (portsOf dues) = (bk : Int)) (hsort : ∀ ns : List Int, ns.Perm (intsN rl) → ns.Pairwise (· ≤ ·) → ns = runsB (portsOf dues) 7)
    (hm1 : m (Str.ofString "runs") = some (.ref lr)) (hm2 : m (Str.ofString "back") = some (.int ((bk : Nat) : Int) tb)) (hm4 : m (Str.ofString "answers") = some (.ref la))
    (k : ∀ m lf fs nf t1 t2 s', IntsAre fs (runsB (portsOf dues) 7) → m (Str.ofString "found") = some (.ref lf) → m (Str.ofString "blanks") = some (.int (bk : Int) t1) → m (Str.ofString "back") = some (.int (bk : Int) t2) → Cx g L m ((lf, LO fs nf) :: R) z s' →
      wpAny (MM w) A (execs (ss.drop 17) (envX (Str.ofString "law") cs L a ccd (lawCl L))) Q E s') :
    wpAny (MM w) A (execs (ss.drop 15) (envX (Str.ofString "law") cs L a ccd (lawCl L))) Q E s := by
  have hl2 : lawOf w = some (_, _) := rfl
  rw [hl2] at hlaw
  cases hlaw
  clear hl2
  simp only [List.drop_succ_cons, List.drop_zero] at k ⊢
  have hh := X.hd
  have hu := X.un
  have hal := has.length
  refine wpAny_execs_cons ?_
  with_reducible refine c_assignT ?_
  repeat walk_at "go"
  with_reducible refine c_callK G ?_
  repeat walk_at "go"
  with_reducible refine c_comp [] ?_
  repeat walk_at "go"
  with_reducible refine r_iterL C Kn.head ?_; intro I oI St s T hst C
  generalize hν : (la, LO as ka) :: _ = ν1 at C
  have hsub : ∀ p ∈ σ, p ∈ ν1 := fun p hp => by rw [← hν]; exact .tail _ (List.mem_append_left _ hp)
  refine r_compW (R := compPost (MM w) _ _ none _) hh T C hst (by decide) rfl (by decide) (by omega) (fun i ys ν' => ν' = ν1 ∧ IntsAre ys (portsOf (dues.take i)))
    ⟨rfl, .nil⟩ (fun i ys ν' h => by rw [h.1, ← hν]; exact Kn.head) ?_ ?_
  · intro i v ys ν' C' oc2 mc D k oI s hlt hP hJ hns hv C
    rw [hJ.1] at C
    have hys := hJ.2
    obtain ⟨d, hd, hcase⟩ := DueAre.at has hP
    have htake : dues.take (i + 1) = dues.take i ++ [d] := by rw [List.take_add_one, hd]; rfl
    refine wpAny_tests_one ?_
    with_reducible refine c_isVal ?_
    repeat walk_at "go"
    rcases hcase with ⟨l, t, rfl, rfl⟩ | ⟨l, n, t, t', T, rfl, rfl, hm⟩
    · refine PySem.IsiPair.str_tuple ?_
      have C := C.tk (s.toks + 1)
      repeat walk_at "go"
      refine ite_f rfl ?_
      refine ⟨_, C, rfl, ?_⟩
      rw [htake]
      unfold portsOf at hys ⊢
      rw [List.filterMap_append]
      rw [show List.filterMap portOf [Due.txt l] = [] from rfl, List.append_nil]
      exact hys
    · have hm2 := List.mem_cons_of_mem (C', oc2) (List.mem_cons_of_mem (D, LO ys k) (List.mem_cons_of_mem (I, oI) (hsub _ hm)))
      refine PySem.IsiPair.tuple_tuple (C.get hm2) rfl ?_
      repeat walk_at "go"
      refine ite_t rfl ?_
      repeat walk_at "go"
      with_reducible refine r_itemT C (.nu hm2) (by omega) (by omega) (x := .int n t') rfl ?_
      refine ⟨_, C, rfl, ?_⟩
      rw [htake]
      unfold portsOf at hys ⊢
      rw [List.filterMap_append]
      exact IntsAre.app hys (.cons n t' .nil)
  · intro ys ν' D C' oc2 mc k' s hJ hns C
    rw [hJ.1] at C
    have hys := hJ.2
    rw [hal, List.take_length] at hys
    refine compEnd hns C ?_; intro s C
    repeat walk_at "go"
    refine ⟨kin_now G C, ?_⟩
    simp only [List.nil_append]
    refine back_spec (D := 0) (U := 0) G (X.le (by omega) (by omega)) C rfl Kn.head hys h8 hb ?_
    intro T lf fs nf t s hfs C
    rw [hbk] at C
    have hmr2 : (lr, LO rv nr) ∈ (T, TO [.ref lf, .int (bk : Int) t] 0) :: (lf, LO fs nf) :: (D, LO ys k') :: ν1 := by
      rw [← hν]; exact .tail _ (.tail _ (.tail _ (.tail _ (List.mem_append_right _ hmr))))
    with_reducible refine r_unpack2 C hh Kn.head ?_; intro s C
    repeat walk_at "go"
    with_reducible refine r_sorted C (.nu hmr2) hrv (by have := hrv.length; rw [List.length_map] at this; omega) ?_
    intro D2 vs' ns' n' s hvs' hperm hpw C
    rw [hsort ns' hperm hpw] at hvs'
    repeat walk_at "go"
    refine r_neInts C (.nu (by walk_at "mem")) Kn.head hfs hvs' (by omega) ?_
    repeat walk_at "go"
    refine ite_f rfl ?_
    repeat walk_at "go"
    refine ite_f (by simp) ?_
    walk_at "go"
    refine ite_f rfl ?_
    walk_at "go"
    rw [← hν] at C
    refine k _ lf fs nf t tb s hfs (by walk_at "lk") (by walk_at "lk") (by walk_at "lk") (C.sub ?_)
    refine List.Sublist.cons _ (List.Sublist.cons _ (List.Sublist.cons_cons _ (List.Sublist.cons _ (List.Sublist.cons _ (List.sublist_append_right _ _)))))
section
variable {w : World} {A : Around} {g : Heap} {L : Addr} {m : Str → Option Value} {ν : List (Addr × Obj)} {z s : Shared} {Q : Value → Shared → Prop} {E : Value → Shared → Prop} {env : Env}
theorem step_rev (l : List Nat) (u : Tok) : Txt.sliceBy (S l) none none (-1, u) = S l.reverse := by
  have h := step_rev_list (S l) u
  have e : (List.range (S l).length).map (fun k => (S l).cps.getD ((S l).length - 1 - k) 0) = l.reverse := by
    rw [S_len]
    apply List.ext_getElem
    · simp
    · intro i h1 h2
      have hi : i < l.length := by simpa using h1
      rw [List.getElem_map, List.getElem_range, List.getElem_reverse]
      simp [S, Array.getD, show l.length - 1 - i < l.length from by omega]
  rw [e] at h
  generalize Txt.sliceBy (S l) none none (-1, u) = r at h
  obtain ⟨⟨r⟩⟩ := r
  have : r = l.reverse := h
  rw [this]
  rfl
theorem r_revS {value slice : Expr} {l : List Nat} {t uk : Tok} (C : Cx g L m ν z s) (hl : l.length ≤ 1000000) (k : ∀ t s', Cx g L m ν z s' → Q (.str (S l.reverse) t) s')
    (hs : subscripted slice false (.str (S l) t) (.ref s.heap.objs.size) = operate [.str (S l) t, .ref s.heap.objs.size] (getItem (.str (S l) t) (.ref s.heap.objs.size)) := by kernel_rfl)
    (ht : ∀ r, letTemporaryGo value (.str (S l) t) r = pure () := by intro _; kernel_rfl) :
    wpAny (MM w) A (subscriptTail value slice (.str (S l) t) (.ref s.heap.objs.size)) Q E { s with heap := s.heap.push { cls := .type "slice", data := .fields #[.none, .none, .int (-1) uk] } } := by
  have hsz : (S l).length ≤ sizeLine := by rw [S_len, sizeLine_eq]; omega
  refine tail_of_ItemOn ⟨"str", _, F.slot_str_getitem.lookup, typeIs_str _ _ _, wpAny_getItem_str_slice (l := none) (u := none) (st := some (-1, uk)) ⟨_, Heap.get?_push_size _ rfl, rfl, rfl⟩ (show ((-1 : Int) == 0) = false by decide) (post_val_or_str ⟨Nat.le_trans (Txt.sliceBy_le (S l) _ _ (-1, uk) (show (-1 : Int) ≠ 0 by decide)) hsz, fun t' c => ?_⟩)⟩ hs ht
  show Q (.str (Txt.sliceBy (S l) none none (-1, uk)) t') _
  rw [step_rev]
  have FN := keptFrN s.heap { cls := .type "slice", data := .fields #[.none, .none, .int (-1) uk] } ⟨C.fr, C.nw⟩
  exact k t' _ (C.at FN.1 FN.2 C.nd)
theorem r_isNotB {b c : Bool} (h : Q (.bool (b != c)) s) : wpAny (MM w) A (compareOp .IsNot (.bool b) (.bool c)) Q E s := isnot_bool h
theorem r_isB {b c : Bool} (h : Q (.bool (b == c)) s) : wpAny (MM w) A (compareOp .Is (.bool b) (.bool c)) Q E s := is_bool h
end
abbrev eqW (r r2 : List Int × Nat × Int × Int) : Prop := r.1 = r2.1 ∧ r.2.1 = r2.2.1
set_option maxHeartbeats 4000000 in
theorem law_H {w : World} {A : Around} {g : Heap} {L : Addr} {m : Str → Option Value} {R : List (Addr × Obj)} {z s : Shared} {Q : Flow → Shared → Prop} {E : Value → Shared → Prop} {ss : List Stmt} {cs : Scope} {a : Addr} {ccd : Value}
    {lf : Addr} {fs : List Value} {nf bk : Nat} {t1 t2 t3 : Tok} {oc : Obj} {nm : List Nat} {sl : List Nat}
    (hlaw : lawOf w = some (ss, cs)) (G : Gx w g) (X : Ax 20 200 A (envX (Str.ofString "law") cs L a ccd (lawCl L)) g)
    (C : Cx g L m ((lf, LO fs nf) :: R) z s) (hfs : IntsAre fs (intsN sl)) (hmo : (L + 4, oc) ∈ R) (hoc : oc.data = .cell (some (.str (S nm) t3))) (hl1 : 1 ≤ sl.length) (hl4 : sl.length ≤ 4) (hs6 : ∀ r ∈ sl, r ≤ 6) (hb3 : bk ≤ 3) (hnl : nm.length ≤ 450)
    (hm1 : m (Str.ofString "found") = some (.ref lf)) (hm2 : m (Str.ofString "blanks") = some (.int (bk : Int) t1)) (hm3 : m (Str.ofString "back") = some (.int (bk : Int) t2))
    (e1 : eqW (wsGo (leadL (intsN sl) bk) [] 0 0 0) (wsGo nm [] 0 0 0)) (e2 : ¬ eqW (wsGo nm [] 0 0 0) (wsGo (leadL (intsN sl) bk ++ [32]) [] 0 0 0)) (e3 : ¬ eqW (wsGo nm [] 0 0 0) (wsGo ([9] ++ leadL (intsN sl) bk) [] 0 0 0))
    (e4 : decide (eqW (wsGo nm [] 0 0 0) (wsGo (leadL (intsN sl) bk).reverse [] 0 0 0)) = ((bk : Int) == (intsN sl).getD 0 0))
    (k : ∀ m ν' s', Cx g L m (ν' ++ R) z s' → Q (.ret (.bool true)) s') :
    wpAny (MM w) A (execs (ss.drop 17) (envX (Str.ofString "law") cs L a ccd (lawCl L))) Q E s := by
  have hl2 : lawOf w = some (_, _) := rfl
  rw [hl2] at hlaw
  cases hlaw
  clear hl2
  simp only [List.drop_succ_cons, List.drop_zero] at k ⊢
  have hh := X.hd
  have hu := X.un
  have q1 := cl_read L
  have hll : (leadL (intsN sl) (bk : Int)).length ≤ 450 := by
    have h := name_len sl bk hl4 hs6 hb3
    unfold nameL at h
    rw [List.length_append] at h
    omega
  repeat walk_at "go"
  with_reducible refine c_callK G ?_
  repeat walk_at "go"
  refine ⟨kin_now G C, ?_⟩
  simp only [List.nil_append]
  refine lead_spec (D := 0) (U := 0) G (X.le (by omega) (by omega)) C rfl Kn.head hfs (by rw [List.length_map]; omega) (fun b hb => ?_) (by omega) (by omega) (fun t s C => ?_)
  · obtain ⟨r, hr, rfl⟩ := List.mem_map.mp hb
    have := hs6 r hr
    omega
  generalize leadL (intsN sl) (bk : Int) = ld at *
  repeat walk_at "go"
  with_reducible refine c_callK G ?_
  repeat walk_at "go"
  refine ⟨kin_now G C, ?_⟩
  simp only [List.nil_append]
  refine ws_spec (D := 0) (U := 0) G (X.le (by omega) (by omega)) C rfl (by omega) ?_
  intro x dx tp tc es n f ws τ s C hW
  repeat walk_at "go"
  with_reducible refine c_callK G ?_
  repeat walk_at "go"
  refine ⟨kin_now G C, ?_⟩
  simp only [List.nil_append]
  refine ws_spec (D := 0) (U := 0) G (X.le (by omega) (by omega)) C rfl (by omega) ?_
  intro x2 dx2 tp2 tc2 es2 n2 f2 ws2 τ2 s C hV
  with_reducible refine r_meth (fA := 152) G C (hV.inst.mono fun p hp => List.mem_append_left _ hp) (hV.dict.mono fun p hp => List.mem_append_left _ hp) hV.attr hV.eq (by kernel_rfl) (by kernel_rfl) ?_
  with_reducible refine c_callK G ?_
  repeat walk_at "go"
  refine ⟨kin_now G C, ?_⟩
  simp only [List.cons_append, List.nil_append]
  refine equal_spec (D := 0) (U := 0) G (X.le (by omega) (by omega)) C rfl (hV.mono fun p hp => List.mem_append_left _ hp) (hW.mono fun p hp => List.mem_append_right _ (List.mem_append_left _ hp)) (fun s C => ?_)
  repeat walk_at "go"
  refine r_isNotB ?_
  repeat walk_at "go"
  refine ite_f (by rw [decide_eq_true e1]; rfl) ?_
  repeat walk_at "go"
  with_reducible refine r_meth (fA := 152) G C (hW.inst.mono fun p hp => List.mem_append_right _ (List.mem_append_left _ hp)) (hW.dict.mono fun p hp => List.mem_append_right _ (List.mem_append_left _ hp)) hW.attr hW.eq (by kernel_rfl) (by kernel_rfl) ?_
  with_reducible refine c_callK G ?_
  repeat walk_at "go"
  with_reducible refine c_callK G ?_
  repeat walk_at "go"
  refine ⟨kin_now G C, ?_⟩
  simp only [List.nil_append]
  refine ws_spec (D := 0) (U := 0) G (X.le (by omega) (by omega)) C rfl (by simp; omega) ?_
  intro x3 dx3 tp3 tc3 es3 n3 f3 ws3 τ3 s C hV3
  repeat walk_at "go"
  refine ⟨kin_now G C, ?_⟩
  simp only [List.cons_append, List.nil_append]
  refine equal_spec (D := 0) (U := 0) G (X.le (by omega) (by omega)) C rfl (hW.mono fun p hp => List.mem_append_right _ (List.mem_append_right _ (List.mem_append_left _ hp))) (hV3.mono fun p hp => List.mem_append_left _ hp) (fun s C => ?_)
  repeat walk_at "go"
  refine r_isNotB ?_
  repeat walk_at "go"
  refine ite_f (by rw [decide_eq_false e2]; rfl) ?_
  repeat walk_at "go"
  with_reducible refine r_meth (fA := 152) G C (hW.inst.mono fun p hp => List.mem_append_right _ (List.mem_append_right _ (List.mem_append_left _ hp))) (hW.dict.mono fun p hp => List.mem_append_right _ (List.mem_append_right _ (List.mem_append_left _ hp))) hW.attr hW.eq (by kernel_rfl) (by kernel_rfl) ?_
  with_reducible refine c_callK G ?_
  repeat walk_at "go"
  with_reducible refine c_callK G ?_
  repeat walk_at "go"
  refine ⟨kin_now G C, ?_⟩
  simp only [List.nil_append]
  refine ws_spec (D := 0) (U := 0) G (X.le (by omega) (by omega)) C rfl (by simp; omega) ?_
  intro x4 dx4 tp4 tc4 es4 n4 f4 ws4 τ4 s C hV4
  repeat walk_at "go"
  refine ⟨kin_now G C, ?_⟩
  simp only [List.cons_append, List.nil_append]
  refine equal_spec (D := 0) (U := 0) G (X.le (by omega) (by omega)) C rfl (hW.mono fun p hp => List.mem_append_right _ (List.mem_append_right _ (List.mem_append_right _ (List.mem_append_left _ hp)))) (hV4.mono fun p hp => List.mem_append_left _ hp) (fun s C => ?_)
  repeat walk_at "go"
  refine r_isNotB ?_
  repeat walk_at "go"
  refine ite_f (by rw [decide_eq_false e3]; rfl) ?_
  repeat walk_at "go"
  refine ite_f rfl ?_
  repeat walk_at "go"
  with_reducible refine r_meth (fA := 152) G C (hW.inst.mono fun p hp => List.mem_append_right _ (List.mem_append_right _ (List.mem_append_right _ (List.mem_append_left _ hp)))) (hW.dict.mono fun p hp => List.mem_append_right _ (List.mem_append_right _ (List.mem_append_right _ (List.mem_append_left _ hp)))) hW.attr hW.eq (by kernel_rfl) (by kernel_rfl) ?_
  with_reducible refine c_callK G ?_
  repeat walk_at "go"
  with_reducible refine c_callK G ?_
  repeat walk_at "go"
  with_reducible refine r_revS C (by omega) ?_; intro t s C
  repeat walk_at "go"
  refine ⟨kin_now G C, ?_⟩
  simp only [List.nil_append]
  refine ws_spec (D := 0) (U := 0) G (X.le (by omega) (by omega)) C rfl (by rw [List.length_reverse]; omega) ?_
  intro x5 dx5 tp5 tc5 es5 n5 f5 ws5 τ5 s C hV5
  repeat walk_at "go"
  refine ⟨kin_now G C, ?_⟩
  simp only [List.cons_append, List.nil_append]
  refine equal_spec (D := 0) (U := 0) G (X.le (by omega) (by omega)) C rfl (hW.mono fun p hp => List.mem_append_right _ (List.mem_append_right _ (List.mem_append_right _ (List.mem_append_right _ (List.mem_append_left _ hp))))) (hV5.mono fun p hp => List.mem_append_left _ hp) (fun s C => ?_)
  repeat walk_at "go"
  have hfl := hfs.length
  rw [List.length_map] at hfl
  obtain ⟨t0, h0⟩ : ∃ t, fs[0]? = some (.int ((intsN sl).getD 0 0) t) := IntsAre.get hfs (by rw [List.getD_eq_getElem?_getD, List.getElem?_eq_getElem (by rw [List.length_map]; omega)]; rfl)
  with_reducible refine r_itemL C (.nu (by walk_at "mem")) (by omega) (by omega) (by with_unfolding_all exact h0) ?_
  repeat walk_at "go"
  refine r_isB ?_
  rw [show decide _ = _ from e4, beq_self_eq_true]
  exact k _ (τ5 ++ (τ4 ++ (τ3 ++ (τ2 ++ (τ ++ [(lf, LO fs nf)]))))) s (C.perm (List.Perm.of_eq (by simp)))
/-- blanks -/
theorem rep_nat (k : Nat) (c : Nat) : rep (k : Int) [c] = List.replicate k c := by
  unfold rep
  rw [Int.toNat_natCast]
  induction k with
  | zero => rfl
  | succ k ih => rw [List.replicate_succ, List.replicate_succ, List.flatten_cons, ih]; rfl
def tally (rl : List Nat) (c : List Int) : List Int := rl.foldl bump c
theorem ws_blanks : ∀ (k : Nat) (rest : List Nat) (c : List Int) (b : Nat) (n nt : Int), wsGo (List.replicate k 32 ++ rest) c b n nt = wsGo rest c (b + k) (n + k) nt
  | 0, rest, c, b, n, nt => by simp
  | k + 1, rest, c, b, n, nt => by
    rw [List.replicate_succ, List.cons_append]
    show (if (32 : Nat) = 32 then wsGo (List.replicate k 32 ++ rest) c (b + 1) (n + 1) nt else _) = _
    rw [if_pos rfl, ws_blanks k, show b + 1 + k = b + (k + 1) from by omega, show n + 1 + (k : Int) = n + ((k + 1 : Nat) : Int) from by omega]
theorem ws_runs : ∀ (rl : List Nat) (rest : List Nat) (c : List Int) (n nt : Int), ∃ n', wsGo (leadRuns (intsN rl) ++ rest) c 0 n nt = wsGo rest (tally rl c) 0 n' (nt + (rl.length : Int))
  | [], rest, c, n, nt => ⟨n, by simp [leadRuns, tally]⟩
  | r :: rl, rest, c, n, nt => by
    obtain ⟨n', h⟩ := ws_runs rl rest (bump c r) (n + r + 1) (nt + 1)
    refine ⟨n', ?_⟩
    have e : leadRuns (intsN (r :: rl)) ++ rest = List.replicate r 32 ++ (9 :: (leadRuns (intsN rl) ++ rest)) := by
      unfold leadRuns intsN
      rw [List.map_cons, List.map_cons, List.flatten_cons, rep_nat]
      simp
    rw [e, ws_blanks, Nat.zero_add]
    show (if (9 : Nat) = 32 then _ else if (9 : Nat) = 9 then wsGo (leadRuns (intsN rl) ++ rest) (bump c r) 0 (n + r + 1) (nt + 1) else _) = _
    rw [if_neg (by decide), if_pos rfl, h, List.length_cons]
    show wsGo rest (tally rl (bump c r)) 0 n' (nt + 1 + (rl.length : Int)) = wsGo rest (tally rl (bump c r)) 0 n' (nt + ((rl.length + 1 : Nat) : Int))
    rw [show nt + 1 + (rl.length : Int) = nt + ((rl.length + 1 : Nat) : Int) from by omega]
theorem ws_lead (rl : List Nat) (bk : Nat) (rest : List Nat) (hr : rest = [] ∨ ∃ c r, rest = c :: r ∧ c ≠ 32 ∧ c ≠ 9) : ∃ n, wsGo (leadL (intsN rl) (bk : Int) ++ rest) [] 0 0 0 = (tally rl [], bk, n, (rl.length : Int)) := by
  obtain ⟨n', h⟩ := ws_runs rl (rep (bk : Int) [32] ++ rest) [] 0 0
  refine ⟨n' + bk, ?_⟩
  unfold leadL
  rw [List.append_assoc, h, rep_nat, ws_blanks, Nat.zero_add, Int.zero_add]
  rcases hr with rfl | ⟨c, r, rfl, h1, h2⟩
  · rfl
  · show (if c = 32 then _ else if c = 9 then _ else (tally rl [], bk, n' + (bk : Int), (rl.length : Int))) = _
    rw [if_neg h1, if_neg h2]
theorem bump_get (c : List Int) (b i : Nat) : (bump c b).getD i 0 = c.getD i 0 + (if i = b then 1 else 0) := by
  have hw : ∀ j, (wide c b).getD j 0 = c.getD j 0 := by
    intro j
    unfold wide
    split
    · rw [List.getD_eq_getElem?_getD, List.getD_eq_getElem?_getD]
      by_cases hj : j < c.length
      · rw [List.getElem?_append_left hj]
      · rw [List.getElem?_append_right (by omega), List.getElem?_eq_none (l := c) (by omega), List.getElem?_replicate]
        split <;> rfl
    · rfl
  unfold bump
  have hl := (wide_len c b).1
  rw [List.getD_eq_getElem?_getD, List.getElem?_set]
  by_cases h : b = i
  · subst h
    rw [if_pos rfl, if_pos hl, if_pos rfl, hw]
    rfl
  · rw [if_neg h, if_neg (fun e => h e.symm), ← List.getD_eq_getElem?_getD, hw]
    omega
theorem bump_len2 (c : List Int) (b : Nat) : (bump c b).length = max c.length (b + 1) := by
  unfold bump wide
  rw [List.length_set]
  split
  · rw [List.length_append, List.length_replicate]; omega
  · omega
theorem ext_getD {a b : List Int} (hl : a.length = b.length) (h : ∀ i, a.getD i 0 = b.getD i 0) : a = b := by
  apply List.ext_getElem hl
  intro i h1 h2
  have := h i
  rw [List.getD_eq_getElem?_getD, List.getD_eq_getElem?_getD, List.getElem?_eq_getElem h1, List.getElem?_eq_getElem h2] at this
  exact this
theorem bump_comm (c : List Int) (a b : Nat) : bump (bump c a) b = bump (bump c b) a := by
  apply ext_getD
  · rw [bump_len2, bump_len2, bump_len2, bump_len2]; omega
  · intro i
    rw [bump_get, bump_get, bump_get, bump_get]
    omega
theorem tally_perm {rl sl : List Nat} (h : rl.Perm sl) (c : List Int) : tally rl c = tally sl c := by
  unfold tally
  exact h.foldl_eq' (fun x _ y _ z => bump_comm z x y) c
theorem tally_get : ∀ (rl : List Nat) (c : List Int) (i : Nat), (tally rl c).getD i 0 = c.getD i 0 + (rl.count i : Nat)
  | [], c, i => by simp [tally]
  | r :: rl, c, i => by
    show (tally rl (bump c r)).getD i 0 = _
    rw [tally_get rl, bump_get, List.count_cons]
    by_cases h : i = r
    · subst h; simp; omega
    · rw [if_neg h]
      have : (r == i) = false := by simpa using fun e : r = i => h e.symm
      rw [this]
      simp
theorem tally_len : ∀ (rl : List Nat) (c : List Int) (B : Nat), c.length ≤ B → (∀ r ∈ rl, r < B) → (tally rl c).length ≤ B
  | [], c, B, h, _ => h
  | r :: rl, c, B, h, hr => by
    show (tally rl (bump c r)).length ≤ B
    refine tally_len rl _ B ?_ fun x hx => hr x (.tail _ hx)
    have := hr r (.head _)
    rw [bump_len2]; omega
theorem tally_lt : ∀ (rl : List Nat) (c : List Int), c.length ≤ (tally rl c).length ∧ ∀ r ∈ rl, r < (tally rl c).length
  | [], c => ⟨Nat.le_refl _, fun _ h => nomatch h⟩
  | r :: rl, c => by
    obtain ⟨h1, h2⟩ := tally_lt rl (bump c r)
    rw [bump_len2] at h1
    show c.length ≤ (tally rl (bump c r)).length ∧ ∀ x ∈ r :: rl, x < (tally rl (bump c r)).length
    refine ⟨by omega, fun x hx => ?_⟩
    rcases List.mem_cons.mp hx with rfl | hx
    · omega
    · exact h2 x hx
/-- what the runs widen at a size -/
def wN (rl : List Nat) (t : Nat) : Nat := (rl.map (· / t)).sum
def sumN (f : Nat → Int) : Nat → Int
  | 0 => 0
  | n + 1 => sumN f n + f n
theorem sumN_add (f h : Nat → Int) : ∀ n, sumN (fun i => f i + h i) n = sumN f n + sumN h n
  | 0 => rfl
  | n + 1 => by
    show sumN (fun i => f i + h i) n + (f n + h n) = sumN f n + f n + (sumN h n + h n)
    rw [sumN_add f h n]; omega
theorem sumN_congr {f h : Nat → Int} : ∀ n, (∀ i, i < n → f i = h i) → sumN f n = sumN h n
  | 0, _ => rfl
  | n + 1, e => by
    show sumN f n + f n = sumN h n + h n
    rw [sumN_congr n fun i hi => e i (by omega), e n (by omega)]
theorem sumN_zero : ∀ n, sumN (fun _ => 0) n = 0
  | 0 => rfl
  | n + 1 => by show sumN (fun _ => 0) n + 0 = 0; rw [sumN_zero n]; rfl
theorem sumN_one (v : Int) (j : Nat) : ∀ n, sumN (fun i => if i = j then v else 0) n = if j < n then v else 0
  | 0 => rfl
  | n + 1 => by
    show sumN (fun i => if i = j then v else 0) n + (if n = j then v else 0) = _
    rw [sumN_one v j n]
    by_cases h1 : j < n
    · rw [if_pos h1, if_neg (by omega), if_pos (by omega)]; omega
    · rw [if_neg h1]
      by_cases h2 : n = j
      · rw [if_pos h2, if_pos (by omega)]; omega
      · rw [if_neg h2, if_neg (by omega)]; omega
theorem tab_sum (t : Nat) (ht : 1 ≤ t) (n : Nat) : ∀ rl : List Nat, (∀ r ∈ rl, r < t + n) → sumN (fun i => (((t + i) / t : Nat) : Int) * ((rl.count (t + i) : Nat) : Int)) n = (wN rl t : Nat)
  | [], _ => by simp [wN, sumN_zero]
  | r :: rl, h => by
    have ih := tab_sum t ht n rl fun x hx => h x (.tail _ hx)
    have hr := h r (.head _)
    have e : ∀ i, i < n → (((t + i) / t : Nat) : Int) * (((r :: rl).count (t + i) : Nat) : Int) = (((t + i) / t : Nat) : Int) * ((rl.count (t + i) : Nat) : Int) + (if i = r - t ∧ t ≤ r then ((r / t : Nat) : Int) else 0) := by
      intro i _
      rw [List.count_cons]
      by_cases hi : r = t + i
      · have : (r == t + i) = true := by simpa using hi
        rw [this, if_pos rfl, if_pos ⟨by omega, by omega⟩, ← hi, Int.natCast_add, Int.mul_add]
        simp
      · have : (r == t + i) = false := by simpa using hi
        rw [this, if_neg (by decide), if_neg (by omega)]
        simp
    rw [sumN_congr n e, sumN_add, ih]
    have hw : wN (r :: rl) t = r / t + wN rl t := by simp [wN]
    rw [hw]
    by_cases htr : t ≤ r
    · have e2 : ∀ i, i < n → (if i = r - t ∧ t ≤ r then ((r / t : Nat) : Int) else 0) = if i = r - t then ((r / t : Nat) : Int) else 0 := fun i _ => by simp [htr]
      rw [sumN_congr n e2, sumN_one, if_pos (by omega)]
      omega
    · have e2 : ∀ i, i < n → (if i = r - t ∧ t ≤ r then ((r / t : Nat) : Int) else 0) = 0 := fun i _ => by rw [if_neg (by omega)]
      rw [sumN_congr n e2, sumN_zero, Nat.div_eq_of_lt (by omega)]
      omega
theorem ilS_sum (c : List Int) (ts : Int) : ∀ n, ilS c ts n = sumN (fun i => (ts + i).fdiv ts * c.getD (ts + i).toNat 0) n
  | 0 => rfl
  | n + 1 => by
    show ilS c ts n + _ = _
    rw [ilS_sum c ts n]
    rfl
theorem lvl_is (rl : List Nat) (bk : Nat) (n : Int) (t : Nat) (ht : 1 ≤ t) : lvl (tally rl [], bk, n, (rl.length : Int)) (t : Int) = ((bk + t * (wN rl t + rl.length) : Nat) : Int) := by
  unfold lvl
  dsimp only
  rw [ilS_sum]
  have hlt := (tally_lt rl []).2
  have e : ∀ i, i < (((tally rl []).length : Int) - (t : Int)).toNat → ((t : Int) + (i : Nat)).fdiv (t : Int) * (tally rl []).getD ((t : Int) + (i : Nat)).toNat 0 = (((t + i) / t : Nat) : Int) * ((rl.count (t + i) : Nat) : Int) := by
    intro i _
    rw [show (t : Int) + (i : Nat) = ((t + i : Nat) : Int) from by omega, Int.fdiv_eq_ediv_of_nonneg _ (by omega), Int.toNat_natCast, tally_get]
    simp
  rw [sumN_congr _ e, tab_sum t ht _ rl (fun r hr => by have := hlt r hr; omega)]
  rw [Int.natCast_add, Int.natCast_mul, Int.natCast_add]
theorem sorted_eq : ∀ {a b : List Int}, a.Perm b → a.Pairwise (· ≤ ·) → b.Pairwise (· ≤ ·) → a = b
  | [], b, h, _, _ => by rw [List.nil_perm.mp h]
  | x :: a, [], h, _, _ => absurd h.length_eq (by simp)
  | x :: a, y :: b, h, ha, hb => by
    rw [List.pairwise_cons] at ha hb
    have hx : x ∈ y :: b := h.mem_iff.mp (.head _)
    have hy : y ∈ x :: a := h.mem_iff.mpr (.head _)
    have e : x = y := by
      rcases List.mem_cons.mp hx with h1 | h1
      · exact h1
      · rcases List.mem_cons.mp hy with h2 | h2
        · exact h2.symm
        · have := ha.1 y h2
          have := hb.1 x h1
          omega
    subst e
    rw [sorted_eq ((List.perm_cons x).mp h) ha.2 hb.2]
def portN (rl : List Nat) (bk i : Nat) : Int := ((bk + (i + 1) * (wN rl (i + 1) + rl.length) : Nat) : Int)
def portsN (rl : List Nat) (bk : Nat) : List Int := (List.range 8).map (portN rl bk)
theorem wN_cons (r : Nat) (rl : List Nat) (t : Nat) : wN (r :: rl) t = r / t + wN rl t := by simp [wN]
theorem wN_big : ∀ (rl : List Nat) (t : Nat), (∀ r ∈ rl, r < t) → wN rl t = 0
  | [], _, _ => rfl
  | r :: rl, t, h => by
    rw [wN_cons, wN_big rl t fun x hx => h x (.tail _ hx), Nat.div_eq_of_lt (h r (.head _))]
theorem wN_le : ∀ (rl : List Nat) (t : Nat), (∀ r ∈ rl, r ≤ 6) → wN rl t ≤ 6 * rl.length
  | [], _, _ => by simp [wN]
  | r :: rl, t, h => by
    have h1 := wN_le rl t fun x hx => h x (.tail _ hx)
    have h2 := h r (.head _)
    have h3 := Nat.div_le_self r t
    rw [wN_cons, List.length_cons]; omega
theorem ports_get (rl : List Nat) (bk i : Nat) (h : i < 8) : (portsN rl bk).getD i 0 = portN rl bk i := by
  unfold portsN
  rw [List.getD_eq_getElem?_getD, List.getElem?_map, List.getElem?_range h]
  rfl
theorem tabs_is (rl : List Nat) (bk : Nat) (h6 : ∀ r ∈ rl, r ≤ 6) : tabsB (portsN rl bk) = (rl.length : Int) := by
  unfold tabsB
  rw [ports_get _ _ _ (by omega), ports_get _ _ _ (by omega)]
  unfold portN
  rw [wN_big rl 8 fun r hr => by have := h6 r hr; omega, wN_big rl 7 fun r hr => by have := h6 r hr; omega]
  omega
theorem back_is (rl : List Nat) (bk : Nat) (h6 : ∀ r ∈ rl, r ≤ 6) : backB (portsN rl bk) = (bk : Int) := by
  unfold backB
  rw [tabs_is rl bk h6, ports_get _ _ _ (by omega)]
  unfold portN
  rw [wN_big rl 7 fun r hr => by have := h6 r hr; omega]
  omega
theorem whole_is (rl : List Nat) (bk i : Nat) (h6 : ∀ r ∈ rl, r ≤ 6) (hi : i < 6) : wholeF (portsN rl bk) i = (wN rl (i + 1) : Nat) := by
  unfold wholeF
  rw [tabs_is rl bk h6, back_is rl bk h6, ports_get _ _ _ (by omega)]
  unfold portN
  have e : (((bk + (i + 1) * (wN rl (i + 1) + rl.length) : Nat) : Int) - (bk : Int)) = ((((i + 1) * (wN rl (i + 1) + rl.length)) : Nat) : Int) := by omega
  rw [e, show (1 : Int) + (i : Int) = ((i + 1 : Nat) : Int) from by omega, Int.fdiv_eq_ediv_of_nonneg _ (by omega), ← Int.natCast_ediv, Nat.mul_div_cancel_left _ (by omega)]
  omega
theorem wholeB_get (rl : List Nat) (bk j : Nat) (h6 : ∀ r ∈ rl, r ≤ 6) (h1 : 1 ≤ j) (h2 : j ≤ 6) : (wholeB (portsN rl bk)).getD j 0 = (wN rl j : Nat) := by
  obtain ⟨i, rfl⟩ : ∃ i, j = i + 1 := ⟨j - 1, by omega⟩
  unfold wholeB
  rw [List.getD_cons_succ, List.getD_eq_getElem?_getD, List.getElem?_map, List.getElem?_range (by omega)]
  exact whole_is rl bk i h6 (by omega)
/-- how many runs are of at least so many blanks -/
def geN (rl : List Nat) (j : Nat) : Nat := rl.countP (fun r => decide (j ≤ r))
theorem moeb_one (i r : Nat) (hi : i < 6) (hr : r ≤ 6) : ((List.range (6 / (i + 1))).map fun k => moeb.getD (k + 1) 0 * ((r / ((i + 1) * (k + 1)) : Nat) : Int)).sum = if i + 1 ≤ r then 1 else 0 := by
  have : ∀ i : Fin 6, ∀ r : Fin 7, ((List.range (6 / (i.val + 1))).map fun k => moeb.getD (k + 1) 0 * ((r.val / ((i.val + 1) * (k + 1)) : Nat) : Int)).sum = if i.val + 1 ≤ r.val then 1 else 0 := by decide +kernel
  exact this ⟨i, hi⟩ ⟨r, by omega⟩
theorem sum_map_add (f h : Nat → Int) : ∀ l : List Nat, (l.map fun k => f k + h k).sum = (l.map f).sum + (l.map h).sum
  | [] => rfl
  | k :: l => by
    rw [List.map_cons, List.map_cons, List.map_cons, List.sum_cons, List.sum_cons, List.sum_cons, sum_map_add f h l]; omega
theorem moeb_sum (i : Nat) (hi : i < 6) : ∀ rl : List Nat, (∀ r ∈ rl, r ≤ 6) → ((List.range (6 / (i + 1))).map fun k => moeb.getD (k + 1) 0 * ((wN rl ((i + 1) * (k + 1)) : Nat) : Int)).sum = (geN rl (i + 1) : Nat)
  | [], _ => by
    have : ∀ l : List Nat, (l.map fun k => moeb.getD (k + 1) 0 * ((wN [] ((i + 1) * (k + 1)) : Nat) : Int)).sum = 0 := by
      intro l
      induction l with
      | nil => rfl
      | cons k l ih => rw [List.map_cons, List.sum_cons, ih]; simp [wN]
    rw [this]; simp [geN]
  | r :: rl, h => by
    have ih := moeb_sum i hi rl fun x hx => h x (.tail _ hx)
    have h1 := moeb_one i r hi (h r (.head _))
    have e : (fun k => moeb.getD (k + 1) 0 * ((wN (r :: rl) ((i + 1) * (k + 1)) : Nat) : Int)) = fun k => moeb.getD (k + 1) 0 * ((r / ((i + 1) * (k + 1)) : Nat) : Int) + moeb.getD (k + 1) 0 * ((wN rl ((i + 1) * (k + 1)) : Nat) : Int) := by
      funext k
      rw [wN_cons, Int.natCast_add, Int.mul_add]
    rw [e, sum_map_add, ih, h1]
    unfold geN
    rw [List.countP_cons]
    by_cases hr : i + 1 ≤ r
    · simp [hr]; omega
    · simp [hr]
theorem sumB_is (rl : List Nat) (bk i : Nat) (h6 : ∀ r ∈ rl, r ≤ 6) (hi : i < 6) : sumB (portsN rl bk) i = (geN rl (i + 1) : Nat) := by
  rw [← moeb_sum i hi rl h6]
  unfold sumB
  congr 1
  apply List.map_congr_left
  intro k hk
  unfold termF
  have hk' : k < 6 / (i + 1) := List.mem_range.mp hk
  have hij : (i + 1) * (k + 1) ≤ 6 := Nat.le_trans (Nat.mul_le_mul_left _ hk') (Nat.mul_div_le _ _)
  rw [wholeB_get rl bk _ h6 (Nat.mul_pos (by omega) (by omega)) hij]
theorem least_get (rl : List Nat) (bk b : Nat) (h6 : ∀ r ∈ rl, r ≤ 6) (hb : b ≤ 7) : (leastB (portsN rl bk) ++ [0]).getD b 0 = ((geN rl b : Nat) : Int) := by
  unfold leastB
  cases b with
  | zero =>
    show tabsB (portsN rl bk) = _
    rw [tabs_is rl bk h6]
    unfold geN
    simp
  | succ b =>
    rw [List.cons_append, List.getD_cons_succ, List.getD_eq_getElem?_getD]
    by_cases h : b < 6
    · rw [List.getElem?_append_left (by simpa using h), List.getElem?_map, List.getElem?_range h]
      exact sumB_is rl bk b h6 h
    · have hb6 : b = 6 := by omega
      subst hb6
      rw [List.getElem?_append_right (by simp)]
      have : geN rl 7 = 0 := by
        unfold geN
        rw [List.countP_eq_zero]
        intro r hr
        have := h6 r hr
        simp; omega
      show ((0 : Int)) = _
      rw [this]; rfl
theorem ge_count (b : Nat) : ∀ rl : List Nat, geN rl b = rl.count b + geN rl (b + 1)
  | [] => rfl
  | r :: rl => by
    have ih := ge_count b rl
    unfold geN at ih ⊢
    rw [List.countP_cons, List.countP_cons, List.count_cons, ih]
    by_cases h1 : r = b
    · subst h1
      have h3 : ¬ r + 1 ≤ r := by omega
      simp [h3]; omega
    · have : (r == b) = false := by simpa using h1
      rw [this]
      by_cases h2 : b ≤ r
      · simp [h2, show b + 1 ≤ r from by omega]; omega
      · simp [h2, show ¬ b + 1 ≤ r from by omega]
theorem cnt_is (rl : List Nat) (bk b : Nat) (h6 : ∀ r ∈ rl, r ≤ 6) (hb : b < 7) : cntB (portsN rl bk) b = (rl.count b : Nat) := by
  unfold cntB
  have h1 := least_get rl bk b h6 (by omega)
  rw [least_get rl bk (b + 1) h6 (by omega)]
  have h2 : (leastB (portsN rl bk)).getD b 0 = (leastB (portsN rl bk) ++ [0]).getD b 0 := by
    rw [List.getD_eq_getElem?_getD, List.getD_eq_getElem?_getD, List.getElem?_append_left (by simp [leastB]; omega)]
  rw [h2, h1]
  have := ge_count b rl
  omega
/-- the runs in rising order -/
def sortN (rl : List Nat) (n : Nat) : List Nat := ((List.range n).map fun b => List.replicate (rl.count b) b).flatten
theorem runs_is (rl : List Nat) (bk : Nat) (h6 : ∀ r ∈ rl, r ≤ 6) : ∀ n, n ≤ 7 → runsB (portsN rl bk) n = intsN (sortN rl n)
  | 0, _ => rfl
  | n + 1, h => by
    rw [runs_succ, runs_is rl bk h6 n (by omega), cnt_is rl bk n h6 (by omega), Int.toNat_natCast]
    unfold sortN
    rw [List.range_succ, List.map_append, List.flatten_append]
    simp
theorem sortN_succ (rl : List Nat) (n : Nat) : sortN rl (n + 1) = sortN rl n ++ List.replicate (rl.count n) n := by
  unfold sortN
  rw [List.range_succ, List.map_append, List.flatten_append]
  simp
theorem sortN_lt (rl : List Nat) : ∀ n, ∀ r ∈ sortN rl n, r < n
  | 0, r, h => by simp [sortN] at h
  | n + 1, r, h => by
    rw [sortN_succ] at h
    rcases List.mem_append.mp h with h | h
    · have := sortN_lt rl n r h; omega
    · rw [(List.mem_replicate.mp h).2]; omega
theorem sortN_count (rl : List Nat) (a : Nat) : ∀ n, (sortN rl n).count a = if a < n then rl.count a else 0
  | 0 => by simp [sortN]
  | n + 1 => by
    rw [sortN_succ, List.count_append, sortN_count rl a n, List.count_replicate]
    by_cases h1 : a < n
    · have : (n == a) = false := by simpa using (show n ≠ a by omega)
      rw [if_pos h1, this, if_pos (show a < n + 1 by omega)]; simp
    · by_cases h2 : a = n
      · subst h2; simp
      · have : (n == a) = false := by simpa using fun e : n = a => h2 e.symm
        rw [if_neg h1, this, if_neg (show ¬ a < n + 1 by omega)]; simp
theorem sortN_perm (rl : List Nat) (h6 : ∀ r ∈ rl, r ≤ 6) : (sortN rl 7).Perm rl := by
  rw [List.perm_iff_count]
  intro a
  rw [sortN_count]
  split
  · rfl
  · rename_i h
    exact (List.count_eq_zero.mpr fun hm => h (by have := h6 a hm; omega)).symm
theorem sortN_sorted (rl : List Nat) : ∀ n, (intsN (sortN rl n)).Pairwise (· ≤ ·)
  | 0 => by simp [sortN]
  | n + 1 => by
    have ih := sortN_sorted rl n
    rw [sortN_succ]
    unfold intsN at ih ⊢
    rw [List.map_append, List.pairwise_append]
    refine ⟨ih, ?_, fun x hx y hy => ?_⟩
    · rw [List.map_replicate]
      exact List.pairwise_replicate.mpr (.inr (Int.le_refl _))
    · obtain ⟨a, ha, rfl⟩ := List.mem_map.mp hx
      obtain ⟨b, hb, rfl⟩ := List.mem_map.mp hy
      have h1 := sortN_lt rl n a ha
      have h2 := (List.mem_replicate.mp hb).2
      omega
theorem sort_all (rl : List Nat) (h6 : ∀ r ∈ rl, r ≤ 6) (ns : List Int) (hp : ns.Perm (intsN rl)) (hs : ns.Pairwise (· ≤ ·)) : ns = intsN (sortN rl 7) :=
  sorted_eq (hp.trans ((sortN_perm rl h6).map _).symm) hs (sortN_sorted rl 7)
theorem ws_nm (rl : List Nat) (bk : Nat) : ∃ n, wsGo (nameL rl bk) [] 0 0 0 = (tally rl [], bk, n, (rl.length : Int)) :=
  ws_lead rl bk [120, 34, 34, 32, 9] (.inr ⟨120, _, rfl, by decide, by decide⟩)
theorem ws_ld (sl : List Nat) (bk : Nat) : ∃ n, wsGo (leadL (intsN sl) (bk : Int)) [] 0 0 0 = (tally sl [], bk, n, (sl.length : Int)) := by
  have := ws_lead sl bk [] (.inl rfl)
  rwa [List.append_nil] at this
theorem eq_one {rl sl : List Nat} (bk : Nat) (h : sl.Perm rl) : eqW (wsGo (leadL (intsN sl) (bk : Int)) [] 0 0 0) (wsGo (nameL rl bk) [] 0 0 0) := by
  obtain ⟨n, h1⟩ := ws_ld sl bk
  obtain ⟨n', h2⟩ := ws_nm rl bk
  rw [h1, h2]
  exact ⟨tally_perm h [], rfl⟩
theorem lead_more (sl : List Nat) (bk : Nat) : leadL (intsN sl) (bk : Int) ++ [32] = leadL (intsN sl) ((bk + 1 : Nat) : Int) := by
  unfold leadL
  rw [rep_nat, rep_nat, List.append_assoc, ← List.replicate_succ']
theorem eq_two {rl sl : List Nat} (bk : Nat) : ¬ eqW (wsGo (nameL rl bk) [] 0 0 0) (wsGo (leadL (intsN sl) (bk : Int) ++ [32]) [] 0 0 0) := by
  obtain ⟨n', h2⟩ := ws_nm rl bk
  rw [lead_more]
  obtain ⟨n, h1⟩ := ws_ld sl (bk + 1)
  rw [h1, h2]
  rintro ⟨_, h⟩
  exact absurd (show bk = bk + 1 from h) (by omega)
theorem eq_three {rl sl : List Nat} (bk : Nat) (h : sl.Perm rl) : ¬ eqW (wsGo (nameL rl bk) [] 0 0 0) (wsGo ([9] ++ leadL (intsN sl) (bk : Int)) [] 0 0 0) := by
  obtain ⟨n', h2⟩ := ws_nm rl bk
  have e : [9] ++ leadL (intsN sl) (bk : Int) = leadL (intsN (0 :: sl)) (bk : Int) := by
    unfold leadL leadRuns intsN
    rw [List.map_cons, List.map_cons, List.flatten_cons, rep_nat 0]
    rfl
  rw [e]
  obtain ⟨n, h1⟩ := ws_ld (0 :: sl) bk
  rw [h1, h2]
  rintro ⟨h3, _⟩
  have h4 := congrArg (fun l : List Int => l.getD 0 0) (show tally rl [] = tally (0 :: sl) [] from h3)
  simp only [tally_get] at h4
  rw [List.count_cons, h.count_eq] at h4
  simp at h4
  omega
theorem runs_back (b : Nat) : ∀ t : List Nat, List.replicate b 32 ++ (leadRuns (intsN t)).reverse ++ [9] = leadRuns (intsN (b :: t.reverse)) := by
  have one : ∀ c : Nat, leadRuns (intsN [c]) = List.replicate c 32 ++ [9] := fun c => by
    unfold leadRuns intsN
    rw [List.map_cons, List.map_nil, List.map_cons, List.map_nil, rep_nat]
    simp
  have app : ∀ a c : List Nat, leadRuns (intsN (a ++ c)) = leadRuns (intsN a) ++ leadRuns (intsN c) := fun a c => by
    unfold leadRuns intsN
    rw [List.map_append, List.map_append, List.flatten_append]
  intro t
  induction t with
  | nil =>
    show List.replicate b 32 ++ [] ++ [9] = leadRuns (intsN [b])
    rw [List.append_nil]
    exact (one b).symm
  | cons c t ih =>
    rw [show c :: t = [c] ++ t from rfl, app, one, List.reverse_append, List.reverse_append]
    rw [show (b :: ([c] ++ t).reverse) = (b :: t.reverse) ++ [c] from by simp, app, one, ← ih]
    simp
theorem lead_rev (a bk : Nat) (t : List Nat) : (leadL (intsN (a :: t)) (bk : Int)).reverse = leadL (intsN (bk :: t.reverse)) (a : Int) := by
  unfold leadL
  rw [← runs_back, rep_nat, rep_nat, List.reverse_append, List.reverse_replicate]
  have : leadRuns (intsN (a :: t)) = List.replicate a 32 ++ [9] ++ leadRuns (intsN t) := by
    unfold leadRuns intsN
    rw [List.map_cons, List.map_cons, List.flatten_cons, rep_nat]
  rw [this, List.reverse_append, List.reverse_append, List.reverse_replicate]
  simp
theorem eq_four {rl sl : List Nat} (bk : Nat) (h : sl.Perm rl) (h1 : 1 ≤ sl.length) : decide (eqW (wsGo (nameL rl bk) [] 0 0 0) (wsGo (leadL (intsN sl) (bk : Int)).reverse [] 0 0 0)) = ((bk : Int) == (intsN sl).getD 0 0) := by
  match sl, h1, h with
  | a :: t, _, h =>
    obtain ⟨n', h2⟩ := ws_nm rl bk
    rw [lead_rev]
    obtain ⟨n, h3⟩ := ws_ld (bk :: t.reverse) a
    rw [h2, h3]
    have e : (intsN (a :: t)).getD 0 0 = (a : Int) := rfl
    rw [e]
    by_cases hb : bk = a
    · subst hb
      have hp : rl.Perm (bk :: t.reverse) := h.symm.trans (List.Perm.cons _ t.reverse_perm.symm)
      have hh : eqW (tally rl [], bk, n', (rl.length : Int)) (tally (bk :: t.reverse) [], bk, n, ((bk :: t.reverse).length : Int)) := ⟨tally_perm hp [], rfl⟩
      rw [decide_eq_true hh]
      simp
    · have hh : ¬ eqW (tally rl [], bk, n', (rl.length : Int)) (tally (bk :: t.reverse) [], a, n, ((bk :: t.reverse).length : Int)) := fun h => hb h.2
      rw [decide_eq_false hh]
      have : ¬ ((bk : Int) = (a : Int)) := by omega
      simp [this]
/-- what the law's ports are -/
theorem lvl_port (rl : List Nat) (bk i : Nat) : lvl (wsGo (nameL rl bk) [] 0 0 0) (1 + (i : Int)) = portN rl bk i := by
  obtain ⟨n, h⟩ := ws_nm rl bk
  rw [h, show (1 : Int) + (i : Int) = ((i + 1 : Nat) : Int) from by omega, lvl_is rl bk n (i + 1) (by omega)]
  rfl
theorem port_lt (rl : List Nat) (bk i : Nat) (hl : rl.length ≤ 4) (h6 : ∀ r ∈ rl, r ≤ 6) (hb : bk ≤ 3) (hi : i < 8) : 0 ≤ portN rl bk i ∧ portN rl bk i < 1000 := by
  unfold portN
  have h1 := wN_le rl (i + 1) h6
  have h2 : (i + 1) * (wN rl (i + 1) + rl.length) ≤ 8 * 28 := Nat.mul_le_mul (by omega) (by omega)
  omega
theorem ws_short (rl : List Nat) (bk : Nat) (h6 : ∀ r ∈ rl, r ≤ 6) : (wsGo (nameL rl bk) [] 0 0 0).1.length ≤ 900 := by
  obtain ⟨n, h⟩ := ws_nm rl bk
  rw [h]
  have := tally_len rl [] 7 (by simp) fun r hr => by have := h6 r hr; omega
  show (tally rl []).length ≤ 900
  omega
theorem due_ports (nm : List Nat) (r : List Int × Nat × Int × Int) (X2 : Int) : ∀ n, portsOf (dueL nm r X2 n) = (List.range n).map fun (i : Nat) => lvl r (1 + (i : Int))
  | 0 => rfl
  | n + 1 => by
    rw [due_succ]
    have ih := due_ports nm r X2 n
    unfold portsOf at ih ⊢
    rw [List.filterMap_append, ih, List.range_succ, List.map_append]
    congr 1
    unfold dueF
    split <;> rfl
theorem ports_are (rl : List Nat) (bk : Nat) (X2 : Int) : portsOf (dueL (nameL rl bk) (wsGo (nameL rl bk) [] 0 0 0) X2 8) = portsN rl bk := by
  rw [due_ports]
  unfold portsN
  apply List.map_congr_left
  intro i _
  exact lvl_port rl bk i
/-! the reader's words -/
theorem splB_cons (hid : List Nat) (c : Nat) (w : List Nat) : splB hid (c :: w) = (if c ∈ hid then [92, c] else [c]) ++ splB hid w := by
  unfold splB
  rw [List.map_cons, List.flatten_cons]
  congr 1
  by_cases h : c ∈ hid <;> simp [h]
theorem qt_spl (rest : List Nat) : ∀ w : List Nat, qt (splB [34, 92] w ++ 34 :: rest) = some (w, rest)
  | [] => by rw [show splB [34, 92] [] = [] from rfl, List.nil_append, qt_end]
  | c :: w => by
    have ih := qt_spl rest w
    rw [splB_cons]
    by_cases h : c ∈ [34, 92]
    · rw [if_pos h]
      show qt (92 :: c :: (splB [34, 92] w ++ 34 :: rest)) = _
      unfold qt
      rw [if_neg (by decide), if_pos rfl, ih]
      rfl
    · rw [if_neg h]
      simp only [List.mem_cons, List.not_mem_nil, or_false, not_or] at h
      generalize hX : splB [34, 92] w ++ 34 :: rest = X at ih
      have hne : X ≠ [] := by rw [← hX]; simp
      show qt (c :: (splB [34, 92] w ++ 34 :: rest)) = _
      rw [hX]
      match X, hne, ih with
      | d :: r, _, ih =>
        unfold qt
        rw [if_neg h.1, if_neg h.2, ih]
        rfl
theorem bt_spl (e : Nat) (he : e ∈ wsL) (rest : List Nat) : ∀ w : List Nat, bt (splB [92, 32, 9, 10, 13] w ++ e :: rest) = some (w, rest)
  | [] => by rw [show splB [92, 32, 9, 10, 13] [] = [] from rfl, List.nil_append, bt_end he]
  | c :: w => by
    have ih := bt_spl e he rest w
    rw [splB_cons]
    by_cases h : c ∈ [92, 32, 9, 10, 13]
    · rw [if_pos h]
      show bt (92 :: c :: (splB [92, 32, 9, 10, 13] w ++ e :: rest)) = _
      unfold bt
      rw [if_neg (by decide), if_pos rfl, ih]
      rfl
    · rw [if_neg h]
      simp only [List.mem_cons, List.not_mem_nil, or_false, not_or] at h
      generalize hX : splB [92, 32, 9, 10, 13] w ++ e :: rest = X at ih
      have hne : X ≠ [] := by rw [← hX]; simp
      show bt (c :: (splB [92, 32, 9, 10, 13] w ++ e :: rest)) = _
      rw [hX]
      match X, hne, ih with
      | d :: r, _, ih =>
        unfold bt
        rw [if_neg (by simp only [List.mem_cons, List.not_mem_nil, or_false, not_or]; exact ⟨h.2.2.2.1, h.2.2.1, h.2.2.2.2, h.2.1⟩), if_neg h.1, ih]
        rfl
theorem bt_esc_all (e : Nat) (he : e ∈ wsL) (rest : List Nat) : ∀ w : List Nat, bt ((w.map fun c => [92] ++ [c]).flatten ++ e :: rest) = some (w, rest)
  | [] => bt_end he
  | c :: w => by
    have ih := bt_esc_all e he rest w
    rw [List.map_cons, List.flatten_cons]
    show bt (92 :: c :: ((w.map fun c => [92] ++ [c]).flatten ++ e :: rest)) = _
    unfold bt
    rw [if_neg (by decide), if_pos rfl, ih]
    rfl
theorem tk_ws {c : Nat} {l : List Nat} (h : c ∈ wsL) : tk (c :: l) = tk l := by
  conv => lhs; unfold tk
  rw [if_pos h]
/-- a word that no reader takes for another -/
def Wd (w : List Nat) : Prop := ∃ c r, w = c :: r ∧ c ∉ wsL ∧ c ≠ 34 ∧ c ≠ 92
theorem tk_word (form : Int) (hf : form = 0 ∨ form = 1 ∨ form = 2) (w : List Nat) (hw : Wd w) (e : Nat) (he : e ∈ wsL) (rest : List Nat) : tk (spl form w ++ e :: rest) = some (w, rest) ∨ tk (spl form w ++ e :: rest) = some (w, e :: rest) := by
  obtain ⟨c, r, rfl, h1, h2, h3⟩ := hw
  rcases hf with rfl | rfl | rfl
  · right
    unfold spl
    rw [if_neg (by decide), if_pos rfl]
    have : [34] ++ splB [34, 92] (c :: r) ++ [34] ++ e :: rest = 34 :: (splB [34, 92] (c :: r) ++ 34 :: (e :: rest)) := by simp
    rw [this]
    conv => lhs; unfold tk
    rw [if_neg (by decide), if_pos rfl, qt_spl]
  · left
    unfold spl
    rw [if_neg (by decide), if_neg (by decide), splB_cons, if_neg (by simp only [List.mem_cons, List.not_mem_nil, or_false, not_or] at h1 ⊢; exact ⟨h3, h1.2.2.2, h1.2.1, h1.1, h1.2.2.1⟩)]
    show tk (c :: (splB [92, 32, 9, 10, 13] r ++ e :: rest)) = _
    conv => lhs; unfold tk
    rw [if_neg h1, if_neg h2, if_neg h3, bt_spl e he]
    rfl
  · left
    unfold spl
    rw [if_pos rfl, List.map_cons, List.flatten_cons]
    show tk (92 :: c :: ((r.map fun c => [92] ++ [c]).flatten ++ e :: rest)) = _
    conv => lhs; unfold tk
    rw [if_neg (by decide), if_neg (by decide), if_pos rfl]
    show (bt ((r.map fun c => [92] ++ [c]).flatten ++ e :: rest)).map _ = _
    rw [bt_esc_all e he]
    rfl
theorem toks_all (X1 : Int) : ∀ (reps : List (List Nat)) (i : Nat) (pre : List Nat), (pre = [] ∨ ∃ e, pre = [e] ∧ e ∈ wsL) → (∀ w ∈ reps, Wd w) → Toks reps (pre ++ (pieces X1 i reps).flatten)
  | [], i, pre, hp, _ => by
    show tk (pre ++ []) = some ([], [])
    rcases hp with rfl | ⟨e, rfl, he⟩
    · rfl
    · rw [show [e] ++ [] = e :: ([] : List Nat) from rfl, tk_ws he]; rfl
  | w :: reps, i, pre, hp, hw => by
    have hskip : tk (pre ++ (pieces X1 i (w :: reps)).flatten) = tk ((pieces X1 i (w :: reps)).flatten) := by
      rcases hp with rfl | ⟨e, rfl, he⟩
      · rfl
      · exact tk_ws he
    obtain ⟨e, he, hee⟩ : ∃ e, e ∈ wsL ∧ itemL [32, 10, 9, 13] ((i : Int).fmod 4) = [e] := by
      have k0 := Int.fmod_nonneg_of_pos (i : Int) (b := 4) (by decide)
      have k1 := Int.fmod_lt_of_pos (i : Int) (b := 4) (by decide)
      have : (i : Int).fmod 4 = 0 ∨ (i : Int).fmod 4 = 1 ∨ (i : Int).fmod 4 = 2 ∨ (i : Int).fmod 4 = 3 := by omega
      rcases this with h | h | h | h <;> rw [h]
      · exact ⟨32, by decide, rfl⟩
      · exact ⟨10, by decide, rfl⟩
      · exact ⟨9, by decide, rfl⟩
      · exact ⟨13, by decide, rfl⟩
    have hf : (X1.fdiv 16 + (i : Int)).fmod 3 = 0 ∨ (X1.fdiv 16 + (i : Int)).fmod 3 = 1 ∨ (X1.fdiv 16 + (i : Int)).fmod 3 = 2 := by
      have k0 := Int.fmod_nonneg_of_pos (X1.fdiv 16 + (i : Int)) (b := 3) (by decide)
      have k1 := Int.fmod_lt_of_pos (X1.fdiv 16 + (i : Int)) (b := 3) (by decide)
      omega
    have hpc : (pieces X1 i (w :: reps)).flatten = spl ((X1.fdiv 16 + (i : Int)).fmod 3) w ++ e :: (pieces X1 (i + 1) reps).flatten := by
      show (pieceF X1 i w ++ (pieces X1 (i + 1) reps).flatten) = _
      unfold pieceF
      rw [hee]
      simp
    show ∃ rest, tk (pre ++ (pieces X1 i (w :: reps)).flatten) = some (w, rest) ∧ Toks reps rest
    rw [hskip, hpc]
    have ih := fun pre hp => toks_all X1 reps (i + 1) pre hp fun v hv => hw v (.tail _ hv)
    rcases tk_word _ hf w (hw w (.head _)) e he (pieces X1 (i + 1) reps).flatten with h | h
    · exact ⟨_, h, ih [] (.inl rfl)⟩
    · exact ⟨_, h, ih [e] (.inr ⟨e, rfl, he⟩)⟩
theorem p257_dbl : ∀ l : List Nat, p257 (StrLaws.dbl 34 l ++ [34, 32, 34, 121]) = l
  | [] => by decide
  | c :: l => by
    have ih := p257_dbl l
    unfold StrLaws.dbl
    by_cases h : c = 34
    · subst h
      rw [if_pos rfl]
      show p257 (34 :: 34 :: (StrLaws.dbl 34 l ++ [34, 32, 34, 121])) = _
      unfold p257
      rw [if_pos rfl, if_pos rfl, ih]
    · rw [if_neg h]
      show p257 (c :: (StrLaws.dbl 34 l ++ [34, 32, 34, 121])) = _
      rw [p257_plain h, ih]
theorem reply0_back (nm : List Nat) : p257 ((reply0 nm).drop 5) = nm := by
  have : (reply0 nm).drop 5 = StrLaws.dbl 34 nm ++ [34, 32, 34, 121] := by
    unfold reply0
    rw [List.append_assoc]
    rfl
  rw [this, p257_dbl]
/-- any text set apart -/
theorem apart (c : Nat) : ∀ f : List Nat, ∃ ps : List (List Nat), ps ≠ [] ∧ jn c ps = f ∧ (∀ p ∈ ps, c ∉ p) ∧ ps.length = f.count c + 1
  | [] => ⟨[[]], by simp, rfl, by simp, rfl⟩
  | x :: f => by
    obtain ⟨ps, h1, h2, h3, h4⟩ := apart c f
    by_cases hx : x = c
    · subst hx
      refine ⟨[] :: ps, by simp, ?_, ?_, ?_⟩
      · cases ps with
        | nil => exact absurd rfl h1
        | cons q qs => show [] ++ x :: jn x (q :: qs) = _; rw [h2]; rfl
      · intro p hp
        rcases List.mem_cons.mp hp with rfl | hp
        · simp
        · exact h3 p hp
      · rw [List.length_cons, h4, List.count_cons_self]
    · cases ps with
      | nil => exact absurd rfl h1
      | cons q qs =>
        refine ⟨(x :: q) :: qs, by simp, ?_, ?_, ?_⟩
        · rw [← h2]
          cases qs with
          | nil => rfl
          | cons r rs => rfl
        · intro p hp
          rcases List.mem_cons.mp hp with rfl | hp
          · intro hm
            rcases List.mem_cons.mp hm with e | hm
            · exact hx e.symm
            · exact h3 q (.head _) hm
          · exact h3 p (.tail _ hp)
        · rw [List.count_cons_of_ne (by simpa using hx)]
          simpa using h4
theorem dec_free {p : Int} {c : Nat} (hc : c ≠ 45 ∧ (c < 48 ∨ 57 < c)) : c ∉ dec p := by
  have := int_text_free' c hc p
  exact this
theorem dec_small {p : Int} : ∀ c ∈ dec p, c ≤ 57 := by
  intro c hc
  rcases Nat.lt_or_ge 57 c with h | h
  · exact absurd hc (dec_free ⟨by omega, .inr h⟩)
  · exact h
theorem odd_is (i : Nat) : ∃ a : Nat, (1 + (i : Int)).fmod 2 = (a : Int) ∧ (a = 0 ∨ a = 1) := by
  have h := fmod2 (1 + (i : Int))
  exact ⟨((1 + (i : Int)).fmod 2).toNat, by omega, by omega⟩
theorem rep_mem {n : Int} {c x : Nat} (h : x ∈ rep n [c]) : x = c := by
  unfold rep at h
  obtain ⟨l, hl, hx⟩ := List.mem_flatten.mp h
  rw [(List.mem_replicate.mp hl).2] at hx
  exact List.mem_singleton.mp hx
/-- the ways of a reply, laid out -/
theorem reply_form (i : Nat) (K p : Int) (c y : Nat) (hm : markL K = [c]) (hy : K.fdiv 9 = (y : Int)) : ∃ a b : List Nat, (∀ x ∈ a, x = 41) ∧ (∀ x ∈ b, x = 120) ∧
    replyL (1 + i) K p = ([50, 50, 57, 32] ++ a) ++ 40 :: ((jn c [[], b, [], dec p, []] ++ List.replicate y 121) ++ 41 :: a) := by
  obtain ⟨n, hn, _⟩ := odd_is i
  refine ⟨List.replicate n 41, List.replicate n 120, fun x hx => (List.mem_replicate.mp hx).2, fun x hx => (List.mem_replicate.mp hx).2, ?_⟩
  unfold replyL fieldL
  rw [hm, hn, hy, rep_nat, rep_nat, rep_nat, show (1 : Int) + (n : Int) = ((n + 1 : Nat) : Int) from by omega, rep_nat]
  rw [show rep 2 [c] = [c, c] from rfl, List.replicate_succ]
  simp [jn]
theorem cut3 (l : List Nat) : cut ([50, 50, 57] ++ l) 0 3 = [50, 50, 57] := by simp [cut]
theorem cut_reply (i : Nat) (K p : Int) : cut (replyL (1 + i) K p) 0 3 = [50, 50, 57] := by
  unfold replyL
  simp [cut]
theorem first_jn (c : Nat) (ps : List (List Nat)) (y : List Nat) (q : List Nat) : ((jn c ([] :: q :: ps) ++ y) ++ [41]).getD 0 0 = c := by
  simp [jn]
theorem last_of (c : Nat) (l : List Nat) : (40 :: (l ++ [c])).getD (l ++ [c]).length 0 = c := by
  rw [List.getD_eq_getElem?_getD]
  simp
theorem jn_last (c : Nat) (b d : List Nat) : jn c [[], b, [], d, []] = (c :: (b ++ c :: c :: d)) ++ [c] := by
  simp [jn]
theorem mark_cases (K : Int) (h0 : 0 ≤ K) (h1 : K < 10) : (K ≤ 6 ∧ ∃ c, markL K = [c] ∧ K.fdiv 9 = 0 ∧ (c ≠ 45 ∧ (c < 48 ∨ 57 < c)) ∧ c ≠ 41 ∧ c ≠ 120) ∨ (K = 7 ∧ markL K = [53] ∧ K.fdiv 9 = 0) ∨ (K = 8 ∧ markL K = [41] ∧ K.fdiv 9 = 0) ∨ (K = 9 ∧ markL K = [124] ∧ K.fdiv 9 = 1) := by
  have : K = 0 ∨ K = 1 ∨ K = 2 ∨ K = 3 ∨ K = 4 ∨ K = 5 ∨ K = 6 ∨ K = 7 ∨ K = 8 ∨ K = 9 := by omega
  rcases this with rfl | rfl | rfl | rfl | rfl | rfl | rfl | rfl | rfl | rfl
  · exact .inl ⟨by decide, 124, rfl, rfl, by decide, by decide, by decide⟩
  · exact .inl ⟨by decide, 34, rfl, rfl, by decide, by decide, by decide⟩
  · exact .inl ⟨by decide, 92, rfl, rfl, by decide, by decide, by decide⟩
  · exact .inl ⟨by decide, 32, rfl, rfl, by decide, by decide, by decide⟩
  · exact .inl ⟨by decide, 9, rfl, rfl, by decide, by decide, by decide⟩
  · exact .inl ⟨by decide, 10, rfl, rfl, by decide, by decide, by decide⟩
  · exact .inl ⟨by decide, 40, rfl, rfl, by decide, by decide, by decide⟩
  · exact .inr (.inl ⟨rfl, rfl, rfl⟩)
  · exact .inr (.inr (.inl ⟨rfl, rfl, rfl⟩))
  · exact .inr (.inr (.inr ⟨rfl, rfl, rfl⟩))
theorem pre_free {a : List Nat} (h : ∀ x ∈ a, x = 41) : 40 ∉ [50, 50, 57, 32] ++ a := by
  intro hm
  rcases List.mem_append.mp hm with hm | hm
  · simp at hm
  · exact absurd (h 40 hm) (by decide)
theorem in_jn {c x : Nat} {b d : List Nat} (h : x ∈ jn c [[], b, [], d, []]) : x = c ∨ x ∈ b ∨ x ∈ d := by
  rw [jn_last] at h
  simp only [List.mem_append, List.mem_cons, List.not_mem_nil, or_false] at h
  rcases h with (h | h | h | h | h) | h
  · exact .inl h
  · exact .inr (.inl h)
  · exact .inl h
  · exact .inl h
  · exact .inr (.inr h)
  · exact .inl h
/-- a reply that can be read -/
theorem p229_good (i : Nat) (K p : Int) (h0 : 0 ≤ K) (h1 : K < 10) (hb : isBad K p = false) (p0 : 0 ≤ p) (p1 : p < 1000) : P229 (replyL (1 + i) K p) (.port p) := by
  have key : ∀ c : Nat, markL K = [c] → K.fdiv 9 = 0 → c ≠ 41 → c ≠ 120 → c ∉ dec p → P229 (replyL (1 + i) K p) (.port p) := by
    intro c hm hy h41 h120 hcd
    obtain ⟨a, b, ha, hbb, e⟩ := reply_form i K p c 0 hm hy
    rw [List.replicate_zero, List.append_nil] at e
    refine P229.port _ c [] b [] [] p a (cut_reply i K p) e (pre_free ha) (fun h => ?_) ?_ ?_ (fun q hq => ?_) p0 (by omega)
    · rcases in_jn h with h | h | h
      · exact h41 h.symm
      · exact absurd (hbb 41 h) (by decide)
      · exact dec_free (by decide) h
    · have := first_jn c [[], dec p, []] [] b
      rwa [List.append_nil] at this
    · rw [jn_last, last_of]
    · simp only [List.mem_cons, List.not_mem_nil, or_false] at hq
      rcases hq with rfl | rfl | rfl | rfl | rfl
      · simp
      · exact fun h => h120 (hbb c h)
      · simp
      · exact hcd
      · simp
  unfold isBad at hb
  rcases mark_cases K h0 h1 with ⟨_, c, hm, hy, hc, h41, h120⟩ | ⟨rfl, hm, hy⟩ | ⟨rfl, _⟩ | ⟨rfl, _⟩
  · exact key c hm hy h41 h120 (dec_free hc)
  · refine key 53 hm hy (by decide) (by decide) ?_
    simpa using hb
  · simp at hb
  · simp at hb
/-- a reply that can't be read -/
theorem p229_bad (i : Nat) (K p : Int) (h0 : 0 ≤ K) (h1 : K < 10) (hb : isBad K p = true) : P229 (replyL (1 + i) K p) .proto := by
  unfold isBad at hb
  rcases mark_cases K h0 h1 with ⟨h6, _⟩ | ⟨rfl, hm, hy⟩ | ⟨rfl, hm, hy⟩ | ⟨rfl, hm, hy⟩
  · have a1 : ¬ (7 < K) := by omega
    have a2 : ¬ (K = 7) := by omega
    simp [a1, a2] at hb
  · have h53 : 53 ∈ dec p := by simpa using hb
    obtain ⟨a, b, ha, hbb, e⟩ := reply_form i 7 p 53 0 hm hy
    rw [List.replicate_zero, List.append_nil] at e
    obtain ⟨ps, q1, q2, q3, q4⟩ := apart 53 (jn 53 [[], b, [], dec p, []])
    refine P229.parts _ 53 ps a (cut_reply i 7 p) (by rw [q2]; exact e) (pre_free ha) (fun h => ?_) ?_ ?_ q1 q3 ?_
    · rw [q2] at h
      rcases in_jn h with h | h | h
      · exact absurd h (by decide)
      · exact absurd (hbb 41 h) (by decide)
      · exact dec_free (by decide) h
    · rw [q2]
      have := first_jn 53 [[], dec p, []] [] b
      rwa [List.append_nil] at this
    · rw [q2, jn_last, last_of]
    · have hc : 1 ≤ (dec p).count 53 := List.count_pos_iff.mpr h53
      rw [q4, jn_last]
      simp only [List.count_append, List.count_cons, List.count_nil]
      simp
      omega
  · obtain ⟨a, b, ha, hbb, e⟩ := reply_form i 8 p 41 0 hm hy
    refine P229.marks _ [] (b ++ 41 :: 41 :: (dec p ++ [41]) ++ 41 :: a) (cut_reply i 8 p) ?_ (pre_free ha) (by simp) (by decide)
    rw [e]
    simp [jn]
  · obtain ⟨a, b, ha, hbb, e⟩ := reply_form i 9 p 124 1 hm hy
    refine P229.marks _ (jn 124 [[], b, [], dec p, []] ++ List.replicate 1 121) a (cut_reply i 9 p) e (pre_free ha) (fun h => ?_) ?_
    · rcases List.mem_append.mp h with h | h
      · rcases in_jn h with h | h | h
        · exact absurd h (by decide)
        · exact absurd (hbb 41 h) (by decide)
        · exact dec_free (by decide) h
      · exact absurd ((List.mem_replicate.mp h).2) (by decide)
    · rw [first_jn, show List.replicate 1 121 = [121] from rfl, last_of]
      decide
/-- replies and what is due, side by side -/
inductive Side (nm : List Nat) : List (List Nat) → List Due → Prop
  | nil : Side nm [] []
  | cons {w : List Nat} {r : An} {ws : List (List Nat)} {ds : List Due} : P229 w r → Side nm ws ds → Side nm (w :: ws) (dueOf nm r :: ds)
theorem Side.app {nm : List Nat} {a b : List (List Nat)} {x y : List Due} (h : Side nm a x) (k : Side nm b y) : Side nm (a ++ b) (x ++ y) := by
  induction h with
  | nil => exact k
  | cons h1 _ ih => exact .cons h1 ih
theorem Side.at {nm : List Nat} {a : List (List Nat)} {x : List Due} (h : Side nm a x) : ∀ (i : Nat) w, a[i]? = some w → ∃ r, P229 w r ∧ x[i]? = some (dueOf nm r) := by
  induction h with
  | nil => intro i w e; cases i <;> cases e
  | cons h1 _ ih =>
    intro i w e
    cases i with
    | zero => cases e; exact ⟨_, h1, rfl⟩
    | succ i => exact ih i w e
theorem Side.len {nm : List Nat} {a : List (List Nat)} {x : List Due} (h : Side nm a x) : x.length = a.length := by
  induction h with
  | nil => rfl
  | cons _ _ ih => simp [ih]
theorem kind_in (X2 : Int) (i : Nat) : 0 ≤ kindN X2 i ∧ kindN X2 i < 10 := ⟨Int.fmod_nonneg_of_pos _ (by decide), Int.fmod_lt_of_pos _ (by decide)⟩
theorem side_all (nm : List Nat) (r : List Int × Nat × Int × Int) (X2 : Int) : ∀ n, (∀ i : Nat, i < n → 0 ≤ lvl r (1 + (i : Int)) ∧ lvl r (1 + (i : Int)) < 1000) → Side nm (repsL nm r X2 n) (dueL nm r X2 n)
  | 0, _ => .cons (r := .reply) (P229.reply (by show cut ([50, 53, 55, 32, 34] ++ StrLaws.dbl 34 nm ++ [34, 32, 34, 121]) 0 3 ≠ _; simp [cut])) .nil
  | n + 1, h => by
    rw [reps_succ, due_succ]
    refine Side.app (side_all nm r X2 n fun i hi => h i (by omega)) ?_
    obtain ⟨k0, k1⟩ := kind_in X2 n
    obtain ⟨p0, p1⟩ := h n (by omega)
    unfold repsF dueF
    by_cases hb : isBad (kindN X2 n) (lvl r (1 + (n : Int))) = true
    · rw [if_pos hb, if_pos hb]
      refine .cons (r := .proto) (p229_bad n _ _ k0 k1 hb) (.cons (r := .port _) (p229_good n 0 _ (by decide) (by decide) ?_ p0 p1) .nil)
      unfold isBad
      simp
    · rw [if_neg hb, if_neg hb]
      exact .cons (r := .port _) (p229_good n _ _ k0 k1 (by simpa using hb) p0 p1) .nil
/-- every reply: its length, its signs, its first sign -/
def Fine (w : List Nat) : Prop := w.length ≤ 2000 ∧ txtOk w ∧ Wd w
theorem reply_len {i : Nat} {K p : Int} (p0 : 0 ≤ p) (p1 : p < 1000) (h0 : 0 ≤ K) (h1 : K < 10) : (replyL (1 + i) K p).length ≤ 2000 := by
  have f2 := fmod2 (1 + (i : Int))
  have f9 : K.fdiv 9 ≤ 1 ∧ 0 ≤ K.fdiv 9 := by
    rw [Int.fdiv_eq_ediv_of_nonneg _ (by decide)]; omega
  have hd := dec_len p0 p1
  unfold replyL fieldL markL itemL
  simp only [List.length_append, rep_len, List.length_cons, List.length_nil]
  omega
theorem reply_ok {i : Nat} {K p : Int} (h0 : 0 ≤ K) (h1 : K < 10) : txtOk (replyL (1 + i) K p) := by
  have hm : ∃ c, markL K = [c] ∧ c ≤ 124 := by
    have : K = 0 ∨ K = 1 ∨ K = 2 ∨ K = 3 ∨ K = 4 ∨ K = 5 ∨ K = 6 ∨ K = 7 ∨ K = 8 ∨ K = 9 := by omega
    rcases this with rfl | rfl | rfl | rfl | rfl | rfl | rfl | rfl | rfl | rfl <;> exact ⟨_, rfl, by decide⟩
  obtain ⟨c, hc, hc2⟩ := hm
  intro x hx
  unfold replyL fieldL at hx
  rw [hc] at hx
  simp only [List.mem_append, List.mem_cons, List.not_mem_nil, or_false] at hx
  rcases hx with (((hx | hx) | hx) | (((((hx | hx) | hx) | hx) | hx) | hx)) | hx
  · omega
  · have := rep_mem hx; omega
  · omega
  · omega
  · have := rep_mem hx; omega
  · have := rep_mem hx; omega
  · have := dec_small x hx; omega
  · omega
  · have := rep_mem hx; omega
  · have := rep_mem hx; omega
theorem reply_wd {i : Nat} {K p : Int} : Wd (replyL (1 + i) K p) := by
  unfold replyL
  exact ⟨50, _, rfl, by decide, by decide, by decide⟩
theorem dbl_mem {c x : Nat} : ∀ {l : List Nat}, x ∈ StrLaws.dbl c l → x ∈ l
  | [], h => by simp [StrLaws.dbl] at h
  | k :: r, h => by
    unfold StrLaws.dbl at h
    split at h
    · rcases List.mem_cons.mp h with rfl | h
      · exact .head _
      · rcases List.mem_cons.mp h with rfl | h
        · exact .head _
        · exact .tail _ (dbl_mem h)
    · rcases List.mem_cons.mp h with rfl | h
      · exact .head _
      · exact .tail _ (dbl_mem h)
theorem fine_all (nm : List Nat) (r : List Int × Nat × Int × Int) (X2 : Int) (hl : nm.length ≤ 450) (hok : txtOk nm) : ∀ n, (∀ i : Nat, i < n → 0 ≤ lvl r (1 + (i : Int)) ∧ lvl r (1 + (i : Int)) < 1000) → ∀ w ∈ repsL nm r X2 n, Fine w
  | 0, _ => by
    intro w hw
    rw [List.mem_singleton.mp (show w ∈ [reply0 nm] from hw)]
    refine ⟨?_, ?_, 50, _, rfl, by decide, by decide, by decide⟩
    · have := dbl_len 34 nm
      unfold reply0
      simp only [List.length_append, List.length_cons, List.length_nil]
      omega
    · intro x hx
      unfold reply0 at hx
      simp only [List.mem_append, List.mem_cons, List.not_mem_nil, or_false] at hx
      rcases hx with (hx | hx) | hx
      · omega
      · exact hok x (dbl_mem hx)
      · omega
  | n + 1, h => by
    intro w hw
    rw [reps_succ] at hw
    rcases List.mem_append.mp hw with hw | hw
    · exact fine_all nm r X2 hl hok n (fun i hi => h i (by omega)) w hw
    · obtain ⟨k0, k1⟩ := kind_in X2 n
      obtain ⟨p0, p1⟩ := h n (by omega)
      unfold repsF at hw
      rcases List.mem_cons.mp hw with rfl | hw
      · exact ⟨reply_len p0 p1 k0 k1, reply_ok k0 k1, reply_wd⟩
      · split at hw
        · rw [List.mem_singleton.mp hw]
          exact ⟨reply_len p0 p1 (by decide) (by decide), reply_ok (by decide) (by decide), reply_wd⟩
        · simp at hw
theorem due_fine (nm : List Nat) (r : List Int × Nat × Int × Int) (X2 : Int) (hok : txtOk nm) : ∀ n, ∀ d ∈ dueL nm r X2 n, dueOk d
  | 0 => by
    intro d hd
    rw [List.mem_singleton.mp (show d ∈ [Due.txt anotherL] from hd)]
    show txtOk anotherL
    intro c hc
    simp at hc
    omega
  | n + 1 => by
    intro d hd
    rw [due_succ] at hd
    rcases List.mem_append.mp hd with hd | hd
    · exact due_fine nm r X2 hok n d hd
    · unfold dueF at hd
      rcases List.mem_append.mp hd with hd | hd
      · split at hd
        · rw [List.mem_singleton.mp hd]
          show txtOk notReadL
          intro c hc
          simp at hc
          omega
        · simp at hd
      · rw [List.mem_singleton.mp hd]
        exact hok
theorem name_ok (rl : List Nat) (bk : Nat) : txtOk (nameL rl bk) := by
  have hr : ∀ (rl : List Nat) c, c ∈ leadRuns (intsN rl) → c = 32 ∨ c = 9 := by
    intro rl
    induction rl with
    | nil => intro c h; simp [leadRuns] at h
    | cons r rl ih =>
      intro c h
      have e : leadRuns (intsN (r :: rl)) = List.replicate r 32 ++ [9] ++ leadRuns (intsN rl) := by
        unfold leadRuns intsN
        rw [List.map_cons, List.map_cons, List.flatten_cons, rep_nat]
      rw [e] at h
      rcases List.mem_append.mp h with h | h
      · rcases List.mem_append.mp h with h | h
        · exact .inl (List.mem_replicate.mp h).2
        · exact .inr (List.mem_singleton.mp h)
      · exact ih c h
  intro c hc
  unfold nameL leadL at hc
  rcases List.mem_append.mp hc with hc | hc
  · rcases List.mem_append.mp hc with hc | hc
    · have := hr rl c hc; omega
    · have := rep_mem hc; omega
  · simp at hc; omega
set_option maxHeartbeats 4000000 in
/-- the law's whole walk -/
theorem law_all {w : World} {A : Around} {g : Heap} {L : Addr} {m : Str → Option Value} {ν : List (Addr × Obj)} {z s : Shared} {Q : Flow → Shared → Prop} {E : Value → Shared → Prop} {ss : List Stmt} {cs : Scope} {a : Addr} {ccd : Value}
    {o1 o2 o3 o4 : Obj} {lsc : Addr} {svs : List Value} {script : List Int} {F : Obj → List (Addr × Obj)}
    (hlaw : lawOf w = some (ss, cs)) (G : Gx w g) (X : Ax 20 200 A (envX (Str.ofString "law") cs L a ccd (lawCl L)) g) (hA : A.frames = some [envX (Str.ofString "law") cs L a ccd (lawCl L)]) (hA₀ : ∃ A₀ : Around, A₀.frames = some [])
    (C : Cx g L m ((L + 4, o4) :: (L + 3, o3) :: (L + 2, o2) :: (L + 1, o1) :: ν) z s)
    (ho1 : o1.data = .cell (some (.ref lsc))) (ho2 : ∃ v, o2.data = .cell v) (ho3 : ∃ v, o3.data = .cell v) (ho4 : ∃ v, o4.data = .cell v) (hls : g.IsList lsc svs.toArray) (hlen : svs.length ≤ 63) (hsc : IntsAre svs script) (hP : Pt 182 (tabObj #[]) ν F)
    (k : ∀ m ν' ps s', (182, tabObj ps) ∈ ν' → Cx g L m ν' z s' → Q (.ret (.bool true)) s') :
    wpAny (MM w) A (execs ss (envX (Str.ofString "law") cs L a ccd (lawCl L))) Q E s := by
  refine law_A hlaw G X C ho1 ho2 hls hlen hsc ?_
  clear C
  intro o2 lx xs nx X0 X1 X2 s hX0 hX1 hX2 hxs ho2 C
  refine law_B hlaw G X C ho2 hX0 hX1 hxs ?_
  clear C
  intro m lr rv nr rl bk tb tn x dx tp tc es n f vs τ s hl4 hl1 h6 hb3 hrv hm1 hm2 hm3 hm4 C hW
  have hnl := name_len rl bk hl4 h6 hb3
  have hpo : ∀ i : Nat, i < 8 → 0 ≤ lvl (wsGo (nameL rl bk) [] 0 0 0) (1 + (i : Int)) ∧ lvl (wsGo (nameL rl bk) [] 0 0 0) (1 + (i : Int)) < 1000 := fun i hi => by
    rw [lvl_port]; exact port_lt rl bk i hl4 h6 hb3 hi
  refine law_C hlaw G X C ho2 hX2 hxs hW hnl hm1 hm2 hm3 hm4 (ws_short rl bk h6) hpo ?_
  clear C hW
  intro m ll ld ls vd nl nd τ s hls2 hvd hm1 hm2 hm3 hm5 hm6 C
  have hfine := fine_all (nameL rl bk) (wsGo (nameL rl bk) [] 0 0 0) X2 hnl (name_ok rl bk) 8 hpo
  have hside := side_all (nameL rl bk) (wsGo (nameL rl bk) [] 0 0 0) X2 8 hpo
  have hrl := reps_len (nameL rl bk) (wsGo (nameL rl bk) [] 0 0 0) X2 8
  have hdl := due_len (nameL rl bk) (wsGo (nameL rl bk) [] 0 0 0) X2 8
  refine law_D hlaw G X C ho2 ho3 hX1 hxs hP hls2 (by omega) (fun w hw => (hfine w hw).1) hm5 ?_
  clear C
  intro tx x dx src tl pb ext ps oc ν' s hoc C hX hL
  have hT := toks_all X1 (repsL (nameL rl bk) (wsGo (nameL rl bk) [] 0 0 0) X2 8) 0 [] (.inl rfl) (fun w hw => (hfine w hw).2.2)
  rw [List.nil_append] at hT
  refine law_E (nl := nl) hlaw G X C hX hL hoc ?_ ?_ hls2 (by omega) hT (fun w hw => (hfine w hw).2.1) (st_ne (by kernel_rfl) hm5) (st_same _ _ _) ?_
  · exact .tail _ (.tail _ (List.mem_append_right _ (.tail _ (.tail _ (.tail _ (.head _))))))
  · exact .tail _ (.head _)
  clear C hX hL
  intro lt ys kt s hys C
  refine law_F hlaw G X hA hA₀ C ho4 hys hvd (by omega) (fun w hw => (hfine w hw).1) rfl (reply0_back _) hside.at hside.len (due_fine _ _ _ (name_ok rl bk) 8) (st_ne (by kernel_rfl) (st_ne (by kernel_rfl) hm3)) (st_same _ _ _) (st_ne (by kernel_rfl) (st_ne (by kernel_rfl) hm6)) ?_
  clear C
  intro la as ka σ oc4 t4 s hoc4 has C
  have hports := ports_are rl bk X2
  refine law_G (tb := tb) (rl := rl) hlaw G X C has (by omega) (lr := lr) (rv := rv) (nr := nr) ?_ hrv hl4 ?_ ?_ ?_ ?_ (st_ne (by kernel_rfl) (st_ne (by kernel_rfl) (st_ne (by kernel_rfl) hm1))) (st_ne (by kernel_rfl) (st_ne (by kernel_rfl) (st_ne (by kernel_rfl) hm2))) (st_same _ _ _) ?_
  · exact .tail _ (.tail _ (.tail _ (List.mem_append_right _ (.head _))))
  · rw [hports]; simp [portsN]
  · intro b hb
    rw [hports, cnt_is rl bk b h6 hb]
    have := List.count_le_length (a := b) (l := rl)
    omega
  · rw [hports, back_is rl bk h6]
  · intro ns hp hs
    rw [hports, runs_is rl bk h6 7 (by omega)]
    exact sort_all rl h6 ns hp hs
  clear C
  intro m lf fs nf t1 t2 s hfs hm1 hm2 hm3 C
  rw [hports, runs_is rl bk h6 7 (by omega)] at hfs
  have hperm := sortN_perm rl h6
  have hsl := hperm.length_eq
  refine law_H (sl := sortN rl 7) hlaw G X C hfs ?_ hoc4 (by omega) (by omega) (fun r hr => by have := sortN_lt rl 7 r hr; omega) hb3 hnl hm1 hm2 hm3 (eq_one bk hperm) (eq_two bk) (eq_three bk hperm) (eq_four bk hperm (by omega)) ?_
  · exact .tail _ (.tail _ (.tail _ (List.mem_append_right _ (.tail _ (.tail _ (.head _))))))
  clear C
  intro m ν' s C
  refine k m _ ps s (List.mem_append_right _ (.tail _ (.tail _ (.tail _ (List.mem_append_right _ (.tail _ (.tail _ (.tail _ (.tail _ (.tail _ (.tail _ ?_)))))))))) ) C
  have hm : ∀ {ν : List (Addr × Obj)} {F : Obj → List (Addr × Obj)} {o o' : Obj}, Pt 182 o ν F → (182, o') ∈ F o' := by
    intro ν F o o' h
    induction h with
    | head => exact .head _
    | tail _ ih => exact .tail _ ih
  exact hm hP
theorem nd5 {L : Addr} (h : 182 < L) (o4 o3 o2 o1 o : Obj) : (([(L + 4, o4), (L + 3, o3), (L + 2, o2), (L + 1, o1), (182, o)] : List (Addr × Obj)).map (·.1)).Nodup := by
  have h' : (182 : Nat) < L := h
  simp only [List.map_cons, List.map_nil, List.nodup_cons, List.mem_cons, List.not_mem_nil, or_false, not_or, List.nodup_nil, and_true, not_false_eq_true]
  refine ⟨⟨?_, ?_, ?_, ?_⟩, ⟨?_, ?_, ?_⟩, ⟨?_, ?_⟩, ?_⟩ <;> (intro e; have e' : (_ : Nat) = _ := e; omega)
end Mine
set_option maxHeartbeats 8000000 in
theorem PySem.Challenge.cw_rl0086_01_holds : PySem.Challenge.rw_rl0086_01.Holds := by
  refine MineT.hd (by
    w_on
    k_go0
    rename (Shared.gens _ = _) => hg
    rename_i hI hr hc1 hc2 hD h1 tk1 w3 w2 w1 w0 l2 l1 l0 r0 X0 X' T' K' F' N' ll0
    have G : Mine.Gx _ _ := ⟨X', _, _, _, _, _, T'⟩
    refine Mine.law_all (hlaw := rfl) G (X := ⟨⟨_, _, _, K', Around.frames_deeper K'.stack⟩, rfl, show callerA.depth + 1 + 20 < recursionLimit by decide, show callerA.units + 3 + 200 < cLine by decide⟩) (Around.frames_deeper K'.stack) ⟨_, K'.stack⟩ ⟨F', N', Mine.nd5 ll0 _ _ _ _ _, rfl⟩ (r0.trans (by kernel_rfl)) ⟨_, l0⟩ ⟨_, l1⟩ ⟨_, l2⟩ lifted (by have := hI.length; omega) hI Mine.Pt.head ?_
    intro m ν' ps s' hm C
    have e := C.eq
    refine ⟨⟨.inl ⟨_, _, [], rfl, fun _ => rfl, ReadsW.bool true, ?_, fun _ => ⟨List.nodup_nil, fun _ h => nomatch h⟩⟩, fun b o hb => C.fr.keep b o hb, ?_, ?_⟩, ⟨⟨ps, C.get hm⟩, trivial⟩⟩
    · kernel_rfl
    · rw [e]
    · rw [e]; exact hg)
