import PyProof.Rows.All
import Wide.All
import OpenK.AllK
import Wide.FinOn
import Lean
import PySem.Challenge.RW_ul0025_01
set_option Elab.async false
set_option compiler.extract_closed false

noncomputable section PartHA
theorem Mine.resetHA : True := by (w_top off); k_with_none; first | (walk1; done) | trivial
set_option maxRecDepth 100000
set_option linter.all false
namespace Mine
open PySem PySem.W
noncomputable abbrev pw : Program := PySem.Challenge.pw_ul0025_01
noncomputable def st (k : Nat) : Stmt := pw.main.body.getD k (.Pass ⟨0, 0, 0, 0⟩)
noncomputable def fnD (i : Nat) (name qual : Str) (globals : Addr) (dV kV doc pm : Value) (an : Option Addr) (code ct : Value) (bl : Addr) : FuncData :=
  match st i with
  | .FunctionDef _ args body _ _ _ scope _ _ _ => { name := name, qualname := qual, params := args, body := .stmts body, scope := scope, globals := globals, closure := [], defaults := dV, kwdefaults := kV, doc := doc, pyModule := pm, annotations := an, code := code, closureTuple := ct, builtins := bl }
  | _ => default
noncomputable def env : Env := { scope := pw.main.scope, locals := mainNs, globals := mainNs, cells := [], code := .ref 13, frame := some 14 }
noncomputable def cE : Code := .body (behindTheImports pw) env
noncomputable def p0 : Pos := ⟨0, 0, 0, 0⟩
noncomputable abbrev B0 : List Frame := [topFrame p0]
noncomputable def life0 : Life := {}
noncomputable def oa_11 (P : Params) : Obj := ⟨(.type "tuple"), none, (.seq ⟨[]⟩ 0), ⟨[]⟩⟩
noncomputable def oa_12 (P : Params) : Obj := ⟨.none, none, (.fields ⟨[]⟩), ⟨[]⟩⟩
noncomputable def oa_13 (P : Params) : Obj := ⟨(.type "code"), none, (.fields ⟨[(.str (Str.ofString "<module>") 182), (.str (Str.ofString "<module>") 183), (.str (Str.ofString "/claim/cut.py") 184), (.int 1 0), (.int 0 0), (.int 0 0), (.int 0 0), (.int 0 0), (.ref 11), (.bool false), (.int 181 0), (.ref 12), .none, .none, .none, .none, (.int 185 0), (.int 1 0), (.str (Str.ofString "/claim/cut.py") 186)]⟩), ⟨[]⟩⟩
noncomputable def oa_14 (P : Params) : Obj := ⟨(.type "frame"), none, .plain, ⟨[(some (.ref 13)), (some (.ref 3)), (some (.ref 3)), none, (some (.str (Str.ofString "__main__") 164)), none, (some (.ref 0))]⟩⟩
noncomputable def Ta (P : Params) : BT := (.node (boot_o_0 P) (.node (boot_o_1 P) (.node (boot_o_3 P) (.node (boot_o_7 P) .nil .nil) (.node (oa_11 P) .nil .nil)) (.node (boot_o_5 P) (.node (boot_o_9 P) .nil .nil) (.node (oa_13 P) .nil .nil))) (.node (boot_o_2 P) (.node (boot_o_4 P) (.node (boot_o_8 P) .nil .nil) (.node (oa_12 P) .nil .nil)) (.node (boot_o_6 P) (.node (boot_o_10 P) .nil .nil) (.node (oa_14 P) .nil .nil))))
noncomputable def ob12_3 (P : Params) : Obj := ⟨(.type "dict"), none, (.dict ⟨[⟨PyData.keyHash P (Str.ofString "__name__"), (.str (Str.ofString "__name__") 165), (.str (Str.ofString "cpy313.stringprep") 290)⟩, ⟨PyData.keyHash P (Str.ofString "__doc__"), (.str (Str.ofString "__doc__") 166), .none⟩, ⟨PyData.keyHash P (Str.ofString "__package__"), (.str (Str.ofString "__package__") 167), .none⟩, ⟨PyData.keyHash P (Str.ofString "__loader__"), (.str (Str.ofString "__loader__") 168), (.builtin "__main__.__loader__#opaque")⟩, ⟨PyData.keyHash P (Str.ofString "__spec__"), (.str (Str.ofString "__spec__") 169), .none⟩, ⟨PyData.keyHash P (Str.ofString "__annotations__"), (.str (Str.ofString "__annotations__") 170), (.ref 6)⟩, ⟨PyData.keyHash P (Str.ofString "__builtins__"), (.str (Str.ofString "__builtins__") 171), (.ref 4)⟩, ⟨PyData.keyHash P (Str.ofString "__file__"), (.str (Str.ofString "__file__") 173), (.str (Str.ofString "/claim/cut.py") 172)⟩, ⟨PyData.keyHash P (Str.ofString "__cached__"), (.str (Str.ofString "__cached__") 174), .none⟩, ⟨PyData.keyHash P (Str.ofString "_DIV_LIMIT"), (.str (Str.ofString "_DIV_LIMIT") 190), (.int 4000 189)⟩, ⟨PyData.keyHash P (Str.ofString "_div2n1n"), (.str (Str.ofString "_div2n1n") 207), (.ref 21)⟩, ⟨PyData.keyHash P (Str.ofString "_div3n2n"), (.str (Str.ofString "_div3n2n") 221), (.ref 28)⟩, ⟨PyData.keyHash P (Str.ofString "_int2digits"), (.str (Str.ofString "_int2digits") 232), (.ref 35)⟩, ⟨PyData.keyHash P (Str.ofString "_digits2int"), (.str (Str.ofString "_digits2int") 243), (.ref 42)⟩, ⟨PyData.keyHash P (Str.ofString "_divmod_pos"), (.str (Str.ofString "_divmod_pos") 258), (.ref 49)⟩, ⟨PyData.keyHash P (Str.ofString "int_divmod"), (.str (Str.ofString "int_divmod") 268), (.ref 56)⟩, ⟨PyData.keyHash P (Str.ofString "_strcoll"), (.str (Str.ofString "_strcoll") 278), (.ref 63)⟩, ⟨PyData.keyHash P (Str.ofString "CHAR_MAX"), (.str (Str.ofString "CHAR_MAX") 280), (.int 127 279)⟩, ⟨PyData.keyHash P (Str.ofString "_grouping_intervals"), (.str (Str.ofString "_grouping_intervals") 289), (.ref 70)⟩]⟩ 19), ⟨[]⟩⟩
noncomputable def ob12_12 (P : Params) : Obj := ⟨.none, none, (.fields ⟨[(.int 3 0), (.int 0 0), (.ref 20), (.int 19 0), (.int 0 0), (.ref 27), (.int 29 0), (.int 0 0), (.ref 34), (.int 45 0), (.int 0 0), (.ref 41), (.int 54 0), (.int 0 0), (.ref 48), (.int 65 0), (.int 0 0), (.ref 55), (.int 77 0), (.int 0 0), (.ref 62), (.int 80 0), (.int 0 0), (.ref 69)]⟩), ⟨[]⟩⟩
noncomputable def ob12_15 (P : Params) : Obj := ⟨(.type "tuple"), none, (.seq ⟨[]⟩ 0), ⟨[]⟩⟩
noncomputable def ob12_16 (P : Params) : Obj := ⟨.none, none, (.fields ⟨[]⟩), ⟨[]⟩⟩
noncomputable def ob12_17 (P : Params) : Obj := ⟨(.type "tuple"), none, (.seq ⟨[(.str (Str.ofString "a") 194), (.str (Str.ofString "b") 195), (.str (Str.ofString "n") 196), (.str (Str.ofString "pad") 197), (.str (Str.ofString "half_n") 198), (.str (Str.ofString "mask") 199), (.str (Str.ofString "b1") 200), (.str (Str.ofString "b2") 201), (.str (Str.ofString "q1") 202), (.str (Str.ofString "r") 203), (.str (Str.ofString "q2") 204)]⟩ 0), ⟨[]⟩⟩
noncomputable def ob12_18 (P : Params) : Obj := ⟨(.type "tuple"), none, (.seq ⟨[]⟩ 0), ⟨[]⟩⟩
noncomputable def ob12_19 (P : Params) : Obj := ⟨.none, none, (.func (fnD 2 (Str.ofString "_div2n1n") (Str.ofString "_div2n1n") 0 .none .none .none .none none .none .none 0)), ⟨[]⟩⟩
noncomputable def ob12_20 (P : Params) : Obj := ⟨(.type "code"), none, (.fields ⟨[(.str (Str.ofString "_div2n1n") 191), (.str (Str.ofString "_div2n1n") 192), (.str (Str.ofString "/claim/cut.py") 193), (.int 3 0), (.int 3 0), (.int 0 0), (.int 0 0), (.int 3 0), (.ref 15), (.bool true), (.int 181 0), (.ref 16), .none, (.ref 17), (.ref 18), (.ref 19), (.int 205 0), (.int 3 0), (.str (Str.ofString "/claim/cut.py") 206)]⟩), ⟨[]⟩⟩
noncomputable def ob12_21 (P : Params) : Obj := ⟨(.type "function"), none, (.func (fnD 2 (Str.ofString "_div2n1n") (Str.ofString "_div2n1n") 3 .none .none .none (.str (Str.ofString "cpy313._pylong") 187) none (.ref 20) .none 0)), ⟨[]⟩⟩
noncomputable def ob12_22 (P : Params) : Obj := ⟨(.type "tuple"), none, (.seq ⟨[]⟩ 0), ⟨[]⟩⟩
noncomputable def ob12_23 (P : Params) : Obj := ⟨.none, none, (.fields ⟨[]⟩), ⟨[]⟩⟩
noncomputable def ob12_24 (P : Params) : Obj := ⟨(.type "tuple"), none, (.seq ⟨[(.str (Str.ofString "a12") 211), (.str (Str.ofString "a3") 212), (.str (Str.ofString "b") 213), (.str (Str.ofString "b1") 214), (.str (Str.ofString "b2") 215), (.str (Str.ofString "n") 216), (.str (Str.ofString "q") 217), (.str (Str.ofString "r") 218)]⟩ 0), ⟨[]⟩⟩
noncomputable def ob12_25 (P : Params) : Obj := ⟨(.type "tuple"), none, (.seq ⟨[]⟩ 0), ⟨[]⟩⟩
noncomputable def ob12_26 (P : Params) : Obj := ⟨.none, none, (.func (fnD 3 (Str.ofString "_div3n2n") (Str.ofString "_div3n2n") 0 .none .none .none .none none .none .none 0)), ⟨[]⟩⟩
noncomputable def ob12_27 (P : Params) : Obj := ⟨(.type "code"), none, (.fields ⟨[(.str (Str.ofString "_div3n2n") 208), (.str (Str.ofString "_div3n2n") 209), (.str (Str.ofString "/claim/cut.py") 210), (.int 19 0), (.int 6 0), (.int 0 0), (.int 0 0), (.int 3 0), (.ref 22), (.bool true), (.int 181 0), (.ref 23), .none, (.ref 24), (.ref 25), (.ref 26), (.int 219 0), (.int 19 0), (.str (Str.ofString "/claim/cut.py") 220)]⟩), ⟨[]⟩⟩
noncomputable def ob12_28 (P : Params) : Obj := ⟨(.type "function"), none, (.func (fnD 3 (Str.ofString "_div3n2n") (Str.ofString "_div3n2n") 3 .none .none .none (.str (Str.ofString "cpy313._pylong") 187) none (.ref 27) .none 0)), ⟨[]⟩⟩
noncomputable def ob12_29 (P : Params) : Obj := ⟨(.type "tuple"), none, (.seq ⟨[]⟩ 0), ⟨[]⟩⟩
noncomputable def ob12_30 (P : Params) : Obj := ⟨.none, none, (.fields ⟨[]⟩), ⟨[]⟩⟩
noncomputable def ob12_31 (P : Params) : Obj := ⟨(.type "tuple"), none, (.seq ⟨[(.str (Str.ofString "a") 225), (.str (Str.ofString "n") 226)]⟩ 0), ⟨[]⟩⟩
noncomputable def ob12_32 (P : Params) : Obj := ⟨(.type "tuple"), none, (.seq ⟨[(.str (Str.ofString "n") 227), (.str (Str.ofString "a_digits") 228), (.str (Str.ofString "inner") 229)]⟩ 0), ⟨[]⟩⟩
noncomputable def ob12_33 (P : Params) : Obj := ⟨.none, none, (.func (fnD 4 (Str.ofString "_int2digits") (Str.ofString "_int2digits") 0 .none .none .none .none none .none .none 0)), ⟨[]⟩⟩
noncomputable def ob12_34 (P : Params) : Obj := ⟨(.type "code"), none, (.fields ⟨[(.str (Str.ofString "_int2digits") 222), (.str (Str.ofString "_int2digits") 223), (.str (Str.ofString "/claim/cut.py") 224), (.int 29 0), (.int 2 0), (.int 0 0), (.int 0 0), (.int 3 0), (.ref 29), (.bool true), (.int 181 0), (.ref 30), .none, (.ref 31), (.ref 32), (.ref 33), (.int 230 0), (.int 29 0), (.str (Str.ofString "/claim/cut.py") 231)]⟩), ⟨[]⟩⟩
noncomputable def ob12_35 (P : Params) : Obj := ⟨(.type "function"), none, (.func (fnD 4 (Str.ofString "_int2digits") (Str.ofString "_int2digits") 3 .none .none .none (.str (Str.ofString "cpy313._pylong") 187) none (.ref 34) .none 0)), ⟨[]⟩⟩
noncomputable def ob12_36 (P : Params) : Obj := ⟨(.type "tuple"), none, (.seq ⟨[]⟩ 0), ⟨[]⟩⟩
noncomputable def ob12_37 (P : Params) : Obj := ⟨.none, none, (.fields ⟨[]⟩), ⟨[]⟩⟩
noncomputable def ob12_38 (P : Params) : Obj := ⟨(.type "tuple"), none, (.seq ⟨[(.str (Str.ofString "digits") 236), (.str (Str.ofString "n") 237)]⟩ 0), ⟨[]⟩⟩
noncomputable def ob12_39 (P : Params) : Obj := ⟨(.type "tuple"), none, (.seq ⟨[(.str (Str.ofString "digits") 238), (.str (Str.ofString "n") 239), (.str (Str.ofString "inner") 240)]⟩ 0), ⟨[]⟩⟩
noncomputable def ob12_40 (P : Params) : Obj := ⟨.none, none, (.func (fnD 5 (Str.ofString "_digits2int") (Str.ofString "_digits2int") 0 .none .none .none .none none .none .none 0)), ⟨[]⟩⟩
noncomputable def ob12_41 (P : Params) : Obj := ⟨(.type "code"), none, (.fields ⟨[(.str (Str.ofString "_digits2int") 233), (.str (Str.ofString "_digits2int") 234), (.str (Str.ofString "/claim/cut.py") 235), (.int 45 0), (.int 2 0), (.int 0 0), (.int 0 0), (.int 3 0), (.ref 36), (.bool true), (.int 181 0), (.ref 37), .none, (.ref 38), (.ref 39), (.ref 40), (.int 241 0), (.int 45 0), (.str (Str.ofString "/claim/cut.py") 242)]⟩), ⟨[]⟩⟩
noncomputable def ob12_42 (P : Params) : Obj := ⟨(.type "function"), none, (.func (fnD 5 (Str.ofString "_digits2int") (Str.ofString "_digits2int") 3 .none .none .none (.str (Str.ofString "cpy313._pylong") 187) none (.ref 41) .none 0)), ⟨[]⟩⟩
noncomputable def ob12_43 (P : Params) : Obj := ⟨(.type "tuple"), none, (.seq ⟨[]⟩ 0), ⟨[]⟩⟩
noncomputable def ob12_44 (P : Params) : Obj := ⟨.none, none, (.fields ⟨[]⟩), ⟨[]⟩⟩
noncomputable def ob12_45 (P : Params) : Obj := ⟨(.type "tuple"), none, (.seq ⟨[(.str (Str.ofString "a") 247), (.str (Str.ofString "b") 248), (.str (Str.ofString "n") 249), (.str (Str.ofString "a_digits") 250), (.str (Str.ofString "r") 251), (.str (Str.ofString "q_digits") 252), (.str (Str.ofString "a_digit") 253), (.str (Str.ofString "q_digit") 254), (.str (Str.ofString "q") 255)]⟩ 0), ⟨[]⟩⟩
noncomputable def ob12_46 (P : Params) : Obj := ⟨(.type "tuple"), none, (.seq ⟨[]⟩ 0), ⟨[]⟩⟩
noncomputable def ob12_47 (P : Params) : Obj := ⟨.none, none, (.func (fnD 6 (Str.ofString "_divmod_pos") (Str.ofString "_divmod_pos") 0 .none .none .none .none none .none .none 0)), ⟨[]⟩⟩
noncomputable def ob12_48 (P : Params) : Obj := ⟨(.type "code"), none, (.fields ⟨[(.str (Str.ofString "_divmod_pos") 244), (.str (Str.ofString "_divmod_pos") 245), (.str (Str.ofString "/claim/cut.py") 246), (.int 54 0), (.int 2 0), (.int 0 0), (.int 0 0), (.int 3 0), (.ref 43), (.bool true), (.int 181 0), (.ref 44), .none, (.ref 45), (.ref 46), (.ref 47), (.int 256 0), (.int 54 0), (.str (Str.ofString "/claim/cut.py") 257)]⟩), ⟨[]⟩⟩
noncomputable def ob12_49 (P : Params) : Obj := ⟨(.type "function"), none, (.func (fnD 6 (Str.ofString "_divmod_pos") (Str.ofString "_divmod_pos") 3 .none .none .none (.str (Str.ofString "cpy313._pylong") 187) none (.ref 48) .none 0)), ⟨[]⟩⟩
noncomputable def ob12_50 (P : Params) : Obj := ⟨(.type "tuple"), none, (.seq ⟨[]⟩ 0), ⟨[]⟩⟩
noncomputable def ob12_51 (P : Params) : Obj := ⟨.none, none, (.fields ⟨[]⟩), ⟨[]⟩⟩
noncomputable def ob12_52 (P : Params) : Obj := ⟨(.type "tuple"), none, (.seq ⟨[(.str (Str.ofString "a") 262), (.str (Str.ofString "b") 263), (.str (Str.ofString "q") 264), (.str (Str.ofString "r") 265)]⟩ 0), ⟨[]⟩⟩
noncomputable def ob12_53 (P : Params) : Obj := ⟨(.type "tuple"), none, (.seq ⟨[]⟩ 0), ⟨[]⟩⟩
noncomputable def ob12_54 (P : Params) : Obj := ⟨.none, none, (.func (fnD 7 (Str.ofString "int_divmod") (Str.ofString "int_divmod") 0 .none .none .none .none none .none .none 0)), ⟨[]⟩⟩
noncomputable def ob12_55 (P : Params) : Obj := ⟨(.type "code"), none, (.fields ⟨[(.str (Str.ofString "int_divmod") 259), (.str (Str.ofString "int_divmod") 260), (.str (Str.ofString "/claim/cut.py") 261), (.int 65 0), (.int 2 0), (.int 0 0), (.int 0 0), (.int 3 0), (.ref 50), (.bool true), (.int 181 0), (.ref 51), .none, (.ref 52), (.ref 53), (.ref 54), (.int 266 0), (.int 65 0), (.str (Str.ofString "/claim/cut.py") 267)]⟩), ⟨[]⟩⟩
noncomputable def ob12_56 (P : Params) : Obj := ⟨(.type "function"), none, (.func (fnD 7 (Str.ofString "int_divmod") (Str.ofString "int_divmod") 3 .none .none .none (.str (Str.ofString "cpy313._pylong") 187) none (.ref 55) .none 0)), ⟨[]⟩⟩
noncomputable def ob12_57 (P : Params) : Obj := ⟨(.type "tuple"), none, (.seq ⟨[]⟩ 0), ⟨[]⟩⟩
noncomputable def ob12_58 (P : Params) : Obj := ⟨.none, none, (.fields ⟨[]⟩), ⟨[]⟩⟩
noncomputable def ob12_59 (P : Params) : Obj := ⟨(.type "tuple"), none, (.seq ⟨[(.str (Str.ofString "a") 274), (.str (Str.ofString "b") 275)]⟩ 0), ⟨[]⟩⟩
noncomputable def ob12_60 (P : Params) : Obj := ⟨(.type "tuple"), none, (.seq ⟨[]⟩ 0), ⟨[]⟩⟩
noncomputable def ob12_61 (P : Params) : Obj := ⟨.none, none, (.func (fnD 9 (Str.ofString "_strcoll") (Str.ofString "_strcoll") 0 .none .none .none .none none .none .none 0)), ⟨[]⟩⟩
noncomputable def ob12_62 (P : Params) : Obj := ⟨(.type "code"), none, (.fields ⟨[(.str (Str.ofString "_strcoll") 271), (.str (Str.ofString "_strcoll") 272), (.str (Str.ofString "/claim/cut.py") 273), (.int 77 0), (.int 2 0), (.int 0 0), (.int 0 0), (.int 3 0), (.ref 57), (.bool true), (.int 181 0), (.ref 58), .none, (.ref 59), (.ref 60), (.ref 61), (.int 276 0), (.int 77 0), (.str (Str.ofString "/claim/cut.py") 277)]⟩), ⟨[]⟩⟩
noncomputable def ob12_63 (P : Params) : Obj := ⟨(.type "function"), none, (.func (fnD 9 (Str.ofString "_strcoll") (Str.ofString "_strcoll") 3 .none .none .none (.str (Str.ofString "cpy313.locale") 269) none (.ref 62) .none 0)), ⟨[]⟩⟩
noncomputable def ob12_64 (P : Params) : Obj := ⟨(.type "tuple"), none, (.seq ⟨[]⟩ 0), ⟨[]⟩⟩
noncomputable def ob12_65 (P : Params) : Obj := ⟨.none, none, (.fields ⟨[]⟩), ⟨[]⟩⟩
noncomputable def ob12_66 (P : Params) : Obj := ⟨(.type "tuple"), none, (.seq ⟨[(.str (Str.ofString "grouping") 284), (.str (Str.ofString "last_interval") 285), (.str (Str.ofString "interval") 286)]⟩ 0), ⟨[]⟩⟩
noncomputable def ob12_67 (P : Params) : Obj := ⟨(.type "tuple"), none, (.seq ⟨[]⟩ 0), ⟨[]⟩⟩
noncomputable def ob12_68 (P : Params) : Obj := ⟨.none, none, (.func (fnD 11 (Str.ofString "_grouping_intervals") (Str.ofString "_grouping_intervals") 0 .none .none .none .none none .none .none 0)), ⟨[]⟩⟩
noncomputable def ob12_69 (P : Params) : Obj := ⟨(.type "code"), none, (.fields ⟨[(.str (Str.ofString "_grouping_intervals") 281), (.str (Str.ofString "_grouping_intervals") 282), (.str (Str.ofString "/claim/cut.py") 283), (.int 80 0), (.int 1 0), (.int 0 0), (.int 0 0), (.int 35 0), (.ref 64), (.bool true), (.int 181 0), (.ref 65), .none, (.ref 66), (.ref 67), (.ref 68), (.int 287 0), (.int 80 0), (.str (Str.ofString "/claim/cut.py") 288)]⟩), ⟨[]⟩⟩
noncomputable def ob12_70 (P : Params) : Obj := ⟨(.type "function"), none, (.func (fnD 11 (Str.ofString "_grouping_intervals") (Str.ofString "_grouping_intervals") 3 .none .none .none (.str (Str.ofString "cpy313.locale") 269) none (.ref 69) .none 0)), ⟨[]⟩⟩
noncomputable def Tb12 (P : Params) : BT := (.node (boot_o_0 P) (.node (boot_o_1 P) (.node (ob12_3 P) (.node (boot_o_7 P) (.node (ob12_15 P) (.node (ob12_31 P) (.node (ob12_63 P) .nil .nil) .nil) (.node (ob12_47 P) .nil .nil)) (.node (ob12_23 P) (.node (ob12_39 P) .nil .nil) (.node (ob12_55 P) .nil .nil))) (.node (oa_11 P) (.node (ob12_19 P) (.node (ob12_35 P) (.node (ob12_67 P) .nil .nil) .nil) (.node (ob12_51 P) .nil .nil)) (.node (ob12_27 P) (.node (ob12_43 P) .nil .nil) (.node (ob12_59 P) .nil .nil)))) (.node (boot_o_5 P) (.node (boot_o_9 P) (.node (ob12_17 P) (.node (ob12_33 P) (.node (ob12_65 P) .nil .nil) .nil) (.node (ob12_49 P) .nil .nil)) (.node (ob12_25 P) (.node (ob12_41 P) .nil .nil) (.node (ob12_57 P) .nil .nil))) (.node (oa_13 P) (.node (ob12_21 P) (.node (ob12_37 P) (.node (ob12_69 P) .nil .nil) .nil) (.node (ob12_53 P) .nil .nil)) (.node (ob12_29 P) (.node (ob12_45 P) .nil .nil) (.node (ob12_61 P) .nil .nil))))) (.node (boot_o_2 P) (.node (boot_o_4 P) (.node (boot_o_8 P) (.node (ob12_16 P) (.node (ob12_32 P) (.node (ob12_64 P) .nil .nil) .nil) (.node (ob12_48 P) .nil .nil)) (.node (ob12_24 P) (.node (ob12_40 P) .nil .nil) (.node (ob12_56 P) .nil .nil))) (.node (ob12_12 P) (.node (ob12_20 P) (.node (ob12_36 P) (.node (ob12_68 P) .nil .nil) .nil) (.node (ob12_52 P) .nil .nil)) (.node (ob12_28 P) (.node (ob12_44 P) .nil .nil) (.node (ob12_60 P) .nil .nil)))) (.node (boot_o_6 P) (.node (boot_o_10 P) (.node (ob12_18 P) (.node (ob12_34 P) (.node (ob12_66 P) .nil .nil) .nil) (.node (ob12_50 P) .nil .nil)) (.node (ob12_26 P) (.node (ob12_42 P) .nil .nil) (.node (ob12_58 P) .nil .nil))) (.node (oa_14 P) (.node (ob12_22 P) (.node (ob12_38 P) (.node (ob12_70 P) .nil .nil) .nil) (.node (ob12_54 P) .nil .nil)) (.node (ob12_30 P) (.node (ob12_46 P) .nil .nil) (.node (ob12_62 P) .nil .nil))))))
noncomputable def sts1 : List Stmt := [st 0, st 1, st 2, st 3, st 4, st 5, st 6, st 7, st 8, st 9, st 10, st 11, st 12]
theorem g1 (w : World) (os : OsState) : segRunT treeTable pw w 11 (some (.ref 6)) 1 400 ⟨Ta w.params, 15, life0, #[], boot_drawn, 187, os⟩ (piecesOf sts1 env cE p0 B0) = some (.next, ⟨Tb12 w.params, 71, life0, #[], boot_drawn, 292, os⟩, cE, ⟨92, 0, 92, 8⟩) := by kernel_rfl
end Mine
end PartHA

noncomputable section PartHB
theorem Mine.resetHB : True := by (w_top off); k_with_none; first | (walk1; done) | trivial
set_option maxRecDepth 100000
set_option linter.all false
namespace Mine
open PySem PySem.W
noncomputable def ob13_3 (P : Params) : Obj := ⟨(.type "dict"), none, (.dict ⟨[⟨PyData.keyHash P (Str.ofString "__name__"), (.str (Str.ofString "__name__") 165), (.str (Str.ofString "cpy313.stringprep") 290)⟩, ⟨PyData.keyHash P (Str.ofString "__doc__"), (.str (Str.ofString "__doc__") 166), .none⟩, ⟨PyData.keyHash P (Str.ofString "__package__"), (.str (Str.ofString "__package__") 167), .none⟩, ⟨PyData.keyHash P (Str.ofString "__loader__"), (.str (Str.ofString "__loader__") 168), (.builtin "__main__.__loader__#opaque")⟩, ⟨PyData.keyHash P (Str.ofString "__spec__"), (.str (Str.ofString "__spec__") 169), .none⟩, ⟨PyData.keyHash P (Str.ofString "__annotations__"), (.str (Str.ofString "__annotations__") 170), (.ref 6)⟩, ⟨PyData.keyHash P (Str.ofString "__builtins__"), (.str (Str.ofString "__builtins__") 171), (.ref 4)⟩, ⟨PyData.keyHash P (Str.ofString "__file__"), (.str (Str.ofString "__file__") 173), (.str (Str.ofString "/claim/cut.py") 172)⟩, ⟨PyData.keyHash P (Str.ofString "__cached__"), (.str (Str.ofString "__cached__") 174), .none⟩, ⟨PyData.keyHash P (Str.ofString "_DIV_LIMIT"), (.str (Str.ofString "_DIV_LIMIT") 190), (.int 4000 189)⟩, ⟨PyData.keyHash P (Str.ofString "_div2n1n"), (.str (Str.ofString "_div2n1n") 207), (.ref 21)⟩, ⟨PyData.keyHash P (Str.ofString "_div3n2n"), (.str (Str.ofString "_div3n2n") 221), (.ref 28)⟩, ⟨PyData.keyHash P (Str.ofString "_int2digits"), (.str (Str.ofString "_int2digits") 232), (.ref 35)⟩, ⟨PyData.keyHash P (Str.ofString "_digits2int"), (.str (Str.ofString "_digits2int") 243), (.ref 42)⟩, ⟨PyData.keyHash P (Str.ofString "_divmod_pos"), (.str (Str.ofString "_divmod_pos") 258), (.ref 49)⟩, ⟨PyData.keyHash P (Str.ofString "int_divmod"), (.str (Str.ofString "int_divmod") 268), (.ref 56)⟩, ⟨PyData.keyHash P (Str.ofString "_strcoll"), (.str (Str.ofString "_strcoll") 278), (.ref 63)⟩, ⟨PyData.keyHash P (Str.ofString "CHAR_MAX"), (.str (Str.ofString "CHAR_MAX") 280), (.int 127 279)⟩, ⟨PyData.keyHash P (Str.ofString "_grouping_intervals"), (.str (Str.ofString "_grouping_intervals") 289), (.ref 70)⟩, ⟨PyData.keyHash P (Str.ofString "b1_set"), (.str (Str.ofString "b1_set") 351), (.ref 78)⟩]⟩ 20), ⟨[]⟩⟩
noncomputable def ob13_71 (P : Params) : Obj := ⟨(.type "list"), none, (.seq ⟨[(.int 173 292), (.int 847 293), (.int 6150 294), (.int 6155 295), (.int 6156 296), (.int 6157 297), (.int 8203 298), (.int 8204 299), (.int 8205 300), (.int 8288 301), (.int 65279 302)]⟩ 0), ⟨[]⟩⟩
noncomputable def ob13_72 (P : Params) : Obj := ⟨(.type "range"), none, (.fields ⟨[(.int 65024 303), (.int 65040 304), (.int 1 305)]⟩), ⟨[]⟩⟩
noncomputable def ob13_73 (P : Params) : Obj := ⟨(.type "list"), none, (.seq ⟨[(.int 65024 308), (.int 65025 309), (.int 65026 310), (.int 65027 311), (.int 65028 312), (.int 65029 313), (.int 65030 314), (.int 65031 315), (.int 65032 316), (.int 65033 317), (.int 65034 318), (.int 65035 319), (.int 65036 320), (.int 65037 321), (.int 65038 322), (.int 65039 323)]⟩ 18), ⟨[]⟩⟩
noncomputable def ob13_74 (P : Params) : Obj := ⟨(.type "range_iterator"), none, (.fields ⟨[(.int 65040 0), (.int 0 0), (.int 1 0)]⟩), ⟨[]⟩⟩
noncomputable def ob13_75 (P : Params) : Obj := ⟨(.type "tuple"), none, (.seq ⟨[]⟩ 0), ⟨[]⟩⟩
noncomputable def ob13_76 (P : Params) : Obj := ⟨(.type "StopIteration"), none, (.fields ⟨[(.ref 75), .none, .none, .none, (.bool false), .none]⟩), ⟨[]⟩⟩
noncomputable def ob13_77 (P : Params) : Obj := ⟨(.type "list"), none, (.seq ⟨[(.int 173 292), (.int 847 293), (.int 6150 294), (.int 6155 295), (.int 6156 296), (.int 6157 297), (.int 8203 298), (.int 8204 299), (.int 8205 300), (.int 8288 301), (.int 65279 302), (.int 65024 308), (.int 65025 309), (.int 65026 310), (.int 65027 311), (.int 65028 312), (.int 65029 313), (.int 65030 314), (.int 65031 315), (.int 65032 316), (.int 65033 317), (.int 65034 318), (.int 65035 319), (.int 65036 320), (.int 65037 321), (.int 65038 322), (.int 65039 323)]⟩ 0), ⟨[]⟩⟩
noncomputable def ob13_78 (P : Params) : Obj := ⟨(.type "set"), none, (.set ⟨[(65024, (.int 65024 308)), (65025, (.int 65025 309)), (65026, (.int 65026 310)), (65027, (.int 65027 311)), (65028, (.int 65028 312)), (65029, (.int 65029 313)), (6150, (.int 6150 294)), (65030, (.int 65030 314)), (65031, (.int 65031 315)), (65032, (.int 65032 316)), (65033, (.int 65033 317)), (6155, (.int 6155 295)), (6156, (.int 6156 296)), (6157, (.int 6157 297)), (8203, (.int 8203 298)), (8204, (.int 8204 299)), (8205, (.int 8205 300)), (65034, (.int 65034 318)), (65035, (.int 65035 319)), (65036, (.int 65036 320)), (65037, (.int 65037 321)), (65038, (.int 65038 322)), (65039, (.int 65039 323)), (173, (.int 173 292)), (847, (.int 847 293)), (8288, (.int 8288 301)), (65279, (.int 65279 302))]⟩ 29 ⟨127, ⟨[0, 1, 2, 3, 4, 5, 6, 7, 8, 9, 10, 11, 12, 13, 14, 15, 16, 17, 18, 19, 20, 21, 22, 45, 79, 96, 127]⟩, ⟨[]⟩, 0, !(P.followText "set-order"), 2, true⟩), ⟨[]⟩⟩
noncomputable def ob13_79 (P : Params) : Obj := ⟨(.type "list_iterator"), none, (.fields ⟨[.none, (.int 27 0)]⟩), ⟨[]⟩⟩
noncomputable def ob13_80 (P : Params) : Obj := ⟨(.type "tuple"), none, (.seq ⟨[]⟩ 0), ⟨[]⟩⟩
noncomputable def ob13_81 (P : Params) : Obj := ⟨(.type "StopIteration"), none, (.fields ⟨[(.ref 80), .none, .none, .none, (.bool false), .none]⟩), ⟨[]⟩⟩
noncomputable def Tb13 (P : Params) : BT := (.node (boot_o_0 P) (.node (boot_o_1 P) (.node (ob13_3 P) (.node (boot_o_7 P) (.node (ob12_15 P) (.node (ob12_31 P) (.node (ob12_63 P) .nil .nil) .nil) (.node (ob12_47 P) (.node (ob13_79 P) .nil .nil) .nil)) (.node (ob12_23 P) (.node (ob12_39 P) (.node (ob13_71 P) .nil .nil) .nil) (.node (ob12_55 P) .nil .nil))) (.node (oa_11 P) (.node (ob12_19 P) (.node (ob12_35 P) (.node (ob12_67 P) .nil .nil) .nil) (.node (ob12_51 P) .nil .nil)) (.node (ob12_27 P) (.node (ob12_43 P) (.node (ob13_75 P) .nil .nil) .nil) (.node (ob12_59 P) .nil .nil)))) (.node (boot_o_5 P) (.node (boot_o_9 P) (.node (ob12_17 P) (.node (ob12_33 P) (.node (ob12_65 P) .nil .nil) .nil) (.node (ob12_49 P) (.node (ob13_81 P) .nil .nil) .nil)) (.node (ob12_25 P) (.node (ob12_41 P) (.node (ob13_73 P) .nil .nil) .nil) (.node (ob12_57 P) .nil .nil))) (.node (oa_13 P) (.node (ob12_21 P) (.node (ob12_37 P) (.node (ob12_69 P) .nil .nil) .nil) (.node (ob12_53 P) .nil .nil)) (.node (ob12_29 P) (.node (ob12_45 P) (.node (ob13_77 P) .nil .nil) .nil) (.node (ob12_61 P) .nil .nil))))) (.node (boot_o_2 P) (.node (boot_o_4 P) (.node (boot_o_8 P) (.node (ob12_16 P) (.node (ob12_32 P) (.node (ob12_64 P) .nil .nil) .nil) (.node (ob12_48 P) (.node (ob13_80 P) .nil .nil) .nil)) (.node (ob12_24 P) (.node (ob12_40 P) (.node (ob13_72 P) .nil .nil) .nil) (.node (ob12_56 P) .nil .nil))) (.node (ob12_12 P) (.node (ob12_20 P) (.node (ob12_36 P) (.node (ob12_68 P) .nil .nil) .nil) (.node (ob12_52 P) .nil .nil)) (.node (ob12_28 P) (.node (ob12_44 P) (.node (ob13_76 P) .nil .nil) .nil) (.node (ob12_60 P) .nil .nil)))) (.node (boot_o_6 P) (.node (boot_o_10 P) (.node (ob12_18 P) (.node (ob12_34 P) (.node (ob12_66 P) .nil .nil) .nil) (.node (ob12_50 P) .nil .nil)) (.node (ob12_26 P) (.node (ob12_42 P) (.node (ob13_74 P) .nil .nil) .nil) (.node (ob12_58 P) .nil .nil))) (.node (oa_14 P) (.node (ob12_22 P) (.node (ob12_38 P) (.node (ob12_70 P) .nil .nil) .nil) (.node (ob12_54 P) .nil .nil)) (.node (ob12_30 P) (.node (ob12_46 P) (.node (ob13_78 P) .nil .nil) .nil) (.node (ob12_62 P) .nil .nil))))))
theorem fastT : @segRunT = @PySem.W.Fast.tw10110043849684766642 := PySem.W.Fast.te10110043849684766642
theorem fastTab : @treeTable = @PySem.W.Fast.tw14364793385576792824 := PySem.W.Fast.te14364793385576792824
noncomputable def sts13 : List Stmt := [st 13]
theorem g13 (w : World) : ∀ os : OsState, segRunT treeTable pw w 11 (some (.ref 6)) 1 1000 ⟨Tb12 w.params, 71, life0, #[], boot_drawn, 292, os⟩ (piecesOf sts13 env cE ⟨92, 0, 92, 8⟩ B0) = some (.next, ⟨Tb13 w.params, 82, life0, #[], boot_drawn, 352, os⟩, cE, ⟨93, 0, 93, 6⟩) :=
  byRow2 "special-get-raises" (P := fun w => ∀ os : OsState, segRunT treeTable pw w 11 (some (.ref 6)) 1 1000 ⟨Tb12 w.params, 71, life0, #[], boot_drawn, 292, os⟩ (piecesOf sts13 env cE ⟨92, 0, 92, 8⟩ B0) = some (.next, ⟨Tb13 w.params, 82, life0, #[], boot_drawn, 352, os⟩, cE, ⟨93, 0, 93, 6⟩)) (fun w os => by rw [fastT, fastTab]; kernel_rfl) (fun w os => by rw [fastT, fastTab]; kernel_rfl) w
end Mine
end PartHB

noncomputable section PartHC
theorem Mine.resetHC : True := by (w_top off); k_with_none; first | (walk1; done) | trivial
set_option maxRecDepth 100000
set_option linter.all false
namespace Mine
open PySem PySem.W
noncomputable def ob14_3 (P : Params) : Obj := ⟨(.type "dict"), none, (.dict ⟨[⟨PyData.keyHash P (Str.ofString "__name__"), (.str (Str.ofString "__name__") 165), (.str (Str.ofString "cpy313.stringprep") 290)⟩, ⟨PyData.keyHash P (Str.ofString "__doc__"), (.str (Str.ofString "__doc__") 166), .none⟩, ⟨PyData.keyHash P (Str.ofString "__package__"), (.str (Str.ofString "__package__") 167), .none⟩, ⟨PyData.keyHash P (Str.ofString "__loader__"), (.str (Str.ofString "__loader__") 168), (.builtin "__main__.__loader__#opaque")⟩, ⟨PyData.keyHash P (Str.ofString "__spec__"), (.str (Str.ofString "__spec__") 169), .none⟩, ⟨PyData.keyHash P (Str.ofString "__annotations__"), (.str (Str.ofString "__annotations__") 170), (.ref 6)⟩, ⟨PyData.keyHash P (Str.ofString "__builtins__"), (.str (Str.ofString "__builtins__") 171), (.ref 4)⟩, ⟨PyData.keyHash P (Str.ofString "__file__"), (.str (Str.ofString "__file__") 173), (.str (Str.ofString "/claim/cut.py") 172)⟩, ⟨PyData.keyHash P (Str.ofString "__cached__"), (.str (Str.ofString "__cached__") 174), .none⟩, ⟨PyData.keyHash P (Str.ofString "_DIV_LIMIT"), (.str (Str.ofString "_DIV_LIMIT") 190), (.int 4000 189)⟩, ⟨PyData.keyHash P (Str.ofString "_div2n1n"), (.str (Str.ofString "_div2n1n") 207), (.ref 21)⟩, ⟨PyData.keyHash P (Str.ofString "_div3n2n"), (.str (Str.ofString "_div3n2n") 221), (.ref 28)⟩, ⟨PyData.keyHash P (Str.ofString "_int2digits"), (.str (Str.ofString "_int2digits") 232), (.ref 35)⟩, ⟨PyData.keyHash P (Str.ofString "_digits2int"), (.str (Str.ofString "_digits2int") 243), (.ref 42)⟩, ⟨PyData.keyHash P (Str.ofString "_divmod_pos"), (.str (Str.ofString "_divmod_pos") 258), (.ref 49)⟩, ⟨PyData.keyHash P (Str.ofString "int_divmod"), (.str (Str.ofString "int_divmod") 268), (.ref 56)⟩, ⟨PyData.keyHash P (Str.ofString "_strcoll"), (.str (Str.ofString "_strcoll") 278), (.ref 63)⟩, ⟨PyData.keyHash P (Str.ofString "CHAR_MAX"), (.str (Str.ofString "CHAR_MAX") 280), (.int 127 279)⟩, ⟨PyData.keyHash P (Str.ofString "_grouping_intervals"), (.str (Str.ofString "_grouping_intervals") 289), (.ref 70)⟩, ⟨PyData.keyHash P (Str.ofString "b1_set"), (.str (Str.ofString "b1_set") 351), (.ref 78)⟩, ⟨PyData.keyHash P (Str.ofString "in_table_b1"), (.str (Str.ofString "in_table_b1") 358), (.ref 88)⟩]⟩ 21), ⟨[]⟩⟩
noncomputable def ob14_12 (P : Params) : Obj := ⟨.none, none, (.fields ⟨[(.int 3 0), (.int 0 0), (.ref 20), (.int 19 0), (.int 0 0), (.ref 27), (.int 29 0), (.int 0 0), (.ref 34), (.int 45 0), (.int 0 0), (.ref 41), (.int 54 0), (.int 0 0), (.ref 48), (.int 65 0), (.int 0 0), (.ref 55), (.int 77 0), (.int 0 0), (.ref 62), (.int 80 0), (.int 0 0), (.ref 69), (.int 94 0), (.int 0 0), (.ref 87)]⟩), ⟨[]⟩⟩
noncomputable def ob14_82 (P : Params) : Obj := ⟨(.type "tuple"), none, (.seq ⟨[]⟩ 0), ⟨[]⟩⟩
noncomputable def ob14_83 (P : Params) : Obj := ⟨.none, none, (.fields ⟨[]⟩), ⟨[]⟩⟩
noncomputable def ob14_84 (P : Params) : Obj := ⟨(.type "tuple"), none, (.seq ⟨[(.str (Str.ofString "code") 355)]⟩ 0), ⟨[]⟩⟩
noncomputable def ob14_85 (P : Params) : Obj := ⟨(.type "tuple"), none, (.seq ⟨[]⟩ 0), ⟨[]⟩⟩
noncomputable def ob14_86 (P : Params) : Obj := ⟨.none, none, (.func (fnD 14 (Str.ofString "in_table_b1") (Str.ofString "in_table_b1") 0 .none .none .none .none none .none .none 0)), ⟨[]⟩⟩
noncomputable def ob14_87 (P : Params) : Obj := ⟨(.type "code"), none, (.fields ⟨[(.str (Str.ofString "in_table_b1") 352), (.str (Str.ofString "in_table_b1") 353), (.str (Str.ofString "/claim/cut.py") 354), (.int 94 0), (.int 1 0), (.int 0 0), (.int 0 0), (.int 3 0), (.ref 82), (.bool true), (.int 181 0), (.ref 83), .none, (.ref 84), (.ref 85), (.ref 86), (.int 356 0), (.int 94 0), (.str (Str.ofString "/claim/cut.py") 357)]⟩), ⟨[]⟩⟩
noncomputable def ob14_88 (P : Params) : Obj := ⟨(.type "function"), none, (.func (fnD 14 (Str.ofString "in_table_b1") (Str.ofString "in_table_b1") 3 .none .none .none (.str (Str.ofString "cpy313.stringprep") 290) none (.ref 87) .none 0)), ⟨[]⟩⟩
noncomputable def Tb14 (P : Params) : BT := (.node (boot_o_0 P) (.node (boot_o_1 P) (.node (ob14_3 P) (.node (boot_o_7 P) (.node (ob12_15 P) (.node (ob12_31 P) (.node (ob12_63 P) .nil .nil) .nil) (.node (ob12_47 P) (.node (ob13_79 P) .nil .nil) .nil)) (.node (ob12_23 P) (.node (ob12_39 P) (.node (ob13_71 P) .nil .nil) .nil) (.node (ob12_55 P) (.node (ob14_87 P) .nil .nil) .nil))) (.node (oa_11 P) (.node (ob12_19 P) (.node (ob12_35 P) (.node (ob12_67 P) .nil .nil) .nil) (.node (ob12_51 P) (.node (ob14_83 P) .nil .nil) .nil)) (.node (ob12_27 P) (.node (ob12_43 P) (.node (ob13_75 P) .nil .nil) .nil) (.node (ob12_59 P) .nil .nil)))) (.node (boot_o_5 P) (.node (boot_o_9 P) (.node (ob12_17 P) (.node (ob12_33 P) (.node (ob12_65 P) .nil .nil) .nil) (.node (ob12_49 P) (.node (ob13_81 P) .nil .nil) .nil)) (.node (ob12_25 P) (.node (ob12_41 P) (.node (ob13_73 P) .nil .nil) .nil) (.node (ob12_57 P) .nil .nil))) (.node (oa_13 P) (.node (ob12_21 P) (.node (ob12_37 P) (.node (ob12_69 P) .nil .nil) .nil) (.node (ob12_53 P) (.node (ob14_85 P) .nil .nil) .nil)) (.node (ob12_29 P) (.node (ob12_45 P) (.node (ob13_77 P) .nil .nil) .nil) (.node (ob12_61 P) .nil .nil))))) (.node (boot_o_2 P) (.node (boot_o_4 P) (.node (boot_o_8 P) (.node (ob12_16 P) (.node (ob12_32 P) (.node (ob12_64 P) .nil .nil) .nil) (.node (ob12_48 P) (.node (ob13_80 P) .nil .nil) .nil)) (.node (ob12_24 P) (.node (ob12_40 P) (.node (ob13_72 P) .nil .nil) .nil) (.node (ob12_56 P) (.node (ob14_88 P) .nil .nil) .nil))) (.node (ob14_12 P) (.node (ob12_20 P) (.node (ob12_36 P) (.node (ob12_68 P) .nil .nil) .nil) (.node (ob12_52 P) (.node (ob14_84 P) .nil .nil) .nil)) (.node (ob12_28 P) (.node (ob12_44 P) (.node (ob13_76 P) .nil .nil) .nil) (.node (ob12_60 P) .nil .nil)))) (.node (boot_o_6 P) (.node (boot_o_10 P) (.node (ob12_18 P) (.node (ob12_34 P) (.node (ob12_66 P) .nil .nil) .nil) (.node (ob12_50 P) (.node (ob14_82 P) .nil .nil) .nil)) (.node (ob12_26 P) (.node (ob12_42 P) (.node (ob13_74 P) .nil .nil) .nil) (.node (ob12_58 P) .nil .nil))) (.node (oa_14 P) (.node (ob12_22 P) (.node (ob12_38 P) (.node (ob12_70 P) .nil .nil) .nil) (.node (ob12_54 P) (.node (ob14_86 P) .nil .nil) .nil)) (.node (ob12_30 P) (.node (ob12_46 P) (.node (ob13_78 P) .nil .nil) .nil) (.node (ob12_62 P) .nil .nil))))))
noncomputable def sts14 : List Stmt := [st 14]
theorem g14 (w : World) (os : OsState) : segRunT treeTable pw w 11 (some (.ref 6)) 1 40 ⟨Tb13 w.params, 82, life0, #[], boot_drawn, 352, os⟩ (piecesOf sts14 env cE ⟨93, 0, 93, 6⟩ B0) = some (.next, ⟨Tb14 w.params, 89, life0, #[], boot_drawn, 359, os⟩, cE, ⟨94, 0, 95, 30⟩) := by kernel_rfl
end Mine
end PartHC

noncomputable section PartHX
theorem Mine.resetHX : True := by (w_top off); k_with_none; first | (walk1; done) | trivial
set_option maxRecDepth 100000
set_option linter.all false
namespace Mine
open PySem PySem.W
theorem fastTG : @topGo = @PySem.W.Fast.tw15667345088766844465 := PySem.W.Fast.te15667345088766844465
noncomputable abbrev tG (w : World) (n : Nat) (s : Shared) (t : Thread) := topGo treeTable pw w 11 (some (.ref 6)) n s t
noncomputable def hx (c : Int) : Int := let h : Int := c.natAbs % (2 ^ 61 - 1 : Nat); let h := if c < 0 then -h else h; if h == -1 then -2 else h
theorem hash_go0 (w : World) (c : Int) (t : Tok) (heap : Heap) (gens : Array GenState) (drawn : Drawn) (toks : Nat) (os : OsState) (p : Pos) (K : Int → Sem Fin) (H : Value → Sem Fin) (gd : Bool → Bool) (lv : List Value → List Value) :
    tG w 5 ⟨heap, gens, drawn, toks, os⟩ ⟨(pyHash (.int c t)).wrap K H gd lv, cE, p, B0⟩ = some (⟨heap, gens, drawn, toks + 1, os⟩, ⟨(pyHashByItsType.reduced (hx c)).wrap K H gd lv, cE, p, B0⟩) :=
  byRow2 "special-get-raises" (P := fun w => tG w 5 ⟨heap, gens, drawn, toks, os⟩ ⟨(pyHash (.int c t)).wrap K H gd lv, cE, p, B0⟩ = some (⟨heap, gens, drawn, toks + 1, os⟩, ⟨(pyHashByItsType.reduced (hx c)).wrap K H gd lv, cE, p, B0⟩))
    (fun w => by unfold tG; rw [fastTG, fastTab]; kernel_rfl) (fun w => by unfold tG; rw [fastTG, fastTab]; kernel_rfl) w
theorem hx_small {c : Int} (h0 : 0 ≤ c) (h1 : c < 2 ^ 60) : hx c = c := by
  have e : (c.natAbs : Int) = c := by omega
  have e2 : c % 2305843009213693951 = c := Int.emod_eq_of_lt h0 (by omega)
  unfold hx
  simp only [e, Int.natCast_emod, show ((2 ^ 61 - 1 : Nat) : Int) = 2305843009213693951 from rfl, e2]
  have : ¬ c < 0 := by omega
  simp only [this, if_false]
  have : (c == -1) = false := by simp; omega
  simp [this]
theorem reduced_small {c : Int} (h0 : 0 ≤ c) (h1 : c < 2 ^ 60) : pyHashByItsType.reduced c = pure c := by
  unfold pyHashByItsType.reduced
  have a : (decide (-(2 ^ 63 : Int) ≤ c) && decide (c < 2 ^ 63)) = true := by simp; omega
  rw [if_pos a]
  have : (c == -1) = false := by simp; omega
  simp [this]

section
variable {w : World}
theorem tG_add {n m : Nat} {s s' : Shared} {t t' : Thread} {r : Option (Shared × Thread)} (h : tG w n s t = some (s', t')) (k : tG w m s' t' = r) : tG w (n + m) s t = r := by
  induction n generalizing s t with
  | zero => unfold tG topGo at h; cases h; rw [Nat.zero_add]; exact k
  | succ n ih =>
    rw [show n + 1 + m = (n + m) + 1 by omega]
    unfold tG topGo at h ⊢
    cases ht : through t with
    | true => rw [ht] at h; cases h
    | false =>
      rw [ht] at h
      cases hk : stepOk 11 (some (.ref 6)) t with
      | false => rw [hk] at h; cases h
      | true =>
        rw [hk] at h
        cases hs : step (denote treeTable) pw w s t with
        | halt o s₂ => rw [hs] at h; cases h
        | go s₂ t₂ => rw [hs] at h; exact ih h
noncomputable def Go (w : World) {α : Type} (n : Nat) (m : Sem α) (s : Shared) (p : Pos) (a : α) (s' : Shared) (p' : Pos) : Prop :=
  ∀ (K : α → Sem Fin) (H : Value → Sem Fin) (gd : Bool → Bool) (lv : List Value → List Value), tG w n s ⟨m.wrap K H gd lv, cE, p, B0⟩ = some (s', ⟨K a, cE, p', B0⟩)
variable {α β : Type} {s s' s'' : Shared} {p p' p'' : Pos} {n n' : Nat}
theorem Go.pure {a : α} : Go w 0 (Pure.pure a) s p a s p := fun _ _ _ _ => rfl
theorem Go.bind {m : Sem α} {f : α → Sem β} {a : α} {b : β} (h1 : Go w n m s p a s' p') (h2 : Go w n' (f a) s' p' b s'' p'') : Go w (n + n') (m >>= f) s p b s'' p'' := fun K H gd lv => by
  rw [Sem.bind_eq_wrap', Sem.wrap_wrap]
  exact tG_add (h1 _ _ _ _) (h2 K H gd lv)
theorem Go.keep {m : Sem α} {a : α} (vs : List Value) (h : Go w n m s p a s' p') : Go w n (m.keep vs) s p a s' p' := fun K H gd lv => by
  rw [Sem.keep_eq_wrap, Sem.wrap_wrap]
  exact h _ _ _ _
theorem Go.holding {m : Sem α} {a : α} (vs : List Value) (h : Go w n m s p a s' p') : Go w n (holding vs m) s p a s' p' := by
  unfold PySem.holding
  split
  · exact h
  · exact h.keep _
theorem Go.onRaise {m : Sem α} {a : α} (f : Value → Sem Unit) (h : Go w n m s p a s' p') : Go w n (m.onRaise f) s p a s' p' := fun K H gd lv => by
  rw [Sem.onRaise_eq_wrap, Sem.wrap_wrap]
  exact h _ _ _ _
theorem Go.rule (t : String) : Go w 1 (PySem.rule t) s p () s p := fun K H gd lv => by obtain ⟨h, g, d, t, o⟩ := s; rfl
theorem Go.standAt (q : Pos) : Go w 1 (PySem.standAt q) s p () s q := fun K H gd lv => by obtain ⟨h, g, d, t, o⟩ := s; rfl
theorem Go.fresh : Go w 1 PySem.fresh s p s.toks { s with toks := s.toks + 1 } p := fun K H gd lv => by obtain ⟨h, g, d, t, o⟩ := s; rfl
theorem Go.alloc (o : Obj) : Go w 1 (PySem.alloc o) s p s.heap.objs.size { s with heap := s.heap.push o } p := fun K H gd lv => by obtain ⟨h, g, d, t, os⟩ := s; rfl
theorem Go.load {a : Addr} (part : Option Value) {o : Obj} (ho : s.heap.get? a = some o) : Go w 1 (PySem.loadPart a part) s p o s p := fun K H gd lv => by
  obtain ⟨h, g, d, t, os⟩ := s
  show (match (match h.get? a with | some o => Step.go ⟨h, g, d, t, os⟩ ⟨K o, cE, p, B0⟩ | none => _) with | .go s' t' => some (s', t') | .halt _ _ => none) = _
  rw [show h.get? a = some o from ho]
theorem Go.upd {a : Addr} (part : Option Value) (f : Obj → Obj) (ho : (s.heap.get? a).isSome = true) (ha : Nat.ble 11 a = true) : Go w 1 (PySem.updatePart a part f) s p () { s with heap := s.heap.update a f } p := fun K H gd lv => by
  obtain ⟨h, g, d, t, os⟩ := s
  have hk : stepOk 11 (some (.ref 6)) ⟨(PySem.updatePart a part f).wrap K H gd lv, cE, p, B0⟩ = true := by
    show (true && (Nat.ble 11 a || a == mainNs || a == cStatics || _)) = true
    rw [ha]; rfl
  unfold tG topGo
  rw [show through ⟨(PySem.updatePart a part f).wrap K H gd lv, cE, p, B0⟩ = false from rfl, hk]
  show (match (if (h.get? a).isSome then Step.go ⟨h.update a f, g, d, t, os⟩ ⟨K (), cE, p, B0⟩ else _) with | .go s' t' => some (s', t') | .halt _ _ => none) = _
  rw [if_pos ho]
theorem Go.hash {c : Int} {t : Tok} (h0 : 0 ≤ c) (h1 : c < 2 ^ 60) : Go w 5 (pyHash (.int c t)) s p c { s with toks := s.toks + 1 } p := fun K H gd lv => by
  obtain ⟨h, g, d, t, os⟩ := s
  rw [hash_go0, hx_small h0 h1, reduced_small h0 h1]
  rfl
end
end Mine
end PartHX

noncomputable section PartHY
theorem Mine.resetHY : True := by (w_top off); k_with_none; first | (walk1; done) | trivial
set_option maxRecDepth 100000
set_option linter.all false
namespace Mine
open PySem PySem.W
noncomputable abbrev dO (es : List DictEntry) (n : Nat) : Obj := { cls := .type "dict", data := .dict ⟨es⟩ n }
theorem places_nil {es : List DictEntry} {h : Int} (hf : ∀ e ∈ es, e.hash ≠ h) : placesWithHash es.length (fun i => (es[i]?).map (·.hash)) h = [] := by
  unfold placesWithHash
  rw [List.filter_eq_nil_iff]
  intro i hi
  have hi := List.mem_range.mp hi
  have hm := hf es[i] (List.getElem_mem hi)
  simp [hi, hm]
section
variable {w : World} {s : Shared} {p : Pos} {d : Addr} {es : List DictEntry} {n : Nat}
theorem Go.entries (part : Option Value) (hd : s.heap.get? d = some (dO es n)) : Go w 1 (dictEntries d part) s p ⟨es⟩ s p :=
  Go.bind (n' := 0) (Go.load part hd) Go.pure
theorem Go.epoch (part : Option Value) (hd : s.heap.get? d = some (dO es n)) : Go w 1 (dictEpoch d part) s p n s p :=
  Go.bind (n' := 0) (Go.load part hd) Go.pure
theorem Go.find {c : Int} {t : Tok} {h : Int} (hd : s.heap.get? d = some (dO es n)) (hf : ∀ e ∈ es, e.hash ≠ h) : Go w 1 (dictFind d (.int c t) h) s p none s p := by
  unfold dictFind
  refine Go.holding _ (Go.bind (n' := 0) (Go.entries _ hd) ?_)
  have pl : placesWithHash (Array.size ⟨es⟩) (fun i => ((⟨es⟩ : Array DictEntry)[i]?).map (·.hash)) h = [] := by
    have := places_nil hf
    simpa using this
  dsimp only
  rw [pl]
  exact Go.pure
theorem Go.updKeys (part : Option Value) (f : Array DictEntry → Array DictEntry) (hd : s.heap.get? d = some (dO es n)) (ha : Nat.ble 11 d = true) (hz : (f ⟨es⟩).size ≤ sizeLine + 1) (h1 : (s.heap.update d (Obj.mapDictKeys f)).get? d = some (dO (f ⟨es⟩).toList (n + 1))) :
    Go w 3 (updateDictKeys d f part) s p () { s with heap := s.heap.update d (Obj.mapDictKeys f) } p := by
  unfold updateDictKeys
  refine Go.bind (n := 1) (n' := 2) (Go.load part hd) ?_
  refine Go.bind (n := 1) (n' := 1) (Go.upd part _ (by rw [hd]; rfl) ha) ?_
  unfold lookBehind
  refine Go.bind (n := 1) (n' := 0) (Go.load part h1) ?_
  have : (dO (f ⟨es⟩).toList (n + 1)).data.pastItsLine = none := by
    show (if (Array.size ⟨(f ⟨es⟩).toList⟩ > sizeLine + 1) then some "dict:memory" else none) = none
    rw [if_neg (by simpa using hz)]
  rw [this]
  exact Go.pure
end

/-! heaps: an object set, an object pushed -/
noncomputable abbrev setO (h : Heap) (d : Addr) (o : Obj) : Heap := h.update d fun _ => o
theorem heap_ext {h h' : Heap} (hl : h.life = h'.life) (e : ∀ i : Nat, h.objs[i]? = h'.objs[i]?) : h = h' := by
  obtain ⟨a, l⟩ := h; obtain ⟨b, l'⟩ := h'
  have : a = b := Array.ext_getElem? e
  subst this; cases hl; rfl
theorem upd_at (h : Heap) (d : Addr) (f : Obj → Obj) (i : Nat) : (h.update d f).objs[i]? = if d = i then (h.objs[i]?).map f else h.objs[i]? := by
  obtain ⟨a, l⟩ := h
  show (a.modify d f)[i]? = _
  rw [Array.getElem?_modify]
theorem upd_life (h : Heap) (d : Addr) (f : Obj → Obj) : (h.update d f).life = h.life := by cases h; rfl
theorem push_life (h : Heap) (o : Obj) : (h.push o).life = h.life := by cases h; rfl
theorem push_at (h : Heap) (o : Obj) (i : Nat) : (h.push o).objs[i]? = if i = h.objs.size then some o else h.objs[i]? := by
  obtain ⟨a, l⟩ := h
  exact Array.getElem?_push
theorem upd_set {h : Heap} {d : Addr} {o : Obj} (f : Obj → Obj) (hd : h.get? d = some o) : h.update d f = setO h d (f o) := by
  have e := (Heap.get?_some_iff.mp hd).1
  refine heap_ext (by rw [upd_life, upd_life]) fun i => ?_
  rw [upd_at, upd_at]
  by_cases q : d = i
  · subst q; rw [if_pos rfl, if_pos rfl, e]; rfl
  · rw [if_neg q, if_neg q]
theorem set_set (h : Heap) (d : Addr) (o o' : Obj) : setO (setO h d o) d o' = setO h d o' := by
  refine heap_ext (by rw [upd_life, upd_life, upd_life]) fun i => ?_
  rw [upd_at, upd_at, upd_at]
  by_cases q : d = i
  · subst q; simp only [if_true, Option.map_map]; rfl
  · simp only [if_neg q]
theorem set_push (h : Heap) (o o' : Obj) : setO (h.push o) h.objs.size o' = h.push o' := by
  refine heap_ext (by rw [upd_life, push_life, push_life]) fun i => ?_
  rw [upd_at, push_at, push_at]
  by_cases q : h.objs.size = i
  · subst q; simp
  · rw [if_neg q, if_neg (Ne.symm q), if_neg (Ne.symm q)]
theorem push_set {h : Heap} {d : Addr} (x o' : Obj) (hd : d < h.objs.size) : setO (h.push x) d o' = (setO h d o').push x := by
  refine heap_ext (by rw [upd_life, push_life, push_life, upd_life]) fun i => ?_
  rw [upd_at, push_at, push_at, upd_at, Heap.size_after_update]
  by_cases q : d = i
  · subst q
    have : d ≠ h.objs.size := Nat.ne_of_lt hd
    simp [this]
  · simp [q]
theorem get_setO {h : Heap} {d : Addr} {o : Obj} (o' : Obj) (hd : h.get? d = some o) (hf : o'.isFreed = false) : (setO h d o').get? d = some o' := Heap.get?_update_self _ hd hf
theorem get_setO_ne (h : Heap) {d a : Addr} (o' : Obj) (q : d ≠ a) : (setO h d o').get? a = h.get? a := Heap.get?_update_other h _ q

noncomputable def mkE : List (Int × Str) → Nat → List DictEntry
  | [], _ => []
  | (c, x) :: r, b => ⟨c, .int c b, .str x (b + 1)⟩ :: mkE r (b + 3)
theorem mkE_length : ∀ (l : List (Int × Str)) (b : Nat), (mkE l b).length = l.length
  | [], _ => rfl
  | (c, x) :: r, b => by rw [mkE, List.length_cons, List.length_cons, mkE_length r]
section
variable {w : World} {p q : Pos} {d : Addr} {es : List DictEntry} {n : Nat}
noncomputable def keyT (c : Int) : Sem Value := mkInt c
noncomputable def valT (q : Pos) (x : Str) : Sem Value := do let v ← mkText x; standAt q; pure v
noncomputable def trip (q : Pos) (l : List (Int × Str)) : List (Sem Value × Sem Value) := l.map fun y => (keyT y.1, valT q y.2)
variable {h : Heap} {g : Array GenState} {dr : Drawn} {t : Nat} {os : OsState}
theorem go_key (c : Int) : Go w 1 (keyT c) ⟨h, g, dr, t, os⟩ p (.int c t) ⟨h, g, dr, t + 1, os⟩ p := Go.bind (n := 1) (n' := 0) Go.fresh Go.pure
theorem go_val (x : Str) : Go w 2 (valT q x) ⟨h, g, dr, t, os⟩ p (.str x t) ⟨h, g, dr, t + 1, os⟩ q :=
  Go.bind (n := 1) (n' := 1) (s' := ⟨h, g, dr, t + 1, os⟩) (p' := p) (a := .str x t) (Go.bind (n := 1) (n' := 0) Go.fresh Go.pure) (Go.bind (n := 1) (n' := 0) (Go.standAt q) Go.pure)
theorem go_push {c : Int} {tk : Tok} {hh : Int} {v : Value} (part : Option Value) (hd : h.get? d = some (dO es n)) (ha : Nat.ble 11 d = true) (hz : es.length ≤ 10000) :
    Go w 3 (updateDictKeys d (·.push ⟨hh, .int c tk, v⟩) part) ⟨h, g, dr, t, os⟩ p () ⟨setO h d (dO (es ++ [⟨hh, .int c tk, v⟩]) (n + 1)), g, dr, t, os⟩ p := by
  have e : h.update d (Obj.mapDictKeys (·.push ⟨hh, .int c tk, v⟩)) = setO h d (dO (es ++ [⟨hh, .int c tk, v⟩]) (n + 1)) := by
    rw [upd_set _ hd]
    have : Obj.mapDictKeys (·.push ⟨hh, .int c tk, v⟩) (dO es n) = dO (es ++ [⟨hh, .int c tk, v⟩]) (n + 1) := by
      show Obj.mk _ _ (.dict ((⟨es⟩ : Array DictEntry).push _) (n + 1)) _ = _
      rw [List.push_toArray]
    rw [this]
  rw [← e]
  refine Go.updKeys part _ hd ha ?_ ?_
  · rw [List.push_toArray]
    have : sizeLine = 16777216 := by decide
    simp only [List.size_toArray, List.length_append, List.length_cons, List.length_nil]
    omega
  · rw [e, List.push_toArray]
    exact get_setO _ hd rfl
theorem go_dictSet {c : Int} {tk : Tok} {v : Value} (hd : h.get? d = some (dO es n)) (ha : Nat.ble 11 d = true) (hz : es.length ≤ 10000) (h0 : 0 ≤ c) (h1 : c < 2 ^ 60) (hf : ∀ e ∈ es, e.hash ≠ c) :
    Go w 10 (dictSet d (.int c tk) v) ⟨h, g, dr, t, os⟩ p () ⟨setO h d (dO (es ++ [⟨c, .int c tk, v⟩]) (n + 1)), g, dr, t + 1, os⟩ p := by
  unfold dictSet
  refine Go.holding _ (Go.bind (n := 5) (n' := 5) (s' := ⟨h, g, dr, t + 1, os⟩) (Go.hash h0 h1) ?_)
  unfold dictSetHashed
  refine Go.holding _ (Go.bind (n := 1) (n' := 4) (Go.find hd hf) ?_)
  exact Go.bind (n := 1) (n' := 3) (Go.rule _) (go_push _ hd ha hz)
theorem go_subLoop (L : Heap) : ∀ (l : List (Int × Str)) (es : List DictEntry) (n t : Nat), Nat.ble 11 L.objs.size = true → es.length + l.length ≤ 10000 → (∀ y ∈ l, 0 ≤ y.1 ∧ y.1 < 2 ^ 60) →
    (∀ e ∈ es, ∀ y ∈ l, e.hash ≠ y.1) → l.Pairwise (fun a b => a.1 ≠ b.1) →
    Go w (13 * l.length) (forIn (trip q l) PUnit.unit fun (x : Sem Value × Sem Value) (_ : PUnit) => (do
        let kv ← x.1
        let vv ← holding [kv] x.2
        holding [kv, vv] (dictSet L.objs.size kv vv)
        pure (ForInStep.yield PUnit.unit) : Sem (ForInStep PUnit))) ⟨L.push (dO es n), g, dr, t, os⟩ q PUnit.unit ⟨L.push (dO (es ++ mkE l t) (n + l.length)), g, dr, t + 3 * l.length, os⟩ q
  | [], es, n, t, _, _, _, _, _ => by
    show Go w 0 _ _ _ _ _ _
    rw [mkE, List.append_nil]
    exact Go.pure
  | (c, x) :: r, es, n, t, hb, hz, hy, hne, hp => by
    obtain ⟨hp1, hp2⟩ := List.pairwise_cons.mp hp
    obtain ⟨h0, h1⟩ := hy (c, x) (.head _)
    rw [List.length_cons] at hz
    have ih := go_subLoop L r (es ++ [⟨c, .int c t, .str x (t + 1)⟩]) (n + 1) (t + 3) hb (by rw [List.length_append, List.length_singleton]; omega) (fun y m => hy y (.tail _ m))
      (fun e he y m => by
        rcases List.mem_append.mp he with he | he
        · exact hne e he y (.tail _ m)
        · rw [List.mem_singleton.mp he]; exact hp1 y m) hp2
    have e2 : es ++ mkE ((c, x) :: r) t = es ++ [⟨c, .int c t, .str x (t + 1)⟩] ++ mkE r (t + 3) := by rw [mkE, List.append_assoc]; rfl
    rw [e2, List.length_cons, show n + (r.length + 1) = n + 1 + r.length by omega, show t + 3 * (r.length + 1) = t + 3 + 3 * r.length by omega, show 13 * (r.length + 1) = 13 + 13 * r.length by omega]
    show Go w _ (forIn ((keyT c, valT q x) :: trip q r) PUnit.unit _) _ _ _ _ _
    rw [List.forIn_cons]
    have hd : (L.push (dO es n)).get? L.objs.size = some (dO es n) := Heap.get?_push_size _ rfl
    refine Go.bind (n := 13) (n' := 13 * r.length) (a := ForInStep.yield PUnit.unit) (s' := ⟨L.push (dO (es ++ [⟨c, .int c t, .str x (t + 1)⟩]) (n + 1)), g, dr, t + 3, os⟩) (p' := q) ?_ ih
    refine Go.bind (n := 1) (n' := 12) (go_key c) ?_
    refine Go.bind (n := 2) (n' := 10) (Go.holding _ (go_val x)) ?_
    refine Go.bind (n := 10) (n' := 0) (Go.holding _ (go_dictSet hd hb (by omega) h0 h1 (fun e he => hne e he (c, x) (.head _)))) ?_
    rw [set_push]
    exact Go.pure
theorem go_subDict (L : Heap) (l : List (Int × Str)) (hb : Nat.ble 11 L.objs.size = true) (hl : 15 < l.length) (hz : l.length ≤ 10000) (hy : ∀ y ∈ l, 0 ≤ y.1 ∧ y.1 < 2 ^ 60) (hp : l.Pairwise (fun a b => a.1 ≠ b.1)) :
    Go w (2 + 13 * l.length) (subDict (trip q l)) ⟨L, g, dr, t, os⟩ q L.objs.size ⟨L.push (dO (mkE l t) l.length), g, dr, t + 3 * l.length, os⟩ q := by
  have e : (trip q l).length = l.length := List.length_map _
  unfold subDict
  rw [show 2 + 13 * l.length = 1 + (1 + 13 * l.length) by omega]
  refine Go.bind (n := 1) (Go.alloc _) ?_
  refine Go.bind (n := 1 + 13 * l.length) (n' := 0) (a := ()) (s' := ⟨L.push (dO (mkE l t) l.length), g, dr, t + 3 * l.length, os⟩) (p' := q) ?_ Go.pure
  refine Go.holding _ ?_
  rw [if_neg (by omega)]
  refine Go.bind (n := 1) (Go.rule _) ?_
  have := go_subLoop (w := w) (q := q) (g := g) (dr := dr) (os := os) L l [] 0 t hb (by simpa using hz) hy (fun e he => nomatch he) hp
  rw [List.nil_append, Nat.zero_add] at this
  exact Go.bind (n := 13 * l.length) (n' := 0) this Go.pure
end
end Mine
end PartHY

noncomputable section PartHZ
theorem Mine.resetHZ : True := by (w_top off); k_with_none; first | (walk1; done) | trivial
set_option maxRecDepth 100000
set_option linter.all false
namespace Mine
open PySem PySem.W
theorem isSub_dict : isSubtype (.type "dict") (.type "dict") = pure true := by kernel_rfl
theorem look_iter : typeLookup (.type "dict") (Str.ofString "__iter__") = pure (some (.builtin "dict.__iter__")) := by kernel_rfl
section
variable {w : World} {p q : Pos} {d a : Addr} {es es' : List DictEntry} {m n : Nat}
variable {h : Heap} {g : Array GenState} {dr : Drawn} {t : Nat} {os : OsState}
noncomputable def IntKey (e : DictEntry) : Prop := ∃ c tk, e.key = .int c tk
theorem go_put {e : DictEntry} (hk : IntKey e) (hd : h.get? d = some (dO es n)) (ha : Nat.ble 11 d = true) (hz : es.length ≤ 10000) (hf : ∀ x ∈ es, x.hash ≠ e.hash) :
    Go w 4 (dictPut d e.hash e.key e.val) ⟨h, g, dr, t, os⟩ p () ⟨setO h d (dO (es ++ [e]) (n + 1)), g, dr, t, os⟩ p := by
  obtain ⟨hh, k, v⟩ := e
  obtain ⟨c, tk, rfl⟩ := hk
  unfold dictPut
  exact Go.bind (n := 1) (n' := 3) (Go.find hd hf) (go_push _ hd ha hz)
noncomputable abbrev mBody (d a : Addr) (epoch : Nat) : Nat → PUnit → Sem (ForInStep PUnit) := fun i _ => do
  match (← dictEntries a)[i]? with
  | some e => do
    holding [e.key, e.val] (dictPut d e.hash e.key e.val)
    if ((← dictEpoch a) != epoch) = true then do
        unsupported "dict.changed-during-merge"
        pure (ForInStep.yield PUnit.unit)
      else pure (ForInStep.yield PUnit.unit)
  | x => do
    unsupported "dict.changed-during-merge"
    pure (ForInStep.yield PUnit.unit)
theorem go_mergeLoop (hne : d ≠ a) (hb : Nat.ble 11 d = true) (hkeys : ∀ e ∈ es', IntKey e) (hp : es'.Pairwise (fun x y => x.hash ≠ y.hash)) :
    ∀ (k i : Nat) (es : List DictEntry) (m : Nat) (h : Heap), i + k = es'.length → es.length + k ≤ 10000 → h.get? d = some (dO es m) → h.get? a = some (dO es' n) → (∀ x ∈ es, ∀ y ∈ es'.drop i, x.hash ≠ y.hash) →
    Go w (6 * k) (forIn (List.range' i k) PUnit.unit (mBody d a n)) ⟨h, g, dr, t, os⟩ p PUnit.unit ⟨if k = 0 then h else setO h d (dO (es ++ es'.drop i) (m + k)), g, dr, t, os⟩ p
  | 0, i, es, m, h, _, _, _, _, _ => by
    rw [if_pos rfl]
    show Go w 0 _ _ _ _ _ _
    exact Go.pure
  | k + 1, i, es, m, h, hi, hz, hd, hA, hx => by
    have hlt : i < es'.length := by omega
    have hdrop : es'.drop i = es'[i] :: es'.drop (i + 1) := List.drop_eq_getElem_cons hlt
    have hmem : es'[i] ∈ es' := List.getElem_mem hlt
    have hfi : ∀ x ∈ es, x.hash ≠ es'[i].hash := fun x hxm => hx x hxm _ (by rw [hdrop]; exact .head _)
    have hd1 : (setO h d (dO (es ++ [es'[i]]) (m + 1))).get? d = some (dO (es ++ [es'[i]]) (m + 1)) := get_setO _ hd rfl
    have hA1 : (setO h d (dO (es ++ [es'[i]]) (m + 1))).get? a = some (dO es' n) := (get_setO_ne h _ hne).trans hA
    have hpw : ∀ y ∈ es'.drop (i + 1), es'[i].hash ≠ y.hash := by
      have := List.Pairwise.drop (i := i) hp
      rw [hdrop] at this
      exact (List.pairwise_cons.mp this).1
    have ih := go_mergeLoop hne hb hkeys hp k (i + 1) (es ++ [es'[i]]) (m + 1) _ (by omega) (by rw [List.length_append, List.length_singleton]; omega) hd1 hA1 (fun x hxm y hy => by
      rcases List.mem_append.mp hxm with hxm | hxm
      · exact hx x hxm y (by rw [hdrop]; exact .tail _ hy)
      · rw [List.mem_singleton.mp hxm]; exact hpw y hy)
    rw [List.range'_succ, List.forIn_cons, if_neg (Nat.succ_ne_zero k)]
    have efin : (if k = 0 then setO h d (dO (es ++ [es'[i]]) (m + 1)) else setO (setO h d (dO (es ++ [es'[i]]) (m + 1))) d (dO (es ++ [es'[i]] ++ es'.drop (i + 1)) (m + 1 + k))) = setO h d (dO (es ++ es'.drop i) (m + (k + 1))) := by
      by_cases hk : k = 0
      · subst hk
        rw [if_pos rfl, hdrop]
        have : es'.drop (i + 1) = [] := List.drop_eq_nil_of_le (by omega)
        rw [this]
      · rw [if_neg hk, set_set, hdrop, List.append_assoc, show m + 1 + k = m + (k + 1) by omega]; rfl
    rw [efin] at ih
    rw [show 6 * (k + 1) = 6 + 6 * k by omega]
    refine Go.bind (n := 6) (n' := 6 * k) (a := ForInStep.yield PUnit.unit) ?_ ih
    refine Go.bind (n := 1) (n' := 5) (Go.entries _ hA) ?_
    have hget : (⟨es'⟩ : Array DictEntry)[i]? = some es'[i] := by simp [hlt]
    rw [hget]
    refine Go.bind (n := 4) (n' := 1) (Go.holding _ (go_put (hkeys _ hmem) hd hb (by omega) hfi)) ?_
    refine Go.bind (n := 1) (n' := 0) (Go.epoch _ hA1) ?_
    rw [if_neg (by simp)]
    exact Go.pure
theorem go_merge (hne : d ≠ a) (hsys : (a == sysModules) = false) (hb : Nat.ble 11 d = true) (hd : h.get? d = some (dO es m)) (hA : h.get? a = some (dO es' n)) (hes : es ≠ []) (hz : es.length + es'.length ≤ 10000)
    (hkeys : ∀ e ∈ es', IntKey e) (hp : es'.Pairwise (fun x y => x.hash ≠ y.hash)) (hx : ∀ x ∈ es, ∀ y ∈ es', x.hash ≠ y.hash) (hn : es' ≠ []) :
    Go w (5 + 6 * es'.length) (mergeMapping d (.ref a) false) ⟨h, g, dr, t, os⟩ p () ⟨setO h d (dO (es ++ es') (m + es'.length)), g, dr, t, os⟩ p := by
  unfold mergeMapping
  rw [show 5 + 6 * es'.length = 1 + (4 + 6 * es'.length) by omega]
  have i1 : Go w 1 (isInstance (.ref a) (.type "dict")) ⟨h, g, dr, t, os⟩ p true ⟨h, g, dr, t, os⟩ p := by
    unfold isInstance
    refine Go.bind (n := 1) (n' := 0) (a := .type "dict") (Go.bind (n := 1) (n' := 0) (Go.load _ hA) Go.pure) ?_
    rw [isSub_dict]; exact Go.pure
  refine Go.bind (n := 1) i1 ?_
  rw [if_pos rfl]
  have i2 : Go w 1 (specialOf (.ref a) (Str.ofString "__iter__")) ⟨h, g, dr, t, os⟩ p (some (.builtin "dict.__iter__")) ⟨h, g, dr, t, os⟩ p := by
    unfold specialOf
    refine Go.bind (n := 1) (n' := 0) (a := .type "dict") (Go.bind (n := 1) (n' := 0) (Go.load _ hA) Go.pure) ?_
    rw [look_iter]; exact Go.pure
  rw [show 4 + 6 * es'.length = 1 + (3 + 6 * es'.length) by omega]
  refine Go.bind (n := 1) i2 ?_
  rw [show 3 + 6 * es'.length = 0 + (3 + 6 * es'.length) by omega]
  refine Go.bind (n := 0) (a := true) (by simpa using Go.pure) ?_
  dsimp only
  rw [if_neg (by rw [hsys]; exact Bool.false_ne_true)]
  rw [show 3 + 6 * es'.length = 1 + (2 + 6 * es'.length) by omega]
  refine Go.bind (n := 1) (Go.entries _ hd) ?_
  rw [if_neg (by simpa using hes)]
  rw [show 2 + 6 * es'.length = 1 + (1 + 6 * es'.length) by omega]
  refine Go.bind (n := 1) (Go.entries _ hA) ?_
  refine Go.bind (n := 1) (Go.epoch _ hA) ?_
  have L := go_mergeLoop (w := w) (g := g) (dr := dr) (t := t) (os := os) (p := p) (n := n) hne hb hkeys hp es'.length 0 es m h (by omega) hz hd hA (by simpa using hx)
  rw [if_neg (by intro e; exact hn (List.length_eq_zero_iff.mp e)), List.drop_zero] at L
  rw [List.range_eq_range']
  exact Go.bind (n := 6 * es'.length) (n' := 0) (a := PUnit.unit) L Go.pure
end
end Mine
end PartHZ

noncomputable section PartHW
theorem Mine.resetHW : True := by (w_top off); k_with_none; first | (walk1; done) | trivial
set_option maxRecDepth 100000
set_option linter.all false
namespace Mine
open PySem PySem.W
noncomputable def mkE2 : List (Int × Str) → Nat → List DictEntry
  | [], _ => []
  | (c, x) :: r, b => ⟨c, .int c b, .str x (b + 1)⟩ :: mkE2 r (b + 2)
noncomputable def mkV2 : List (Int × Str) → Nat → List (Value × Value)
  | [], _ => []
  | (c, x) :: r, b => (.int c b, .str x (b + 1)) :: mkV2 r (b + 2)
theorem mkE_mem : ∀ {l : List (Int × Str)} {b : Nat} {e : DictEntry}, e ∈ mkE l b → IntKey e ∧ ∃ y ∈ l, e.hash = y.1
  | [], _, _, h => by rw [mkE] at h; exact absurd h List.not_mem_nil
  | (c, x) :: r, b, e, h => by
    rw [mkE] at h
    rcases List.mem_cons.mp h with rfl | h
    · exact ⟨⟨_, _, rfl⟩, (c, x), .head _, rfl⟩
    · obtain ⟨h1, y, hy, h2⟩ := mkE_mem h
      exact ⟨h1, y, .tail _ hy, h2⟩
theorem mkE2_mem : ∀ {l : List (Int × Str)} {b : Nat} {e : DictEntry}, e ∈ mkE2 l b → IntKey e ∧ ∃ y ∈ l, e.hash = y.1
  | [], _, _, h => by rw [mkE2] at h; exact absurd h List.not_mem_nil
  | (c, x) :: r, b, e, h => by
    rw [mkE2] at h
    rcases List.mem_cons.mp h with rfl | h
    · exact ⟨⟨_, _, rfl⟩, (c, x), .head _, rfl⟩
    · obtain ⟨h1, y, hy, h2⟩ := mkE2_mem h
      exact ⟨h1, y, .tail _ hy, h2⟩
theorem mkE_pair : ∀ {l : List (Int × Str)} {b : Nat}, l.Pairwise (fun a b => a.1 ≠ b.1) → (mkE l b).Pairwise (fun x y => x.hash ≠ y.hash)
  | [], _, _ => by rw [mkE]; exact .nil
  | (c, x) :: r, b, h => by
    obtain ⟨h1, h2⟩ := List.pairwise_cons.mp h
    rw [mkE]
    refine .cons (fun e he => ?_) (mkE_pair h2)
    obtain ⟨_, y, hy, e2⟩ := mkE_mem he
    rw [e2]; exact h1 y hy
theorem mkE2_pair : ∀ {l : List (Int × Str)} {b : Nat}, l.Pairwise (fun a b => a.1 ≠ b.1) → (mkE2 l b).Pairwise (fun x y => x.hash ≠ y.hash)
  | [], _, _ => by rw [mkE2]; exact .nil
  | (c, x) :: r, b, h => by
    obtain ⟨h1, h2⟩ := List.pairwise_cons.mp h
    rw [mkE2]
    refine .cons (fun e he => ?_) (mkE2_pair h2)
    obtain ⟨_, y, hy, e2⟩ := mkE2_mem he
    rw [e2]; exact h1 y hy
theorem mkE2_length : ∀ (l : List (Int × Str)) (b : Nat), (mkE2 l b).length = l.length
  | [], _ => rfl
  | (c, x) :: r, b => by rw [mkE2, List.length_cons, List.length_cons, mkE2_length r]
section
variable {w : World} {p q : Pos} {d a : Addr} {es es' : List DictEntry} {m n : Nat}
variable {h : Heap} {g : Array GenState} {dr : Drawn} {t : Nat} {os : OsState}
theorem go_evalPairs : ∀ (l : List (Int × Str)) (t : Nat), Go w (3 * l.length) (evalPairs (trip q l)) ⟨h, g, dr, t, os⟩ q (mkV2 l t) ⟨h, g, dr, t + 2 * l.length, os⟩ q
  | [], t => Go.pure
  | (c, x) :: r, t => by
    have ih := go_evalPairs r (t + 2)
    rw [List.length_cons, show 3 * (r.length + 1) = 1 + (2 + (3 * r.length + 0)) by omega, show t + 2 * (r.length + 1) = t + 2 + 2 * r.length by omega]
    show Go w _ (evalPairs ((keyT c, valT q x) :: trip q r)) _ _ _ _ _
    unfold evalPairs
    refine Go.bind (n := 1) (go_key c) ?_
    refine Go.bind (n := 2) (Go.holding _ (go_val x)) ?_
    exact Go.bind (n := 3 * r.length) (n' := 0) (Go.holding _ ih) Go.pure
theorem go_setLoop (L : Heap) : ∀ (l : List (Int × Str)) (b : Nat) (es : List DictEntry) (n t : Nat), Nat.ble 11 L.objs.size = true → es.length + l.length ≤ 10000 → (∀ y ∈ l, 0 ≤ y.1 ∧ y.1 < 2 ^ 60) →
    (∀ e ∈ es, ∀ y ∈ l, e.hash ≠ y.1) → l.Pairwise (fun a b => a.1 ≠ b.1) →
    Go w (10 * l.length) (forIn (mkV2 l b) PUnit.unit fun (x : Value × Value) (_ : PUnit) => (do
        dictSet L.objs.size x.1 x.2
        pure (ForInStep.yield PUnit.unit) : Sem (ForInStep PUnit))) ⟨L.push (dO es n), g, dr, t, os⟩ q PUnit.unit ⟨L.push (dO (es ++ mkE2 l b) (n + l.length)), g, dr, t + l.length, os⟩ q
  | [], b, es, n, t, _, _, _, _, _ => by
    show Go w 0 _ _ _ _ _ _
    rw [mkE2, List.append_nil]
    exact Go.pure
  | (c, x) :: r, b, es, n, t, hb, hz, hy, hne, hp => by
    obtain ⟨hp1, hp2⟩ := List.pairwise_cons.mp hp
    obtain ⟨h0, h1⟩ := hy (c, x) (.head _)
    rw [List.length_cons] at hz
    have ih := go_setLoop L r (b + 2) (es ++ [⟨c, .int c b, .str x (b + 1)⟩]) (n + 1) (t + 1) hb (by rw [List.length_append, List.length_singleton]; omega) (fun y m => hy y (.tail _ m))
      (fun e he y m => by
        rcases List.mem_append.mp he with he | he
        · exact hne e he y (.tail _ m)
        · rw [List.mem_singleton.mp he]; exact hp1 y m) hp2
    have e2 : es ++ mkE2 ((c, x) :: r) b = es ++ [⟨c, .int c b, .str x (b + 1)⟩] ++ mkE2 r (b + 2) := by rw [mkE2, List.append_assoc]; rfl
    rw [e2, List.length_cons, show n + (r.length + 1) = n + 1 + r.length by omega, show t + (r.length + 1) = t + 1 + r.length by omega, show 10 * (r.length + 1) = 10 + 10 * r.length by omega]
    show Go w _ (forIn ((Value.int c b, Value.str x (b + 1)) :: mkV2 r (b + 2)) PUnit.unit _) _ _ _ _ _
    rw [List.forIn_cons]
    have hd : (L.push (dO es n)).get? L.objs.size = some (dO es n) := Heap.get?_push_size _ rfl
    refine Go.bind (n := 10) (n' := 10 * r.length) (a := ForInStep.yield PUnit.unit) (s' := ⟨L.push (dO (es ++ [⟨c, .int c b, .str x (b + 1)⟩]) (n + 1)), g, dr, t + 1, os⟩) (p' := q) ?_ ih
    refine Go.bind (n := 10) (n' := 0) (go_dictSet hd hb (by omega) h0 h1 (fun e he => hne e he (c, x) (.head _))) ?_
    rw [set_push]
    exact Go.pure
theorem go_subDict2 (L : Heap) (l : List (Int × Str)) (hb : Nat.ble 11 L.objs.size = true) (hl : l.length ≤ 15) (hy : ∀ y ∈ l, 0 ≤ y.1 ∧ y.1 < 2 ^ 60) (hp : l.Pairwise (fun a b => a.1 ≠ b.1)) :
    Go w (1 + 13 * l.length) (subDict (trip q l)) ⟨L, g, dr, t, os⟩ q L.objs.size ⟨L.push (dO (mkE2 l t) l.length), g, dr, t + 3 * l.length, os⟩ q := by
  have e : (trip q l).length = l.length := List.length_map _
  unfold subDict
  refine Go.bind (n := 1) (Go.alloc _) ?_
  refine Go.bind (n := 13 * l.length) (n' := 0) (a := ()) (s' := ⟨L.push (dO (mkE2 l t) l.length), g, dr, t + 3 * l.length, os⟩) (p' := q) ?_ Go.pure
  refine Go.holding _ ?_
  rw [if_pos (by omega), show 13 * l.length = 3 * l.length + 10 * l.length by omega]
  refine Go.bind (n := 3 * l.length) (go_evalPairs l t) ?_
  refine Go.holding _ ?_
  have := go_setLoop (w := w) (q := q) (g := g) (dr := dr) (os := os) L l t [] 0 (t + 2 * l.length) hb (by simp; omega) hy (fun e he => nomatch he) hp
  rw [List.nil_append, Nat.zero_add, show t + 2 * l.length + l.length = t + 3 * l.length by omega] at this
  exact Go.bind (n := 10 * l.length) (n' := 0) this Go.pure

noncomputable def dFlush (run : List (Sem Value × Sem Value)) (main : Option Addr) : Sem (Option Addr) :=
  if run.isEmpty = true then pure main
  else match main with
    | none => do
      let x ← subDict run
      pure (some x)
    | some d => do
      let sub ← holding [Value.ref d] (subDict run)
      (holding [Value.ref d, Value.ref sub] (mergeMapping d (Value.ref sub) false)).onRaise fun x => do
          let _ ← holding [Value.ref d, x] (runValue (Code.builtin "proto.let_go" { }))
          pure ()
      pure (some d)
noncomputable def ditem (q : Pos) (y : Int × Str) : Option (Sem Value) × Sem Value := (some (keyT y.1), valT q y.2)
noncomputable abbrev DF := Option (Sem Value) × Sem Value → Option Addr × List (Sem Value × Sem Value) → Sem (ForInStep (Option Addr × List (Sem Value × Sem Value)))
noncomputable def DBody (F : DF) : Prop := ∀ k v main run, F (some k, v) (main, run) = if ((run ++ [(k, v)]).length == 17) = true then (do
      let main ← dFlush (run ++ [(k, v)]) main
      pure (ForInStep.yield (main, []))) else pure (ForInStep.yield (main, run ++ [(k, v)]))
theorem acc_eq {F : DF} (hF : DBody F) : ∀ (l : List (Int × Str)) (rest : List (Option (Sem Value) × Sem Value)) (main : Option Addr) (run : List (Sem Value × Sem Value)), run.length + l.length < 17 →
    forIn (l.map (ditem q) ++ rest) (main, run) F = forIn rest (main, run ++ trip q l) F
  | [], rest, main, run, _ => by rw [List.map_nil, List.nil_append]; show _ = forIn rest (main, run ++ []) F; rw [List.append_nil]
  | y :: l, rest, main, run, hl => by
    rw [List.length_cons] at hl
    have e1 : F (ditem q y) (main, run) = pure (ForInStep.yield (main, run ++ [(keyT y.1, valT q y.2)])) := by
      show F (some (keyT y.1), valT q y.2) (main, run) = _
      rw [hF, if_neg]
      simp; omega
    rw [List.map_cons, List.cons_append, List.forIn_cons, e1]
    show forIn (l.map (ditem q) ++ rest) (main, run ++ [(keyT y.1, valT q y.2)]) F = _
    rw [acc_eq hF l rest main _ (by rw [List.length_append, List.length_singleton]; omega), List.append_assoc]
    rfl
theorem flush_eq {F : DF} (hF : DBody F) (l : List (Int × Str)) (rest : List (Option (Sem Value) × Sem Value)) (main : Option Addr) (hl : l.length = 17) :
    forIn (l.map (ditem q) ++ rest) (main, []) F = (do
      let r ← (do let main ← dFlush (trip q l) main; pure (ForInStep.yield (main, [])))
      match r with
      | .done b => pure b
      | .yield b => forIn rest b F) := by
  obtain ⟨a, y, rfl⟩ : ∃ a y, l = a ++ [y] := ⟨l.dropLast, l.getLast (by intro e; rw [e] at hl; simp at hl), (List.dropLast_concat_getLast _).symm⟩
  rw [List.length_append, List.length_singleton] at hl
  rw [List.map_append, List.append_assoc, acc_eq hF a _ main [] (by rw [List.length_nil]; omega)]
  have e1 : F (ditem q y) (main, [] ++ trip q a) = (do let main ← dFlush (trip q (a ++ [y])) main; pure (ForInStep.yield (main, []))) := by
    show F (some (keyT y.1), valT q y.2) (main, [] ++ trip q a) = _
    have e2 : [] ++ trip q a ++ [(keyT y.1, valT q y.2)] = trip q (a ++ [y]) := by simp [trip]
    rw [hF, e2, if_pos]
    have : (trip q (a ++ [y])).length = 17 := by simp [trip]; omega
    simp [this]
  rw [List.map_cons, List.map_nil, List.cons_append, List.nil_append, List.forIn_cons, e1]
  exact congrArg (bind _) (funext fun r => by cases r <;> rfl)
noncomputable def pushAll (h : Heap) (l : List Obj) : Heap := l.foldl Heap.push h
theorem pushAll_snoc (h : Heap) (l : List Obj) (o : Obj) : pushAll h (l ++ [o]) = (pushAll h l).push o := by unfold pushAll; rw [List.foldl_append]; rfl
theorem pushAll_size : ∀ (l : List Obj) (h : Heap), (pushAll h l).objs.size = h.objs.size + l.length
  | [], h => rfl
  | o :: l, h => by
    show (pushAll (h.push o) l).objs.size = _
    rw [pushAll_size l, Heap.size_push, List.length_cons]; omega
theorem pushAll_set {d : Addr} (o : Obj) : ∀ (l : List Obj) (h : Heap), d < h.objs.size → setO (pushAll h l) d o = pushAll (setO h d o) l
  | [], h, _ => rfl
  | x :: l, h, hd => by
    show setO (pushAll (h.push x) l) d o = pushAll ((setO h d o).push x) l
    rw [pushAll_set o l (h.push x) (by rw [Heap.size_push]; exact Nat.lt_succ_of_lt hd), push_set x o hd]
theorem pushAll_get {d : Addr} {o : Obj} : ∀ (l : List Obj) (h : Heap), h.get? d = some o → (pushAll h l).get? d = some o
  | [], h, e => e
  | x :: l, h, e => pushAll_get l (h.push x) (Heap.get?_push_of_some _ e)
noncomputable def runCh : List (List (Int × Str)) → List DictEntry → Nat → Nat → List Obj → List DictEntry × Nat × Nat × List Obj
  | [], es, m, t, subs => (es, m, t, subs)
  | c :: cs, es, m, t, subs => runCh cs (es ++ mkE c t) (m + c.length) (t + 3 * c.length) (subs ++ [dO (mkE c t) c.length])
/-- one merge of a flush: the heap -/
theorem merged_heap (h : Heap) (es : List DictEntry) (m : Nat) (subs : List Obj) (sub o : Obj) :
    setO ((pushAll (h.push (dO es m)) subs).push sub) h.objs.size o = pushAll (h.push o) (subs ++ [sub]) := by
  rw [← pushAll_snoc, pushAll_set o _ _ (by rw [Heap.size_push]; exact Nat.lt_succ_self _), set_push]
theorem go_display {F : DF} (hF : DBody F) (h : Heap) (hb : Nat.ble 11 h.objs.size = true) (lst : List (Int × Str)) (hl : lst.length < 17) :
    ∀ (cs : List (List (Int × Str))) (es : List DictEntry) (m t : Nat) (subs : List Obj), (∀ c ∈ cs, c.length = 17) → es ≠ [] → es.length + cs.flatten.length ≤ 10000 →
    (∀ y ∈ cs.flatten, 0 ≤ y.1 ∧ y.1 < 2 ^ 60) → (∀ e ∈ es, ∀ y ∈ cs.flatten, e.hash ≠ y.1) → cs.flatten.Pairwise (fun a b => a.1 ≠ b.1) →
    Go w (330 * cs.length) (forIn ((cs.flatten ++ lst).map (ditem q)) (some h.objs.size, []) F) ⟨pushAll (h.push (dO es m)) subs, g, dr, t, os⟩ q (some h.objs.size, trip q lst)
      ⟨pushAll (h.push (dO (runCh cs es m t subs).1 (runCh cs es m t subs).2.1)) (runCh cs es m t subs).2.2.2, g, dr, (runCh cs es m t subs).2.2.1, os⟩ q
  | [], es, m, t, subs, _, _, _, _, _, _ => by
    have := acc_eq (q := q) hF lst [] (some h.objs.size) [] (by rw [List.length_nil]; omega)
    rw [List.append_nil] at this
    rw [List.flatten_nil, List.nil_append, this]
    exact Go.pure
  | c :: cs, es, m, t, subs, hc, hne, hz, hy, hx, hp => by
    have hc1 : c.length = 17 := hc c (.head _)
    rw [List.flatten_cons] at hz hy hx hp
    rw [List.length_append] at hz
    obtain ⟨hp1, hp2, hp3⟩ := List.pairwise_append.mp hp
    have hsz : (pushAll (h.push (dO es m)) subs).objs.size = h.objs.size + 1 + subs.length := by rw [pushAll_size, Heap.size_push]
    have hbl : 11 ≤ h.objs.size := Nat.le_of_ble_eq_true hb
    have hb2 : Nat.ble 11 (pushAll (h.push (dO es m)) subs).objs.size = true := Nat.ble_eq_true_of_le (by omega)
    have ih := go_display hF h hb lst hl cs (es ++ mkE c t) (m + c.length) (t + 3 * c.length) (subs ++ [dO (mkE c t) c.length]) (fun c' m' => hc c' (.tail _ m')) (by simp [hne])
      (by rw [List.length_append, mkE_length]; omega) (fun y m' => hy y (List.mem_append_right _ m')) (fun e he y hym => by
        rcases List.mem_append.mp he with he | he
        · exact hx e he y (List.mem_append_right _ hym)
        · obtain ⟨_, z, hz, e2⟩ := mkE_mem he
          rw [e2]; exact hp3 z hz y hym) hp2
    rw [show 330 * (c :: cs).length = 330 + 330 * cs.length by rw [List.length_cons]; omega, List.flatten_cons, List.append_assoc, List.map_append, flush_eq hF c _ _ hc1]
    refine Go.bind (n := 330) (n' := 330 * cs.length) (a := ForInStep.yield (some h.objs.size, [])) ?_ ih
    refine Go.bind (n := 330) (n' := 0) (a := some h.objs.size) ?_ Go.pure
    unfold dFlush
    rw [if_neg (by unfold trip; intro e; rw [List.isEmpty_iff, List.map_eq_nil_iff] at e; rw [e] at hc1; simp at hc1)]
    dsimp only
    have hd0 : (pushAll (h.push (dO es m)) subs).get? h.objs.size = some (dO es m) := pushAll_get _ _ (Heap.get?_push_size _ rfl)
    have S := go_subDict (w := w) (q := q) (g := g) (dr := dr) (t := t) (os := os) (pushAll (h.push (dO es m)) subs) c hb2 (by omega) (by omega) (fun y m' => hy y (List.mem_append_left _ m')) hp1
    rw [hc1] at S
    refine Go.bind (n := 223) (n' := 107) (Go.holding _ S) ?_
    have hd1 : ((pushAll (h.push (dO es m)) subs).push (dO (mkE c t) 17)).get? h.objs.size = some (dO es m) := Heap.get?_push_of_some _ hd0
    have ha1 : ((pushAll (h.push (dO es m)) subs).push (dO (mkE c t) 17)).get? (pushAll (h.push (dO es m)) subs).objs.size = some (dO (mkE c t) 17) := Heap.get?_push_size _ rfl
    have hml : (mkE c t).length = 17 := by rw [mkE_length]; exact hc1
    have M := go_merge (w := w) (p := q) (g := g) (dr := dr) (t := t + 51) (os := os) (by rw [hsz]; exact Nat.ne_of_lt (by omega)) (by
        have : (pushAll (h.push (dO es m)) subs).objs.size ≠ sysModules := by rw [hsz]; show _ ≠ 1; omega
        exact beq_eq_false_iff_ne.mpr this) hb hd1 ha1 hne (by omega) (fun e he => (mkE_mem he).1) (mkE_pair hp1) (fun e he y hym => by
          obtain ⟨_, z, hz, e2⟩ := mkE_mem hym
          rw [e2]; exact hx e he z (List.mem_append_left _ hz)) (by intro e; rw [e] at hml; simp at hml)
    rw [hml, merged_heap] at M
    rw [hc1]
    exact Go.bind (n := 107) (n' := 0) (Go.onRaise _ (Go.holding _ M)) Go.pure
end
end Mine
end PartHW

noncomputable section PartHV
theorem Mine.resetHV : True := by (w_top off); k_with_none; first | (walk1; done) | trivial
set_option maxRecDepth 100000
set_option linter.all false
namespace Mine
open PySem PySem.W
section
variable {w : World} {p q : Pos} {h : Heap} {g : Array GenState} {dr : Drawn} {t : Nat} {os : OsState}
theorem go_wholeDisplay (h : Heap) (hb : Nat.ble 11 h.objs.size = true) (c : List (Int × Str)) (cs : List (List (Int × Str))) (lst : List (Int × Str)) (hc : c.length = 17) (hcs : ∀ c ∈ cs, c.length = 17) (hl : lst.length ≤ 15) (hl0 : lst ≠ [])
    (hz : (c ++ cs.flatten ++ lst).length ≤ 9000) (hy : ∀ y ∈ c ++ cs.flatten ++ lst, 0 ≤ y.1 ∧ y.1 < 2 ^ 60) (hp : (c ++ cs.flatten ++ lst).Pairwise (fun a b => a.1 ≠ b.1))
    (es : List DictEntry) (m t' : Nat) (subs : List Obj) (hr : runCh cs (mkE c t) 17 (t + 51) [] = (es, m, t', subs))
    (hes : es.length ≤ 9000) (hne : es ≠ []) (hh : ∀ e ∈ es, ∀ y ∈ lst, e.hash ≠ y.1) :
    Go w (223 + 330 * cs.length + (1 + 13 * lst.length + (5 + 6 * lst.length))) (dictDisplay ((c ++ (cs.flatten ++ lst)).map (ditem q))) ⟨h, g, dr, t, os⟩ q (.ref h.objs.size)
      ⟨pushAll (h.push (dO (es ++ mkE2 lst t') (m + lst.length))) (subs ++ [dO (mkE2 lst t') lst.length]), g, dr, t' + 3 * lst.length, os⟩ q := by
  have hbl : 11 ≤ h.objs.size := Nat.le_of_ble_eq_true hb
  obtain ⟨hp12, hp3, hp123⟩ := List.pairwise_append.mp hp
  obtain ⟨hp1, hp2, hp12'⟩ := List.pairwise_append.mp hp12
  rw [List.length_append, List.length_append] at hz
  unfold dictDisplay
  rw [show 223 + 330 * cs.length + (1 + 13 * lst.length + (5 + 6 * lst.length)) = (223 + 330 * cs.length) + (1 + 13 * lst.length + (5 + 6 * lst.length)) by omega]
  refine Go.bind (n := 223 + 330 * cs.length) (a := (some h.objs.size, trip q lst)) (s' := ⟨pushAll (h.push (dO es m)) subs, g, dr, t', os⟩) (p' := q) ?_ ?_
  · rw [List.map_append]
    rw [flush_eq (F := _) (fun _ _ _ _ => rfl) c _ none hc]
    have D : ∀ (F : DF) (hF : DBody F), Go w (330 * cs.length) (forIn ((cs.flatten ++ lst).map (ditem q)) (some h.objs.size, []) F) ⟨h.push (dO (mkE c t) 17), g, dr, t + 51, os⟩ q (some h.objs.size, trip q lst) ⟨pushAll (h.push (dO es m)) subs, g, dr, t', os⟩ q := fun F hF => by
      have D := go_display (w := w) (q := q) (g := g) (dr := dr) (os := os) hF h hb lst (by omega) cs (mkE c t) 17 (t + 51) [] hcs (by intro e; have := mkE_length c t; rw [e] at this; simp at this; omega) (by rw [mkE_length]; omega)
        (fun y m => hy y (by simp only [List.mem_append]; exact .inl (.inr m))) (fun e he y m => by
          obtain ⟨_, z, hz, e2⟩ := mkE_mem he
          rw [e2]; exact hp12' z hz y m) hp2
      rw [hr] at D
      exact D
    refine Go.bind (n := 223) (n' := 330 * cs.length) (a := ForInStep.yield (some h.objs.size, [])) (s' := ⟨h.push (dO (mkE c t) 17), g, dr, t + 51, os⟩) (p' := q) ?_ (D _ fun _ _ _ _ => rfl)
    refine Go.bind (n := 223) (n' := 0) (a := some h.objs.size) ?_ Go.pure
    unfold dFlush
    rw [if_neg (by unfold trip; intro e; rw [List.isEmpty_iff, List.map_eq_nil_iff] at e; rw [e] at hc; simp at hc)]
    dsimp only
    have S := go_subDict (w := w) (q := q) (g := g) (dr := dr) (t := t) (os := os) h c hb (by omega) (by omega) (fun y m' => hy y (by simp only [List.mem_append]; exact .inl (.inl m'))) hp1
    rw [hc] at S
    exact Go.bind (n := 223) (n' := 0) S Go.pure
  · have hsz : (pushAll (h.push (dO es m)) subs).objs.size = h.objs.size + 1 + subs.length := by rw [pushAll_size, Heap.size_push]
    have hb2 : Nat.ble 11 (pushAll (h.push (dO es m)) subs).objs.size = true := Nat.ble_eq_true_of_le (by omega)
    have hd0 : (pushAll (h.push (dO es m)) subs).get? h.objs.size = some (dO es m) := pushAll_get _ _ (Heap.get?_push_size _ rfl)
    have S := go_subDict2 (w := w) (q := q) (g := g) (dr := dr) (t := t') (os := os) (pushAll (h.push (dO es m)) subs) lst hb2 hl (fun y m' => hy y (by simp only [List.mem_append]; exact .inr m')) hp3
    have hd1 : ((pushAll (h.push (dO es m)) subs).push (dO (mkE2 lst t') lst.length)).get? h.objs.size = some (dO es m) := Heap.get?_push_of_some _ hd0
    have ha1 : ((pushAll (h.push (dO es m)) subs).push (dO (mkE2 lst t') lst.length)).get? (pushAll (h.push (dO es m)) subs).objs.size = some (dO (mkE2 lst t') lst.length) := Heap.get?_push_size _ rfl
    have hml : (mkE2 lst t').length = lst.length := mkE2_length _ _
    have M := go_merge (w := w) (p := q) (g := g) (dr := dr) (t := t' + 3 * lst.length) (os := os) (by rw [hsz]; exact Nat.ne_of_lt (by omega)) (by
        have : (pushAll (h.push (dO es m)) subs).objs.size ≠ sysModules := by rw [hsz]; show _ ≠ 1; omega
        exact beq_eq_false_iff_ne.mpr this) hb hd1 ha1 hne (by omega) (fun e he => (mkE2_mem he).1) (mkE2_pair hp3) (fun e he y hym => by
          obtain ⟨_, z, hz, e2⟩ := mkE2_mem hym
          rw [e2]; exact hh e he z hz) (by intro e; rw [e] at hml; exact hl0 (List.length_eq_zero_iff.mp hml.symm))
    rw [hml, merged_heap] at M
    refine Go.bind (n := 1 + 13 * lst.length + (5 + 6 * lst.length)) (n' := 0) (a := some h.objs.size) ?_ Go.pure
    show Go w _ (dFlush (trip q lst) (some h.objs.size)) _ _ _ _ _
    unfold dFlush
    rw [if_neg (by unfold trip; intro e; rw [List.isEmpty_iff, List.map_eq_nil_iff] at e; exact hl0 e)]
    dsimp only
    refine Go.bind (n := 1 + 13 * lst.length) (n' := 5 + 6 * lst.length) (Go.holding _ S) ?_
    exact Go.bind (n := 5 + 6 * lst.length) (n' := 0) (Go.onRaise _ (Go.holding _ M)) Go.pure
end
noncomputable def ks15 : List (Option Expr) := match st 15 with | .Assign _ (.Dict ks _ _) _ => ks | _ => []
noncomputable def vs15 : List Expr := match st 15 with | .Assign _ (.Dict _ vs _) _ => vs | _ => []
noncomputable def q15 : Pos := match st 15 with | .Assign _ (.Dict _ _ q) _ => q | _ => p0
noncomputable def a15 : Pos := match st 15 with | .Assign _ _ q => q | _ => p0
noncomputable def n15 : Pos := match st 15 with | .Assign [.Name _ q] _ _ => q | _ => p0
theorem st15 : st 15 = .Assign [.Name (Str.ofString "b3_exceptions") n15] (.Dict ks15 vs15 q15) a15 := by kernel_rfl
noncomputable def pair1 : Option Expr → Expr → Int × Str
  | some (.Constant (.int c) _ _), .Constant (.str x) _ _ => (c, x)
  | _, _ => (0, Str.empty)
noncomputable def prs : List (Int × Str) := List.zipWith pair1 ks15 vs15
theorem items15 : (evalEachOpt ks15 env).zip ((evalEach vs15 env).map fun v => do let x ← v; standAt q15; pure x) = prs.map (ditem q15) := by kernel_rfl
end Mine
end PartHV

noncomputable section PartHU
theorem Mine.resetHU : True := by (w_top off); k_with_none; first | (walk1; done) | trivial
set_option maxRecDepth 100000
set_option linter.all false
namespace Mine
open PySem PySem.W

noncomputable def chunkN {α : Type} : Nat → List α → List (List α)
  | 0, _ => []
  | n + 1, l => l.take 17 :: chunkN n (l.drop 17)
noncomputable def c15 : List (Int × Str) := prs.take 17
noncomputable def cs15 : List (List (Int × Str)) := chunkN 37 (prs.drop 17)
noncomputable def l15 : List (Int × Str) := prs.drop 646
noncomputable def R15 : List DictEntry × Nat × Nat × List Obj := runCh cs15 (mkE c15 359) 17 (359 + 51) []
noncomputable def E15 : List DictEntry := R15.1 ++ mkE2 l15 2297
noncomputable def S15 : List Obj := R15.2.2.2 ++ [dO (mkE2 l15 2297) 4]
noncomputable def ob15_3 (P : Params) : Obj := ⟨(.type "dict"), none, (.dict ⟨[⟨PyData.keyHash P (Str.ofString "__name__"), (.str (Str.ofString "__name__") 165), (.str (Str.ofString "cpy313.stringprep") 290)⟩, ⟨PyData.keyHash P (Str.ofString "__doc__"), (.str (Str.ofString "__doc__") 166), .none⟩, ⟨PyData.keyHash P (Str.ofString "__package__"), (.str (Str.ofString "__package__") 167), .none⟩, ⟨PyData.keyHash P (Str.ofString "__loader__"), (.str (Str.ofString "__loader__") 168), (.builtin "__main__.__loader__#opaque")⟩, ⟨PyData.keyHash P (Str.ofString "__spec__"), (.str (Str.ofString "__spec__") 169), .none⟩, ⟨PyData.keyHash P (Str.ofString "__annotations__"), (.str (Str.ofString "__annotations__") 170), (.ref 6)⟩, ⟨PyData.keyHash P (Str.ofString "__builtins__"), (.str (Str.ofString "__builtins__") 171), (.ref 4)⟩, ⟨PyData.keyHash P (Str.ofString "__file__"), (.str (Str.ofString "__file__") 173), (.str (Str.ofString "/claim/cut.py") 172)⟩, ⟨PyData.keyHash P (Str.ofString "__cached__"), (.str (Str.ofString "__cached__") 174), .none⟩, ⟨PyData.keyHash P (Str.ofString "_DIV_LIMIT"), (.str (Str.ofString "_DIV_LIMIT") 190), (.int 4000 189)⟩, ⟨PyData.keyHash P (Str.ofString "_div2n1n"), (.str (Str.ofString "_div2n1n") 207), (.ref 21)⟩, ⟨PyData.keyHash P (Str.ofString "_div3n2n"), (.str (Str.ofString "_div3n2n") 221), (.ref 28)⟩, ⟨PyData.keyHash P (Str.ofString "_int2digits"), (.str (Str.ofString "_int2digits") 232), (.ref 35)⟩, ⟨PyData.keyHash P (Str.ofString "_digits2int"), (.str (Str.ofString "_digits2int") 243), (.ref 42)⟩, ⟨PyData.keyHash P (Str.ofString "_divmod_pos"), (.str (Str.ofString "_divmod_pos") 258), (.ref 49)⟩, ⟨PyData.keyHash P (Str.ofString "int_divmod"), (.str (Str.ofString "int_divmod") 268), (.ref 56)⟩, ⟨PyData.keyHash P (Str.ofString "_strcoll"), (.str (Str.ofString "_strcoll") 278), (.ref 63)⟩, ⟨PyData.keyHash P (Str.ofString "CHAR_MAX"), (.str (Str.ofString "CHAR_MAX") 280), (.int 127 279)⟩, ⟨PyData.keyHash P (Str.ofString "_grouping_intervals"), (.str (Str.ofString "_grouping_intervals") 289), (.ref 70)⟩, ⟨PyData.keyHash P (Str.ofString "b1_set"), (.str (Str.ofString "b1_set") 351), (.ref 78)⟩, ⟨PyData.keyHash P (Str.ofString "in_table_b1"), (.str (Str.ofString "in_table_b1") 358), (.ref 88)⟩, ⟨PyData.keyHash P (Str.ofString "b3_exceptions"), (.str (Str.ofString "b3_exceptions") 2309), (.ref 89)⟩]⟩ 22), ⟨[]⟩⟩
noncomputable def ob15_89 (P : Params) : Obj := dO E15 650
noncomputable def ob15_90 (P : Params) : Obj := S15.getD 0 default
noncomputable def ob15_91 (P : Params) : Obj := S15.getD 1 default
noncomputable def ob15_92 (P : Params) : Obj := S15.getD 2 default
noncomputable def ob15_93 (P : Params) : Obj := S15.getD 3 default
noncomputable def ob15_94 (P : Params) : Obj := S15.getD 4 default
noncomputable def ob15_95 (P : Params) : Obj := S15.getD 5 default
noncomputable def ob15_96 (P : Params) : Obj := S15.getD 6 default
noncomputable def ob15_97 (P : Params) : Obj := S15.getD 7 default
noncomputable def ob15_98 (P : Params) : Obj := S15.getD 8 default
noncomputable def ob15_99 (P : Params) : Obj := S15.getD 9 default
noncomputable def ob15_100 (P : Params) : Obj := S15.getD 10 default
noncomputable def ob15_101 (P : Params) : Obj := S15.getD 11 default
noncomputable def ob15_102 (P : Params) : Obj := S15.getD 12 default
noncomputable def ob15_103 (P : Params) : Obj := S15.getD 13 default
noncomputable def ob15_104 (P : Params) : Obj := S15.getD 14 default
noncomputable def ob15_105 (P : Params) : Obj := S15.getD 15 default
noncomputable def ob15_106 (P : Params) : Obj := S15.getD 16 default
noncomputable def ob15_107 (P : Params) : Obj := S15.getD 17 default
noncomputable def ob15_108 (P : Params) : Obj := S15.getD 18 default
noncomputable def ob15_109 (P : Params) : Obj := S15.getD 19 default
noncomputable def ob15_110 (P : Params) : Obj := S15.getD 20 default
noncomputable def ob15_111 (P : Params) : Obj := S15.getD 21 default
noncomputable def ob15_112 (P : Params) : Obj := S15.getD 22 default
noncomputable def ob15_113 (P : Params) : Obj := S15.getD 23 default
noncomputable def ob15_114 (P : Params) : Obj := S15.getD 24 default
noncomputable def ob15_115 (P : Params) : Obj := S15.getD 25 default
noncomputable def ob15_116 (P : Params) : Obj := S15.getD 26 default
noncomputable def ob15_117 (P : Params) : Obj := S15.getD 27 default
noncomputable def ob15_118 (P : Params) : Obj := S15.getD 28 default
noncomputable def ob15_119 (P : Params) : Obj := S15.getD 29 default
noncomputable def ob15_120 (P : Params) : Obj := S15.getD 30 default
noncomputable def ob15_121 (P : Params) : Obj := S15.getD 31 default
noncomputable def ob15_122 (P : Params) : Obj := S15.getD 32 default
noncomputable def ob15_123 (P : Params) : Obj := S15.getD 33 default
noncomputable def ob15_124 (P : Params) : Obj := S15.getD 34 default
noncomputable def ob15_125 (P : Params) : Obj := S15.getD 35 default
noncomputable def ob15_126 (P : Params) : Obj := S15.getD 36 default
noncomputable def ob15_127 (P : Params) : Obj := S15.getD 37 default
noncomputable def Tb15 (P : Params) : BT := (.node (boot_o_0 P) (.node (boot_o_1 P) (.node (ob15_3 P) (.node (boot_o_7 P) (.node (ob12_15 P) (.node (ob12_31 P) (.node (ob12_63 P) (.node (ob15_127 P) .nil .nil) .nil) (.node (ob15_95 P) .nil .nil)) (.node (ob12_47 P) (.node (ob13_79 P) .nil .nil) (.node (ob15_111 P) .nil .nil))) (.node (ob12_23 P) (.node (ob12_39 P) (.node (ob13_71 P) .nil .nil) (.node (ob15_103 P) .nil .nil)) (.node (ob12_55 P) (.node (ob14_87 P) .nil .nil) (.node (ob15_119 P) .nil .nil)))) (.node (oa_11 P) (.node (ob12_19 P) (.node (ob12_35 P) (.node (ob12_67 P) .nil .nil) (.node (ob15_99 P) .nil .nil)) (.node (ob12_51 P) (.node (ob14_83 P) .nil .nil) (.node (ob15_115 P) .nil .nil))) (.node (ob12_27 P) (.node (ob12_43 P) (.node (ob13_75 P) .nil .nil) (.node (ob15_107 P) .nil .nil)) (.node (ob12_59 P) (.node (ob15_91 P) .nil .nil) (.node (ob15_123 P) .nil .nil))))) (.node (boot_o_5 P) (.node (boot_o_9 P) (.node (ob12_17 P) (.node (ob12_33 P) (.node (ob12_65 P) .nil .nil) (.node (ob15_97 P) .nil .nil)) (.node (ob12_49 P) (.node (ob13_81 P) .nil .nil) (.node (ob15_113 P) .nil .nil))) (.node (ob12_25 P) (.node (ob12_41 P) (.node (ob13_73 P) .nil .nil) (.node (ob15_105 P) .nil .nil)) (.node (ob12_57 P) (.node (ob15_89 P) .nil .nil) (.node (ob15_121 P) .nil .nil)))) (.node (oa_13 P) (.node (ob12_21 P) (.node (ob12_37 P) (.node (ob12_69 P) .nil .nil) (.node (ob15_101 P) .nil .nil)) (.node (ob12_53 P) (.node (ob14_85 P) .nil .nil) (.node (ob15_117 P) .nil .nil))) (.node (ob12_29 P) (.node (ob12_45 P) (.node (ob13_77 P) .nil .nil) (.node (ob15_109 P) .nil .nil)) (.node (ob12_61 P) (.node (ob15_93 P) .nil .nil) (.node (ob15_125 P) .nil .nil)))))) (.node (boot_o_2 P) (.node (boot_o_4 P) (.node (boot_o_8 P) (.node (ob12_16 P) (.node (ob12_32 P) (.node (ob12_64 P) .nil .nil) (.node (ob15_96 P) .nil .nil)) (.node (ob12_48 P) (.node (ob13_80 P) .nil .nil) (.node (ob15_112 P) .nil .nil))) (.node (ob12_24 P) (.node (ob12_40 P) (.node (ob13_72 P) .nil .nil) (.node (ob15_104 P) .nil .nil)) (.node (ob12_56 P) (.node (ob14_88 P) .nil .nil) (.node (ob15_120 P) .nil .nil)))) (.node (ob14_12 P) (.node (ob12_20 P) (.node (ob12_36 P) (.node (ob12_68 P) .nil .nil) (.node (ob15_100 P) .nil .nil)) (.node (ob12_52 P) (.node (ob14_84 P) .nil .nil) (.node (ob15_116 P) .nil .nil))) (.node (ob12_28 P) (.node (ob12_44 P) (.node (ob13_76 P) .nil .nil) (.node (ob15_108 P) .nil .nil)) (.node (ob12_60 P) (.node (ob15_92 P) .nil .nil) (.node (ob15_124 P) .nil .nil))))) (.node (boot_o_6 P) (.node (boot_o_10 P) (.node (ob12_18 P) (.node (ob12_34 P) (.node (ob12_66 P) .nil .nil) (.node (ob15_98 P) .nil .nil)) (.node (ob12_50 P) (.node (ob14_82 P) .nil .nil) (.node (ob15_114 P) .nil .nil))) (.node (ob12_26 P) (.node (ob12_42 P) (.node (ob13_74 P) .nil .nil) (.node (ob15_106 P) .nil .nil)) (.node (ob12_58 P) (.node (ob15_90 P) .nil .nil) (.node (ob15_122 P) .nil .nil)))) (.node (oa_14 P) (.node (ob12_22 P) (.node (ob12_38 P) (.node (ob12_70 P) .nil .nil) (.node (ob15_102 P) .nil .nil)) (.node (ob12_54 P) (.node (ob14_86 P) .nil .nil) (.node (ob15_118 P) .nil .nil))) (.node (ob12_30 P) (.node (ob12_46 P) (.node (ob13_78 P) .nil .nil) (.node (ob15_110 P) .nil .nil)) (.node (ob12_62 P) (.node (ob15_94 P) .nil .nil) (.node (ob15_126 P) .nil .nil)))))))

theorem split15 : prs = c15 ++ (cs15.flatten ++ l15) := by kernel_rfl
noncomputable def upB : List Int → Bool
  | [] => true
  | [_] => true
  | a :: b :: r => decide (a < b) && upB (b :: r)
theorem upB_pair : ∀ (l : List Int), upB l = true → l.Pairwise (· < ·)
  | [], _ => .nil
  | [a], _ => .cons (fun _ h => nomatch h) .nil
  | a :: b :: r, h => by
    obtain ⟨h1, h2⟩ := Bool.and_eq_true_iff.mp h
    have ih := upB_pair (b :: r) h2
    have h1 := of_decide_eq_true h1
    refine .cons (fun x hx => ?_) ih
    rcases List.mem_cons.mp hx with rfl | hx
    · exact h1
    · exact Int.lt_trans h1 ((List.pairwise_cons.mp ih).1 x hx)
theorem up15 : upB (prs.map (·.1)) = true := by decide +kernel
theorem ne15 : prs.Pairwise (fun a b => a.1 ≠ b.1) := (List.pairwise_map.mp (upB_pair _ up15)).imp fun h => Int.ne_of_lt h
theorem bd15 : ∀ y ∈ prs, 0 ≤ y.1 ∧ y.1 < 2 ^ 60 := by decide +kernel
theorem len15 : prs.length = 650 := by decide +kernel
theorem cl15 : ∀ c ∈ cs15, c.length = 17 := by decide +kernel
theorem hh15 : ∀ e ∈ R15.1, ∀ y ∈ l15, e.hash ≠ y.1 := by decide +kernel
theorem go15 (w : World) (h : Heap) (hs : h.objs.size = 89) (os : OsState) : Go w (223 + 330 * 37 + (1 + 13 * 4 + (5 + 6 * 4)) + 1) (eval (.Dict ks15 vs15 q15) env) ⟨h, #[], boot_drawn, 359, os⟩ a15 (.ref 89) ⟨pushAll (h.push (dO E15 650)) S15, #[], boot_drawn, 2309, os⟩ q15 := by
  have e : eval (.Dict ks15 vs15 q15) env = (do standAt q15; dictDisplay ((evalEachOpt ks15 env).zip ((evalEach vs15 env).map fun v => do let x ← v; standAt q15; pure x))) := rfl
  rw [e, items15, split15]
  have hb : Nat.ble 11 h.objs.size = true := by rw [hs]; rfl
  have sp : c15 ++ cs15.flatten ++ l15 = prs := by rw [split15, List.append_assoc]
  have D := go_wholeDisplay (w := w) (q := q15) (g := #[]) (dr := boot_drawn) (t := 359) (os := os) h hb c15 cs15 l15 (by decide +kernel) cl15 (by decide +kernel) (by decide +kernel) (by rw [sp, len15]; omega) (by rw [sp]; exact bd15) (by rw [sp]; exact ne15)
    R15.1 R15.2.1 R15.2.2.1 R15.2.2.2 rfl (by decide +kernel) (by decide +kernel) hh15
  rw [hs, show cs15.length = 37 by decide +kernel, show l15.length = 4 by decide +kernel, show R15.2.1 = 646 by decide +kernel, show R15.2.2.1 = 2297 by decide +kernel] at D
  rw [show 223 + 330 * 37 + (1 + 13 * 4 + (5 + 6 * 4)) + 1 = 1 + (223 + 330 * 37 + (1 + 13 * 4 + (5 + 6 * 4))) by omega]
  exact Go.bind (n := 1) (Go.standAt q15) D

theorem swap15 : swapsWith (.Dict ks15 vs15 q15) (some (.Name (Str.ofString "b3_exceptions") n15)) a15.line env = pure false := rfl
theorem heap15 (P : Params) : (absHeap (Tb14 P) 89 life0).objs.size = 89 := absHeap_size _ _ _
theorem end15 (w : World) (os : OsState) (K : Flow → Sem Fin) (H : Value → Sem Fin) (gd : Bool → Bool) (lv : List Value → List Value) :
    tG w 7 ⟨pushAll ((absHeap (Tb14 w.params) 89 life0).push (dO E15 650)) S15, #[], boot_drawn, 2309, os⟩ ⟨(do standAt n15; bindName env (Str.ofString "b3_exceptions") (.ref 89); pure Flow.next : Sem Flow).wrap K H gd lv, cE, q15, B0⟩ =
      some (⟨absHeap (Tb15 w.params) 128 life0, #[], boot_drawn, 2310, os⟩, ⟨K .next, cE, ⟨96, 0, 96, 13⟩, B0⟩) := by kernel_rfl
end Mine
end PartHU

noncomputable section PartHT
theorem Mine.resetHT : True := by (w_top off); k_with_none; first | (walk1; done) | trivial
set_option maxRecDepth 100000
set_option linter.all false
namespace Mine
open PySem PySem.W
noncomputable def ob24_3 (P : Params) : Obj := ⟨(.type "dict"), none, (.dict ⟨[⟨PyData.keyHash P (Str.ofString "__name__"), (.str (Str.ofString "__name__") 165), (.str (Str.ofString "law_ul0025_01") 2325)⟩, ⟨PyData.keyHash P (Str.ofString "__doc__"), (.str (Str.ofString "__doc__") 166), .none⟩, ⟨PyData.keyHash P (Str.ofString "__package__"), (.str (Str.ofString "__package__") 167), .none⟩, ⟨PyData.keyHash P (Str.ofString "__loader__"), (.str (Str.ofString "__loader__") 168), (.builtin "__main__.__loader__#opaque")⟩, ⟨PyData.keyHash P (Str.ofString "__spec__"), (.str (Str.ofString "__spec__") 169), .none⟩, ⟨PyData.keyHash P (Str.ofString "__annotations__"), (.str (Str.ofString "__annotations__") 170), (.ref 6)⟩, ⟨PyData.keyHash P (Str.ofString "__builtins__"), (.str (Str.ofString "__builtins__") 171), (.ref 4)⟩, ⟨PyData.keyHash P (Str.ofString "__file__"), (.str (Str.ofString "__file__") 173), (.str (Str.ofString "/claim/cut.py") 172)⟩, ⟨PyData.keyHash P (Str.ofString "__cached__"), (.str (Str.ofString "__cached__") 174), .none⟩, ⟨PyData.keyHash P (Str.ofString "_DIV_LIMIT"), (.str (Str.ofString "_DIV_LIMIT") 190), (.int 4000 189)⟩, ⟨PyData.keyHash P (Str.ofString "_div2n1n"), (.str (Str.ofString "_div2n1n") 207), (.ref 21)⟩, ⟨PyData.keyHash P (Str.ofString "_div3n2n"), (.str (Str.ofString "_div3n2n") 221), (.ref 28)⟩, ⟨PyData.keyHash P (Str.ofString "_int2digits"), (.str (Str.ofString "_int2digits") 232), (.ref 35)⟩, ⟨PyData.keyHash P (Str.ofString "_digits2int"), (.str (Str.ofString "_digits2int") 243), (.ref 42)⟩, ⟨PyData.keyHash P (Str.ofString "_divmod_pos"), (.str (Str.ofString "_divmod_pos") 258), (.ref 49)⟩, ⟨PyData.keyHash P (Str.ofString "int_divmod"), (.str (Str.ofString "int_divmod") 268), (.ref 56)⟩, ⟨PyData.keyHash P (Str.ofString "_strcoll"), (.str (Str.ofString "_strcoll") 278), (.ref 63)⟩, ⟨PyData.keyHash P (Str.ofString "CHAR_MAX"), (.str (Str.ofString "CHAR_MAX") 280), (.int 127 279)⟩, ⟨PyData.keyHash P (Str.ofString "_grouping_intervals"), (.str (Str.ofString "_grouping_intervals") 289), (.ref 70)⟩, ⟨PyData.keyHash P (Str.ofString "b1_set"), (.str (Str.ofString "b1_set") 351), (.ref 78)⟩, ⟨PyData.keyHash P (Str.ofString "in_table_b1"), (.str (Str.ofString "in_table_b1") 358), (.ref 88)⟩, ⟨PyData.keyHash P (Str.ofString "b3_exceptions"), (.str (Str.ofString "b3_exceptions") 2309), (.ref 89)⟩, ⟨PyData.keyHash P (Str.ofString "map_table_b3"), (.str (Str.ofString "map_table_b3") 2317), (.ref 134)⟩, ⟨PyData.keyHash P (Str.ofString "in_table_c11"), (.str (Str.ofString "in_table_c11") 2324), (.ref 141)⟩, ⟨PyData.keyHash P (Str.ofString "_law_cells"), (.str (Str.ofString "_law_cells") 2335), (.ref 148)⟩, ⟨PyData.keyHash P (Str.ofString "_law_block"), (.str (Str.ofString "_law_block") 2358), (.ref 155)⟩, ⟨PyData.keyHash P (Str.ofString "_law_heard"), (.str (Str.ofString "_law_heard") 2367), (.ref 162)⟩, ⟨PyData.keyHash P (Str.ofString "_law_sent"), (.str (Str.ofString "_law_sent") 2373), (.ref 167)⟩, ⟨PyData.keyHash P (Str.ofString "_law_found"), (.str (Str.ofString "_law_found") 2379), (.ref 172)⟩, ⟨PyData.keyHash P (Str.ofString "law"), (.str (Str.ofString "law") 2385), (.ref 177)⟩]⟩ 30), ⟨[]⟩⟩
noncomputable def ob24_12 (P : Params) : Obj := ⟨.none, none, (.fields ⟨[(.int 3 0), (.int 0 0), (.ref 20), (.int 19 0), (.int 0 0), (.ref 27), (.int 29 0), (.int 0 0), (.ref 34), (.int 45 0), (.int 0 0), (.ref 41), (.int 54 0), (.int 0 0), (.ref 48), (.int 65 0), (.int 0 0), (.ref 55), (.int 77 0), (.int 0 0), (.ref 62), (.int 80 0), (.int 0 0), (.ref 69), (.int 94 0), (.int 0 0), (.ref 87), (.int 97 0), (.int 0 0), (.ref 133), (.int 102 0), (.int 0 0), (.ref 140), (.int 105 0), (.int 0 0), (.ref 147), (.int 111 0), (.int 0 0), (.ref 154), (.int 142 0), (.int 0 0), (.ref 161), (.int 152 0), (.int 0 0), (.ref 166), (.int 161 0), (.int 0 0), (.ref 171), (.int 174 0), (.int 0 0), (.ref 176)]⟩), ⟨[]⟩⟩
noncomputable def ob24_128 (P : Params) : Obj := ⟨(.type "tuple"), none, (.seq ⟨[]⟩ 0), ⟨[]⟩⟩
noncomputable def ob24_129 (P : Params) : Obj := ⟨.none, none, (.fields ⟨[]⟩), ⟨[]⟩⟩
noncomputable def ob24_130 (P : Params) : Obj := ⟨(.type "tuple"), none, (.seq ⟨[(.str (Str.ofString "code") 2313), (.str (Str.ofString "r") 2314)]⟩ 0), ⟨[]⟩⟩
noncomputable def ob24_131 (P : Params) : Obj := ⟨(.type "tuple"), none, (.seq ⟨[]⟩ 0), ⟨[]⟩⟩
noncomputable def ob24_132 (P : Params) : Obj := ⟨.none, none, (.func (fnD 16 (Str.ofString "map_table_b3") (Str.ofString "map_table_b3") 0 .none .none .none .none none .none .none 0)), ⟨[]⟩⟩
noncomputable def ob24_133 (P : Params) : Obj := ⟨(.type "code"), none, (.fields ⟨[(.str (Str.ofString "map_table_b3") 2310), (.str (Str.ofString "map_table_b3") 2311), (.str (Str.ofString "/claim/cut.py") 2312), (.int 97 0), (.int 1 0), (.int 0 0), (.int 0 0), (.int 3 0), (.ref 128), (.bool true), (.int 181 0), (.ref 129), .none, (.ref 130), (.ref 131), (.ref 132), (.int 2315 0), (.int 97 0), (.str (Str.ofString "/claim/cut.py") 2316)]⟩), ⟨[]⟩⟩
noncomputable def ob24_134 (P : Params) : Obj := ⟨(.type "function"), none, (.func (fnD 16 (Str.ofString "map_table_b3") (Str.ofString "map_table_b3") 3 .none .none .none (.str (Str.ofString "cpy313.stringprep") 290) none (.ref 133) .none 0)), ⟨[]⟩⟩
noncomputable def ob24_135 (P : Params) : Obj := ⟨(.type "tuple"), none, (.seq ⟨[]⟩ 0), ⟨[]⟩⟩
noncomputable def ob24_136 (P : Params) : Obj := ⟨.none, none, (.fields ⟨[]⟩), ⟨[]⟩⟩
noncomputable def ob24_137 (P : Params) : Obj := ⟨(.type "tuple"), none, (.seq ⟨[(.str (Str.ofString "code") 2321)]⟩ 0), ⟨[]⟩⟩
noncomputable def ob24_138 (P : Params) : Obj := ⟨(.type "tuple"), none, (.seq ⟨[]⟩ 0), ⟨[]⟩⟩
noncomputable def ob24_139 (P : Params) : Obj := ⟨.none, none, (.func (fnD 17 (Str.ofString "in_table_c11") (Str.ofString "in_table_c11") 0 .none .none .none .none none .none .none 0)), ⟨[]⟩⟩
noncomputable def ob24_140 (P : Params) : Obj := ⟨(.type "code"), none, (.fields ⟨[(.str (Str.ofString "in_table_c11") 2318), (.str (Str.ofString "in_table_c11") 2319), (.str (Str.ofString "/claim/cut.py") 2320), (.int 102 0), (.int 1 0), (.int 0 0), (.int 0 0), (.int 3 0), (.ref 135), (.bool true), (.int 181 0), (.ref 136), .none, (.ref 137), (.ref 138), (.ref 139), (.int 2322 0), (.int 102 0), (.str (Str.ofString "/claim/cut.py") 2323)]⟩), ⟨[]⟩⟩
noncomputable def ob24_141 (P : Params) : Obj := ⟨(.type "function"), none, (.func (fnD 17 (Str.ofString "in_table_c11") (Str.ofString "in_table_c11") 3 .none .none .none (.str (Str.ofString "cpy313.stringprep") 290) none (.ref 140) .none 0)), ⟨[]⟩⟩
noncomputable def ob24_142 (P : Params) : Obj := ⟨(.type "tuple"), none, (.seq ⟨[]⟩ 0), ⟨[]⟩⟩
noncomputable def ob24_143 (P : Params) : Obj := ⟨.none, none, (.fields ⟨[]⟩), ⟨[]⟩⟩
noncomputable def ob24_144 (P : Params) : Obj := ⟨(.type "tuple"), none, (.seq ⟨[(.str (Str.ofString "script") 2330), (.str (Str.ofString "cells") 2331), (.str (Str.ofString "k") 2332)]⟩ 0), ⟨[]⟩⟩
noncomputable def ob24_145 (P : Params) : Obj := ⟨(.type "tuple"), none, (.seq ⟨[]⟩ 0), ⟨[]⟩⟩
noncomputable def ob24_146 (P : Params) : Obj := ⟨.none, none, (.func (fnD 19 (Str.ofString "_law_cells") (Str.ofString "_law_cells") 0 .none .none .none .none none .none .none 0)), ⟨[]⟩⟩
noncomputable def ob24_147 (P : Params) : Obj := ⟨(.type "code"), none, (.fields ⟨[(.str (Str.ofString "_law_cells") 2327), (.str (Str.ofString "_law_cells") 2328), (.str (Str.ofString "/claim/cut.py") 2329), (.int 105 0), (.int 1 0), (.int 0 0), (.int 0 0), (.int 3 0), (.ref 142), (.bool true), (.int 181 0), (.ref 143), .none, (.ref 144), (.ref 145), (.ref 146), (.int 2333 0), (.int 105 0), (.str (Str.ofString "/claim/cut.py") 2334)]⟩), ⟨[]⟩⟩
noncomputable def ob24_148 (P : Params) : Obj := ⟨(.type "function"), none, (.func (fnD 19 (Str.ofString "_law_cells") (Str.ofString "_law_cells") 3 .none .none .none (.str (Str.ofString "law_ul0025_01") 2325) none (.ref 147) .none 0)), ⟨[]⟩⟩
noncomputable def ob24_149 (P : Params) : Obj := ⟨(.type "tuple"), none, (.seq ⟨[]⟩ 0), ⟨[]⟩⟩
noncomputable def ob24_150 (P : Params) : Obj := ⟨.none, none, (.fields ⟨[]⟩), ⟨[]⟩⟩
noncomputable def ob24_151 (P : Params) : Obj := ⟨(.type "tuple"), none, (.seq ⟨[(.str (Str.ofString "cell") 2339), (.str (Str.ofString "size") 2340), (.str (Str.ofString "letters") 2341), (.str (Str.ofString "doubles") 2342), (.str (Str.ofString "pairs") 2343), (.str (Str.ofString "capitals") 2344), (.str (Str.ofString "nothing") 2345), (.str (Str.ofString "harm") 2346), (.str (Str.ofString "place") 2347), (.str (Str.ofString "gone") 2348), (.str (Str.ofString "left") 2349), (.str (Str.ofString "word") 2350), (.str (Str.ofString "harmed") 2351), (.str (Str.ofString "typed") 2352), (.str (Str.ofString "k") 2353), (.str (Str.ofString "pick") 2354), (.str (Str.ofString "style") 2355)]⟩ 0), ⟨[]⟩⟩
noncomputable def ob24_152 (P : Params) : Obj := ⟨(.type "tuple"), none, (.seq ⟨[]⟩ 0), ⟨[]⟩⟩
noncomputable def ob24_153 (P : Params) : Obj := ⟨.none, none, (.func (fnD 20 (Str.ofString "_law_block") (Str.ofString "_law_block") 0 .none .none .none .none none .none .none 0)), ⟨[]⟩⟩
noncomputable def ob24_154 (P : Params) : Obj := ⟨(.type "code"), none, (.fields ⟨[(.str (Str.ofString "_law_block") 2336), (.str (Str.ofString "_law_block") 2337), (.str (Str.ofString "/claim/cut.py") 2338), (.int 111 0), (.int 2 0), (.int 0 0), (.int 0 0), (.int 3 0), (.ref 149), (.bool true), (.int 181 0), (.ref 150), .none, (.ref 151), (.ref 152), (.ref 153), (.int 2356 0), (.int 111 0), (.str (Str.ofString "/claim/cut.py") 2357)]⟩), ⟨[]⟩⟩
noncomputable def ob24_155 (P : Params) : Obj := ⟨(.type "function"), none, (.func (fnD 20 (Str.ofString "_law_block") (Str.ofString "_law_block") 3 .none .none .none (.str (Str.ofString "law_ul0025_01") 2325) none (.ref 154) .none 0)), ⟨[]⟩⟩
noncomputable def ob24_156 (P : Params) : Obj := ⟨(.type "tuple"), none, (.seq ⟨[]⟩ 0), ⟨[]⟩⟩
noncomputable def ob24_157 (P : Params) : Obj := ⟨.none, none, (.fields ⟨[]⟩), ⟨[]⟩⟩
noncomputable def ob24_158 (P : Params) : Obj := ⟨(.type "tuple"), none, (.seq ⟨[(.str (Str.ofString "line") 2362), (.str (Str.ofString "groups") 2363), (.str (Str.ofString "sign") 2364)]⟩ 0), ⟨[]⟩⟩
noncomputable def ob24_159 (P : Params) : Obj := ⟨(.type "tuple"), none, (.seq ⟨[]⟩ 0), ⟨[]⟩⟩
noncomputable def ob24_160 (P : Params) : Obj := ⟨.none, none, (.func (fnD 21 (Str.ofString "_law_heard") (Str.ofString "_law_heard") 0 .none .none .none .none none .none .none 0)), ⟨[]⟩⟩
noncomputable def ob24_161 (P : Params) : Obj := ⟨(.type "code"), none, (.fields ⟨[(.str (Str.ofString "_law_heard") 2359), (.str (Str.ofString "_law_heard") 2360), (.str (Str.ofString "/claim/cut.py") 2361), (.int 142 0), (.int 1 0), (.int 0 0), (.int 0 0), (.int 3 0), (.ref 156), (.bool true), (.int 181 0), (.ref 157), .none, (.ref 158), (.ref 159), (.ref 160), (.int 2365 0), (.int 142 0), (.str (Str.ofString "/claim/cut.py") 2366)]⟩), ⟨[]⟩⟩
noncomputable def ob24_162 (P : Params) : Obj := ⟨(.type "function"), none, (.func (fnD 21 (Str.ofString "_law_heard") (Str.ofString "_law_heard") 3 .none .none .none (.str (Str.ofString "law_ul0025_01") 2325) none (.ref 161) .none 0)), ⟨[]⟩⟩
noncomputable def ob24_163 (P : Params) : Obj := ⟨(.type "tuple"), none, (.seq ⟨[]⟩ 0), ⟨[]⟩⟩
noncomputable def ob24_164 (P : Params) : Obj := ⟨.none, none, (.fields ⟨[]⟩), ⟨[]⟩⟩
noncomputable def ob24_165 (P : Params) : Obj := ⟨.none, none, (.func (fnD 22 (Str.ofString "_law_sent") (Str.ofString "_law_sent") 0 .none .none .none .none none .none .none 0)), ⟨[]⟩⟩
noncomputable def ob24_166 (P : Params) : Obj := ⟨(.type "code"), none, (.fields ⟨[(.str (Str.ofString "_law_sent") 2368), (.str (Str.ofString "_law_sent") 2369), (.str (Str.ofString "/claim/cut.py") 2370), (.int 152 0), (.int 3 0), (.int 0 0), (.int 0 0), (.int 3 0), (.ref 163), (.bool true), (.int 181 0), (.ref 164), .none, .none, .none, (.ref 165), (.int 2371 0), (.int 152 0), (.str (Str.ofString "/claim/cut.py") 2372)]⟩), ⟨[]⟩⟩
noncomputable def ob24_167 (P : Params) : Obj := ⟨(.type "function"), none, (.func (fnD 22 (Str.ofString "_law_sent") (Str.ofString "_law_sent") 3 .none .none .none (.str (Str.ofString "law_ul0025_01") 2325) none (.ref 166) .none 0)), ⟨[]⟩⟩
noncomputable def ob24_168 (P : Params) : Obj := ⟨(.type "tuple"), none, (.seq ⟨[]⟩ 0), ⟨[]⟩⟩
noncomputable def ob24_169 (P : Params) : Obj := ⟨.none, none, (.fields ⟨[]⟩), ⟨[]⟩⟩
noncomputable def ob24_170 (P : Params) : Obj := ⟨.none, none, (.func (fnD 23 (Str.ofString "_law_found") (Str.ofString "_law_found") 0 .none .none .none .none none .none .none 0)), ⟨[]⟩⟩
noncomputable def ob24_171 (P : Params) : Obj := ⟨(.type "code"), none, (.fields ⟨[(.str (Str.ofString "_law_found") 2374), (.str (Str.ofString "_law_found") 2375), (.str (Str.ofString "/claim/cut.py") 2376), (.int 161 0), (.int 5 0), (.int 0 0), (.int 0 0), (.int 3 0), (.ref 168), (.bool true), (.int 181 0), (.ref 169), .none, .none, .none, (.ref 170), (.int 2377 0), (.int 161 0), (.str (Str.ofString "/claim/cut.py") 2378)]⟩), ⟨[]⟩⟩
noncomputable def ob24_172 (P : Params) : Obj := ⟨(.type "function"), none, (.func (fnD 23 (Str.ofString "_law_found") (Str.ofString "_law_found") 3 .none .none .none (.str (Str.ofString "law_ul0025_01") 2325) none (.ref 171) .none 0)), ⟨[]⟩⟩
noncomputable def ob24_173 (P : Params) : Obj := ⟨(.type "tuple"), none, (.seq ⟨[]⟩ 0), ⟨[]⟩⟩
noncomputable def ob24_174 (P : Params) : Obj := ⟨.none, none, (.fields ⟨[]⟩), ⟨[]⟩⟩
noncomputable def ob24_175 (P : Params) : Obj := ⟨.none, none, (.func (fnD 24 (Str.ofString "law") (Str.ofString "law") 0 .none .none .none .none none .none .none 0)), ⟨[]⟩⟩
noncomputable def ob24_176 (P : Params) : Obj := ⟨(.type "code"), none, (.fields ⟨[(.str (Str.ofString "law") 2380), (.str (Str.ofString "law") 2381), (.str (Str.ofString "/claim/cut.py") 2382), (.int 174 0), (.int 1 0), (.int 0 0), (.int 0 0), (.int 3 0), (.ref 173), (.bool true), (.int 181 0), (.ref 174), .none, .none, .none, (.ref 175), (.int 2383 0), (.int 174 0), (.str (Str.ofString "/claim/cut.py") 2384)]⟩), ⟨[]⟩⟩
noncomputable def ob24_177 (P : Params) : Obj := ⟨(.type "function"), none, (.func (fnD 24 (Str.ofString "law") (Str.ofString "law") 3 .none .none .none (.str (Str.ofString "law_ul0025_01") 2325) none (.ref 176) .none 0)), ⟨[]⟩⟩
noncomputable def Tb24 (P : Params) : BT := (.node (boot_o_0 P) (.node (boot_o_1 P) (.node (ob24_3 P) (.node (boot_o_7 P) (.node (ob12_15 P) (.node (ob12_31 P) (.node (ob12_63 P) (.node (ob15_127 P) .nil .nil) .nil) (.node (ob15_95 P) (.node (ob24_159 P) .nil .nil) .nil)) (.node (ob12_47 P) (.node (ob13_79 P) (.node (ob24_143 P) .nil .nil) .nil) (.node (ob15_111 P) (.node (ob24_175 P) .nil .nil) .nil))) (.node (ob12_23 P) (.node (ob12_39 P) (.node (ob13_71 P) (.node (ob24_135 P) .nil .nil) .nil) (.node (ob15_103 P) (.node (ob24_167 P) .nil .nil) .nil)) (.node (ob12_55 P) (.node (ob14_87 P) (.node (ob24_151 P) .nil .nil) .nil) (.node (ob15_119 P) .nil .nil)))) (.node (oa_11 P) (.node (ob12_19 P) (.node (ob12_35 P) (.node (ob12_67 P) (.node (ob24_131 P) .nil .nil) .nil) (.node (ob15_99 P) (.node (ob24_163 P) .nil .nil) .nil)) (.node (ob12_51 P) (.node (ob14_83 P) (.node (ob24_147 P) .nil .nil) .nil) (.node (ob15_115 P) .nil .nil))) (.node (ob12_27 P) (.node (ob12_43 P) (.node (ob13_75 P) (.node (ob24_139 P) .nil .nil) .nil) (.node (ob15_107 P) (.node (ob24_171 P) .nil .nil) .nil)) (.node (ob12_59 P) (.node (ob15_91 P) (.node (ob24_155 P) .nil .nil) .nil) (.node (ob15_123 P) .nil .nil))))) (.node (boot_o_5 P) (.node (boot_o_9 P) (.node (ob12_17 P) (.node (ob12_33 P) (.node (ob12_65 P) (.node (ob24_129 P) .nil .nil) .nil) (.node (ob15_97 P) (.node (ob24_161 P) .nil .nil) .nil)) (.node (ob12_49 P) (.node (ob13_81 P) (.node (ob24_145 P) .nil .nil) .nil) (.node (ob15_113 P) (.node (ob24_177 P) .nil .nil) .nil))) (.node (ob12_25 P) (.node (ob12_41 P) (.node (ob13_73 P) (.node (ob24_137 P) .nil .nil) .nil) (.node (ob15_105 P) (.node (ob24_169 P) .nil .nil) .nil)) (.node (ob12_57 P) (.node (ob15_89 P) (.node (ob24_153 P) .nil .nil) .nil) (.node (ob15_121 P) .nil .nil)))) (.node (oa_13 P) (.node (ob12_21 P) (.node (ob12_37 P) (.node (ob12_69 P) (.node (ob24_133 P) .nil .nil) .nil) (.node (ob15_101 P) (.node (ob24_165 P) .nil .nil) .nil)) (.node (ob12_53 P) (.node (ob14_85 P) (.node (ob24_149 P) .nil .nil) .nil) (.node (ob15_117 P) .nil .nil))) (.node (ob12_29 P) (.node (ob12_45 P) (.node (ob13_77 P) (.node (ob24_141 P) .nil .nil) .nil) (.node (ob15_109 P) (.node (ob24_173 P) .nil .nil) .nil)) (.node (ob12_61 P) (.node (ob15_93 P) (.node (ob24_157 P) .nil .nil) .nil) (.node (ob15_125 P) .nil .nil)))))) (.node (boot_o_2 P) (.node (boot_o_4 P) (.node (boot_o_8 P) (.node (ob12_16 P) (.node (ob12_32 P) (.node (ob12_64 P) (.node (ob24_128 P) .nil .nil) .nil) (.node (ob15_96 P) (.node (ob24_160 P) .nil .nil) .nil)) (.node (ob12_48 P) (.node (ob13_80 P) (.node (ob24_144 P) .nil .nil) .nil) (.node (ob15_112 P) (.node (ob24_176 P) .nil .nil) .nil))) (.node (ob12_24 P) (.node (ob12_40 P) (.node (ob13_72 P) (.node (ob24_136 P) .nil .nil) .nil) (.node (ob15_104 P) (.node (ob24_168 P) .nil .nil) .nil)) (.node (ob12_56 P) (.node (ob14_88 P) (.node (ob24_152 P) .nil .nil) .nil) (.node (ob15_120 P) .nil .nil)))) (.node (ob24_12 P) (.node (ob12_20 P) (.node (ob12_36 P) (.node (ob12_68 P) (.node (ob24_132 P) .nil .nil) .nil) (.node (ob15_100 P) (.node (ob24_164 P) .nil .nil) .nil)) (.node (ob12_52 P) (.node (ob14_84 P) (.node (ob24_148 P) .nil .nil) .nil) (.node (ob15_116 P) .nil .nil))) (.node (ob12_28 P) (.node (ob12_44 P) (.node (ob13_76 P) (.node (ob24_140 P) .nil .nil) .nil) (.node (ob15_108 P) (.node (ob24_172 P) .nil .nil) .nil)) (.node (ob12_60 P) (.node (ob15_92 P) (.node (ob24_156 P) .nil .nil) .nil) (.node (ob15_124 P) .nil .nil))))) (.node (boot_o_6 P) (.node (boot_o_10 P) (.node (ob12_18 P) (.node (ob12_34 P) (.node (ob12_66 P) (.node (ob24_130 P) .nil .nil) .nil) (.node (ob15_98 P) (.node (ob24_162 P) .nil .nil) .nil)) (.node (ob12_50 P) (.node (ob14_82 P) (.node (ob24_146 P) .nil .nil) .nil) (.node (ob15_114 P) .nil .nil))) (.node (ob12_26 P) (.node (ob12_42 P) (.node (ob13_74 P) (.node (ob24_138 P) .nil .nil) .nil) (.node (ob15_106 P) (.node (ob24_170 P) .nil .nil) .nil)) (.node (ob12_58 P) (.node (ob15_90 P) (.node (ob24_154 P) .nil .nil) .nil) (.node (ob15_122 P) .nil .nil)))) (.node (oa_14 P) (.node (ob12_22 P) (.node (ob12_38 P) (.node (ob12_70 P) (.node (ob24_134 P) .nil .nil) .nil) (.node (ob15_102 P) (.node (ob24_166 P) .nil .nil) .nil)) (.node (ob12_54 P) (.node (ob14_86 P) (.node (ob24_150 P) .nil .nil) .nil) (.node (ob15_118 P) .nil .nil))) (.node (ob12_30 P) (.node (ob12_46 P) (.node (ob13_78 P) (.node (ob24_142 P) .nil .nil) .nil) (.node (ob15_110 P) (.node (ob24_174 P) .nil .nil) .nil)) (.node (ob12_62 P) (.node (ob15_94 P) (.node (ob24_158 P) .nil .nil) .nil) (.node (ob15_126 P) .nil .nil)))))))
noncomputable def sts16 : List Stmt := [st 16, st 17, st 18, st 19, st 20, st 21, st 22, st 23, st 24]
theorem g16 (w : World) (os : OsState) : segRunT treeTable pw w 11 (some (.ref 6)) 1 300 ⟨Tb15 w.params, 128, life0, #[], boot_drawn, 2310, os⟩ (piecesOf sts16 env cE ⟨96, 0, 96, 13⟩ B0) = some (.next, ⟨Tb24 w.params, 178, life0, #[], boot_drawn, 2386, os⟩, cE, ⟨174, 0, 198, 15⟩) := by kernel_rfl
noncomputable def H1 (P : Params) : Heap := ⟨⟨[boot_o_0 P, boot_o_1 P, boot_o_2 P, ob24_3 P, boot_o_4 P, boot_o_5 P, boot_o_6 P, boot_o_7 P, boot_o_8 P, boot_o_9 P, boot_o_10 P, oa_11 P, ob24_12 P, oa_13 P, oa_14 P, ob12_15 P, ob12_16 P, ob12_17 P, ob12_18 P, ob12_19 P, ob12_20 P, ob12_21 P, ob12_22 P, ob12_23 P, ob12_24 P, ob12_25 P, ob12_26 P, ob12_27 P, ob12_28 P, ob12_29 P, ob12_30 P, ob12_31 P, ob12_32 P, ob12_33 P, ob12_34 P, ob12_35 P, ob12_36 P, ob12_37 P, ob12_38 P, ob12_39 P, ob12_40 P, ob12_41 P, ob12_42 P, ob12_43 P, ob12_44 P, ob12_45 P, ob12_46 P, ob12_47 P, ob12_48 P, ob12_49 P, ob12_50 P, ob12_51 P, ob12_52 P, ob12_53 P, ob12_54 P, ob12_55 P, ob12_56 P, ob12_57 P, ob12_58 P, ob12_59 P, ob12_60 P, ob12_61 P, ob12_62 P, ob12_63 P, ob12_64 P, ob12_65 P, ob12_66 P, ob12_67 P, ob12_68 P, ob12_69 P, ob12_70 P, ob13_71 P, ob13_72 P, ob13_73 P, ob13_74 P, ob13_75 P, ob13_76 P, ob13_77 P, ob13_78 P, ob13_79 P, ob13_80 P, ob13_81 P, ob14_82 P, ob14_83 P, ob14_84 P, ob14_85 P, ob14_86 P, ob14_87 P, ob14_88 P, ob15_89 P, ob15_90 P, ob15_91 P, ob15_92 P, ob15_93 P, ob15_94 P, ob15_95 P, ob15_96 P, ob15_97 P, ob15_98 P, ob15_99 P, ob15_100 P, ob15_101 P, ob15_102 P, ob15_103 P, ob15_104 P, ob15_105 P, ob15_106 P, ob15_107 P, ob15_108 P, ob15_109 P, ob15_110 P, ob15_111 P, ob15_112 P, ob15_113 P, ob15_114 P, ob15_115 P, ob15_116 P, ob15_117 P, ob15_118 P, ob15_119 P, ob15_120 P, ob15_121 P, ob15_122 P, ob15_123 P, ob15_124 P, ob15_125 P, ob15_126 P, ob15_127 P, ob24_128 P, ob24_129 P, ob24_130 P, ob24_131 P, ob24_132 P, ob24_133 P, ob24_134 P, ob24_135 P, ob24_136 P, ob24_137 P, ob24_138 P, ob24_139 P, ob24_140 P, ob24_141 P, ob24_142 P, ob24_143 P, ob24_144 P, ob24_145 P, ob24_146 P, ob24_147 P, ob24_148 P, ob24_149 P, ob24_150 P, ob24_151 P, ob24_152 P, ob24_153 P, ob24_154 P, ob24_155 P, ob24_156 P, ob24_157 P, ob24_158 P, ob24_159 P, ob24_160 P, ob24_161 P, ob24_162 P, ob24_163 P, ob24_164 P, ob24_165 P, ob24_166 P, ob24_167 P, ob24_168 P, ob24_169 P, ob24_170 P, ob24_171 P, ob24_172 P, ob24_173 P, ob24_174 P, ob24_175 P, ob24_176 P, ob24_177 P]⟩, life0⟩

theorem run15 (w : World) (os : OsState) (rest : List Stmt) (N : Nat) (r : Shared) (k : topRun treeTable pw w 11 (some (.ref 6)) N ⟨absHeap (Tb15 w.params) 128 life0, #[], boot_drawn, 2310, os⟩ (restOf rest env cE ⟨96, 0, 96, 13⟩ B0) = some r) :
    topRun treeTable pw w 11 (some (.ref 6)) (12524 + N) ⟨absHeap (Tb14 w.params) 89 life0, #[], boot_drawn, 359, os⟩ (restOf ([st 15] ++ rest) env cE ⟨94, 0, 95, 30⟩ B0) = some r := by
  refine go_top (n := 12524) (s' := ⟨absHeap (Tb15 w.params) 128 life0, #[], boot_drawn, 2310, os⟩) (t' := restOf rest env cE ⟨96, 0, 96, 13⟩ B0) ?_ k
  unfold restOf
  rw [List.singleton_append, execs_cons_wrap, st15, exec_Assign_Name (hs := swap15)]
  have g0 : Go w 1 (standAt a15) ⟨absHeap (Tb14 w.params) 89 life0, #[], boot_drawn, 359, os⟩ ⟨94, 0, 95, 30⟩ () ⟨absHeap (Tb14 w.params) 89 life0, #[], boot_drawn, 359, os⟩ a15 := Go.standAt a15
  rw [Sem.bind_eq_wrap', Sem.wrap_wrap]
  refine tG_add (n := 1) (m := 12523) (g0 _ _ _ _) ?_
  show tG w 12523 _ ⟨(eval (.Dict ks15 vs15 q15) env >>= fun v => do standAt n15; bindName env (Str.ofString "b3_exceptions") v; pure Flow.next).wrap _ _ _ _, cE, a15, B0⟩ = _
  rw [Sem.bind_eq_wrap', Sem.wrap_wrap]
  exact tG_add (n := 223 + 330 * 37 + (1 + 13 * 4 + (5 + 6 * 4)) + 1) (m := 7) (go15 w _ (heap15 w.params) os _ _ _ _) (end15 w os _ _ _ _)

noncomputable abbrev ann0 : Option Value := some (.ref 6)
theorem pre0 (w : World) (os : OsState) : topGo treeTable pw w 11 ann0 12 ⟨boot_heap w.params, #[], boot_drawn, boot_toks, os⟩ (topStub pw) = some (⟨absHeap (Ta w.params) 15 life0, #[], boot_drawn, 187, os⟩, ⟨denote treeTable cE, cE, p0, B0⟩) := by kernel_rfl
theorem block0 (w : World) (os : OsState) : segRun treeTable pw w 11 ann0 1 1 ⟨absHeap (Ta w.params) 15 life0, #[], boot_drawn, 187, os⟩ (blockOf (behindTheImports pw) env cE p0 B0) = some (.next, ⟨absHeap (Ta w.params) 15 life0, #[], boot_drawn, 187, os⟩, cE, p0) := by kernel_rfl
theorem fin0 (w : World) (os : OsState) : topRun treeTable pw w 11 ann0 2 ⟨absHeap (Tb24 w.params) 178 life0, #[], boot_drawn, 2386, os⟩ (restOf [] env cE ⟨174, 0, 198, 15⟩ B0) = some ⟨H1 w.params, #[], boot_drawn, 2386, os⟩ := by kernel_rfl
theorem body0 : behindTheImports pw = sts1 ++ (sts13 ++ (sts14 ++ ([st 15] ++ (sts16 ++ [])))) := by kernel_rfl
theorem runAll (w : World) (os : OsState) : topRun treeTable pw w 11 ann0 (12 + (1 + (400 + (1000 + (40 + (12524 + (300 + 2))))))) ⟨boot_heap w.params, #[], boot_drawn, boot_toks, os⟩ (topStub pw) = some ⟨H1 w.params, #[], boot_drawn, 2386, os⟩ := by
  refine go_top (pre0 w os) ?_
  refine piece_block (block0 w os) ?_
  rw [body0]
  refine piece_app (segRun_of (g1 w os)) ?_
  refine piece_app (segRun_of (g13 w os)) ?_
  refine piece_app (segRun_of (g14 w os)) ?_
  refine run15 w os _ _ _ ?_
  exact piece_app (segRun_of (g16 w os)) (fin0 w os)
theorem open0 : ∀ w : World, (fencedOpening treeTable pw w 20000).map (fun s => (s.heap, s.gens, s.drawn, s.toks)) = some (boot_heap w.params, #[], boot_drawn, boot_toks) :=
  boot_open (by kernel_rfl) (by rfl) (fun s => by kernel_rfl)
theorem size0 (w : World) : ((boot_heap w.params).isNs mainGlobals && (#[] : Array GenState).size == 0, (boot_heap w.params).objs.size, (boot_heap w.params).nsMap mainGlobals "__annotations__") = (true, 11, some (.ref 6)) := by kernel_rfl
end Mine
end PartHT

noncomputable section PartHS
theorem Mine.resetHS : True := by (w_top off); k_with_none; first | (walk1; done) | trivial
set_option maxRecDepth 100000
set_option linter.all false
namespace Mine
open PySem PySem.W PyProof.Rows
noncomputable def KA (P : Params) : Frag := (nat_lit 2, boot_o_2 P) :: (nat_lit 3, ob24_3 P) :: (nat_lit 6, boot_o_6 P) :: (nat_lit 15, ob12_15 P) :: (nat_lit 17, ob12_17 P) :: (nat_lit 18, ob12_18 P) :: (nat_lit 20, ob12_20 P) :: (nat_lit 21, ob12_21 P) :: (nat_lit 22, ob12_22 P) :: (nat_lit 24, ob12_24 P) :: (nat_lit 25, ob12_25 P) :: (nat_lit 27, ob12_27 P) :: (nat_lit 28, ob12_28 P) :: (nat_lit 29, ob12_29 P) :: (nat_lit 31, ob12_31 P) :: (nat_lit 32, ob12_32 P) :: (nat_lit 34, ob12_34 P) :: (nat_lit 35, ob12_35 P) :: (nat_lit 36, ob12_36 P) :: (nat_lit 38, ob12_38 P) :: (nat_lit 39, ob12_39 P) :: (nat_lit 41, ob12_41 P) :: (nat_lit 42, ob12_42 P) :: (nat_lit 43, ob12_43 P) :: (nat_lit 45, ob12_45 P) :: (nat_lit 46, ob12_46 P) :: (nat_lit 48, ob12_48 P) :: (nat_lit 49, ob12_49 P) :: (nat_lit 50, ob12_50 P) :: (nat_lit 52, ob12_52 P) :: (nat_lit 53, ob12_53 P) :: (nat_lit 55, ob12_55 P) :: (nat_lit 56, ob12_56 P) :: (nat_lit 57, ob12_57 P) :: (nat_lit 59, ob12_59 P) :: (nat_lit 60, ob12_60 P) :: (nat_lit 62, ob12_62 P) :: (nat_lit 63, ob12_63 P) :: (nat_lit 64, ob12_64 P) :: (nat_lit 66, ob12_66 P) :: (nat_lit 67, ob12_67 P) :: (nat_lit 69, ob12_69 P) :: (nat_lit 70, ob12_70 P) :: (nat_lit 78, ob13_78 P) :: (nat_lit 82, ob14_82 P) :: (nat_lit 84, ob14_84 P) :: (nat_lit 85, ob14_85 P) :: (nat_lit 87, ob14_87 P) :: (nat_lit 88, ob14_88 P) :: (nat_lit 89, ob15_89 P) :: (nat_lit 130, ob24_130 P) :: (nat_lit 131, ob24_131 P) :: (nat_lit 133, ob24_133 P) :: (nat_lit 134, ob24_134 P) :: (nat_lit 135, ob24_135 P) :: (nat_lit 137, ob24_137 P) :: (nat_lit 138, ob24_138 P) :: (nat_lit 140, ob24_140 P) :: (nat_lit 141, ob24_141 P) :: (nat_lit 142, ob24_142 P) :: (nat_lit 144, ob24_144 P) :: (nat_lit 145, ob24_145 P) :: (nat_lit 147, ob24_147 P) :: (nat_lit 148, ob24_148 P) :: (nat_lit 149, ob24_149 P) :: (nat_lit 151, ob24_151 P) :: (nat_lit 152, ob24_152 P) :: (nat_lit 154, ob24_154 P) :: (nat_lit 155, ob24_155 P) :: (nat_lit 156, ob24_156 P) :: (nat_lit 158, ob24_158 P) :: (nat_lit 159, ob24_159 P) :: (nat_lit 161, ob24_161 P) :: (nat_lit 162, ob24_162 P) :: (nat_lit 163, ob24_163 P) :: (nat_lit 166, ob24_166 P) :: (nat_lit 167, ob24_167 P) :: (nat_lit 168, ob24_168 P) :: (nat_lit 171, ob24_171 P) :: (nat_lit 172, ob24_172 P) :: (nat_lit 173, ob24_173 P) :: (nat_lit 176, ob24_176 P) :: (nat_lit 177, ob24_177 P) :: []
noncomputable def kas : List Addr := [2, 3, 6, 15, 17, 18, 20, 21, 22, 24, 25, 27, 28, 29, 31, 32, 34, 35, 36, 38, 39, 41, 42, 43, 45, 46, 48, 49, 50, 52, 53, 55, 56, 57, 59, 60, 62, 63, 64, 66, 67, 69, 70, 78, 82, 84, 85, 87, 88, 89, 130, 131, 133, 134, 135, 137, 138, 140, 141, 142, 144, 145, 147, 148, 149, 151, 152, 154, 155, 156, 158, 159, 161, 162, 163, 166, 167, 168, 171, 172, 173, 176, 177]

noncomputable def qv : Program := { pw with main := { pw.main with body := [1, 2, 3, 4, 5, 6, 7, 9, 10, 11, 13, 14, 15, 16, 17, 19, 20, 21, 22, 23, 24].map st } }
noncomputable def stArgs : Stmt → Arguments | .FunctionDef _ a _ _ _ _ _ _ _ _ => a | _ => ⟨[], [], none, [], [], none, []⟩
noncomputable def stBody : Stmt → List Stmt | .FunctionDef _ _ b _ _ _ _ _ _ _ => b | _ => []
noncomputable def stScope : Stmt → Scope | .FunctionDef _ _ _ _ _ _ s _ _ _ => s | _ => { kind := .function, names := [], isGenerator := false, isCoroutine := false, more := [] }
noncomputable def stPos : Stmt → Pos | .FunctionDef _ _ _ _ _ _ _ _ _ p => p | _ => p0
noncomputable def inDef : List Stmt → Stmt
  | [] => .Pass p0
  | .FunctionDef a b c d e f g h i j :: _ => .FunctionDef a b c d e f g h i j
  | _ :: r => inDef r
noncomputable abbrev loo : List Str := [Str.ofString "b1_set", Str.ofString "b3_exceptions"]
abbrev rw0 : OpenLaw := PySem.Challenge.rw_ul0025_01
noncomputable abbrev hk0 : Hook := kmHook KA kas (fun _ => by kernel_rfl) [30, 37]
noncomputable abbrev Xt0 : Shared → Bool := fun s => xlAt qv [] s && recOk (RowW.records rw0.row.toRowW) s
theorem fastOS : @openSeen = @PySem.W.Fast.tw4187177175401517315 := PySem.W.Fast.te4187177175401517315
theorem look1 (w : World) (os : OsState) : (staticsOk (importedModules pw.main.body) (boot_heap w.params) (H1 w.params) && namesBound pw (H1 w.params) && gensDone ⟨H1 w.params, #[], boot_drawn, 2386, os⟩ && laidKept (boot_heap w.params) (H1 w.params)) = true := by kernel_rfl
noncomputable def ascInt : Int → List (PyData × PyData) → Bool
  | _, [] => true
  | b, (.int k, _) :: D => decide (b < k) && ascInt k D
  | _, _ => false
theorem asc_no : ∀ {D : List (PyData × PyData)} {b k : Int}, ascInt b D = true → k ≤ b → hasIntKey k D = false
  | [], _, _, _, _ => rfl
  | (.int j, _) :: D, b, k, h, hk => by
    have h1 := Bool.and_eq_true_iff.mp h
    have hj : b < j := of_decide_eq_true h1.1
    have hn : (j == k) = false := beq_eq_false_iff_ne.mpr (Int.ne_of_gt (Int.lt_of_le_of_lt hk hj))
    show ((j == k) || hasIntKey k D) = false
    rw [hn, asc_no h1.2 (Int.le_of_lt (Int.lt_of_le_of_lt hk hj))]; rfl
theorem asc_apart : ∀ {D : List (PyData × PyData)} {b : Int}, ascInt b D = true → keysApartInt D = true
  | [], _, _ => rfl
  | (.int j, _) :: D, b, h => by
    have h1 := Bool.and_eq_true_iff.mp h
    show (!hasIntKey j D && keysApartInt D) = true
    rw [asc_no h1.2 (Int.le_refl j), asc_apart h1.2]; rfl
theorem tabIntOk_of {h : Heap} {x : Str} {D : List (PyData × PyData)} {a : Addr} {o : Obj} {E : List DictEntry} {k : Nat} (h1 : h.nsMap mainGlobals x = some (.ref a)) (h2 : h.get? a = some o) (h3 : o.cls = .type "dict") (h4 : o.dict = none) (h5 : o.data = .dict ⟨E⟩ k) (h6 : o.slots.size = 0) (h7 : entriesAreInt E D = true) (h8 : ascInt (-1) D = true) (h9 : (a != sysModules) = true) : h.tabIntOk x D = true := by
  unfold Heap.tabIntOk
  rw [h1]
  simp only [h2, h3, h4, h5, h6, h7, asc_apart h8, h9]
  rfl
noncomputable def D0 : List (PyData × PyData) := (tabIntOf qv (Str.ofString "b3_exceptions")).getD []
theorem tabsD : tabIntOf qv (Str.ofString "b3_exceptions") = some D0 := by kernel_rfl
theorem tabsA : ascInt (-1) D0 = true := by kernel_rfl
theorem tabsN (w : World) : (H1 w.params).nsMap mainGlobals (Str.ofString "b3_exceptions") = some (.ref 89) := by kernel_rfl
theorem tabsE : entriesAreInt E15 D0 = true := by kernel_rfl
theorem tabs1 (w : World) : tablesOk qv (H1 w.params) = true := by
  unfold tablesOk
  rw [show valNames qv = [Str.ofString "_DIV_LIMIT", Str.ofString "CHAR_MAX", Str.ofString "b1_set", Str.ofString "b3_exceptions"] by kernel_rfl]
  refine Bool.and_eq_true_iff.mpr ⟨by kernel_rfl, Bool.and_eq_true_iff.mpr ⟨by kernel_rfl, Bool.and_eq_true_iff.mpr ⟨by kernel_rfl, Bool.and_eq_true_iff.mpr ⟨?_, rfl⟩⟩⟩⟩
  refine Bool.and_eq_true_iff.mpr ⟨by kernel_rfl, ?_⟩
  rw [tabsD]
  exact tabIntOk_of (o := dO E15 650) (E := E15) (tabsN w) (by kernel_rfl) rfl rfl rfl rfl tabsE tabsA (by decide)
theorem openSeen_of {q : Program} {loose mods : List Str} {Xt : Shared → Bool} {s : Shared} (h0 : seen ((recsOf q).map (·.name)) (ownsOf q) [] { s with gens := #[] } = expectedOf q) (h1 : s.heap.bltView = bltViewBooted)
    (h2 : s.heap.keysOk (looseW q loose) ((recsOf q).map (·.name)) ((litsOf q).map (·.1)) ((clssOf q (looseW q loose)).map (·.name)) = true) (h3 : s.heap.accountedOkI mods = true) (h4 : s.heap.isNs mainGlobals = true) (h5 : s.heap.isNs builtinsNs = true) (h6 : tablesOk q s.heap = true) (h7 : Xt s = true) (h8 : (s.gens.size == 0) = true)
    (h9 : tabsOk q s = true) (h10 : pinSeenD q (drecsOf q) s = pinGoodD (drecsOf q)) (h11 : plainSeenE q (looseW q loose) s = plainGoodE q (looseW q loose)) (h12 : plainSeenD q loose s = plainGoodD q loose) (h13 : wideSeen q s = wideGood q) (h14 : clsSeenW q loose s = clsGoodW q loose) : openSeen q loose mods Xt true s = openGood q loose := by
  unfold openSeen openGood
  rw [h0, h1, h2, h3, h4, h5, h6, h7, h9, h10, h11, h12, h13, h14, if_pos rfl, h8]
  rfl
theorem look2 (w : World) (os : OsState) : openSeen qv loo (importedModules pw.main.body) Xt0 true ⟨H1 w.params, #[], boot_drawn, 2386, os⟩ = openGood qv loo :=
  openSeen_of (by kernel_rfl) (by kernel_rfl) (by kernel_rfl) (by kernel_rfl) (by kernel_rfl) (by kernel_rfl) (tabs1 w) (by kernel_rfl) rfl (by kernel_rfl) (by kernel_rfl) (by kernel_rfl) (by kernel_rfl) (by kernel_rfl) (by kernel_rfl)
theorem look3 (w : World) (os : OsState) : hk0.obs ⟨H1 w.params, #[], boot_drawn, 2386, os⟩ = hk0.val w := by kernel_rfl
theorem left0 : LeftO pw qv loo Xt0 hk0.obs hk0.val 20000 :=
  LeftO.of_pieces (H₀ := boot_heap) (H₁ := H1) (gs₀ := #[]) (gs₁ := #[]) (d₀ := boot_drawn) (d₁ := boot_drawn) (k₀ := boot_toks) (k₁ := 2386) open0 size0 runAll (by rfl)
    (fun w => funext fun os => Prod.ext (look1 w os) (Prod.ext (look2 w os) (look3 w os)))
end Mine
end PartHS

noncomputable section PartHR
theorem Mine.resetHR : True := by (w_top off); k_with_none; first | (walk1; done) | trivial
set_option maxRecDepth 100000
set_option linter.all false
namespace Mine
open PySem PySem.W PyProof.Rows
noncomputable def d0 : PySem.DefRec := { name := Str.ofString "law", params := stArgs (st 24), body := stBody (st 24), scope := stScope (st 24), pos := stPos (st 24) }
theorem hdef0 : defOf qv rw0.row.name = some (d0, []) := by kernel_rfl
theorem hp0 : rw0.row.prog.theDef rw0.row.name = some (d0.params, d0.body, d0.scope) := by kernel_rfl
theorem hk00 : kwWritten? d0.params.kwonlyargs d0.params.kw_defaults = some [] := by kernel_rfl
theorem fastWS : @OpenLaw.wellSaid = @PySem.W.Fast.tw9446332074065402090 := PySem.W.Fast.te9446332074065402090
theorem said0 : rw0.wellSaid = true := (congrFun fastWS rw0).trans (by kernel_rfl)
set_option maxHeartbeats 8000000 in
theorem top0 (walk : WalkO qv loo (XL qv []) hk0.says rw0.row.toRowW d0 [] fun f vs => PySem.call f vs) : rw0.Holds := by
  refine holds_law said0 fun said => ?_
  refine PySem.W.holds_open (q := qv) (loose := loo) (Xt := Xt0) (XP := XL qv []) (Yf := hk0.obs) (Ya := hk0.val) (YP := hk0.says) (d := d0) (kwd := []) (N := 20000) left0 hk0.of hk0.keeps (fun s e => xl_of s (Bool.and_eq_true_iff.mp e).1) XL.keeps hdef0 hp0 hk00 (fun s e => recFacts_of (Bool.and_eq_true_iff.mp e).2) (by rfl) said (by decide +kernel) ⟨rfl, rfl, rfl, rfl, rfl, by decide +kernel⟩ ?hw ?hc
  case hw => w_witness2
  case hc => exact walk
end Mine
end PartHR

noncomputable section PartW1
theorem Mine.resetW1 : True := by (w_top off); k_with_none; first | (walk1; done) | trivial
set_option maxRecDepth 100000
set_option linter.all false
namespace Mine
open PySem PySem.W PyProof.Rows
noncomputable def Ctr (w : World) (f : Addr) (args : List Value) (Pre : List (Addr × Obj) → Prop) (R : Value → List (Addr × Obj) → Prop) : Prop :=
  ∀ (dp un : Nat) (gd : Option (List Code)) (cn : Str) (cs : Scope) (a : Addr) (ccd : Value) (cl : List (Str × Addr)) (outer : List Env) (A₀ : Around) (base h₀ : Heap) (L : Addr) (m : Str → Option Value) (news : List (Addr × Obj)) (s : Shared)
    (loose : List Str) (mean : ExcName → Option Value) (mg mb : Str → Option Value) (Q E : Value → Shared → Prop),
    Below A₀ base outer h₀ → Fr h₀ L s.heap m → (KA w.params).In h₀ → News h₀ L s.heap news → Top topProg loose mean mg mb h₀ → cs.kind = .function → dp + 40 < recursionLimit → un + 400 < cLine → Pre news →
    (∀ v own h' tk', R v own → Fr h₀ L h' m → News h₀ L h' (own ++ news) → (∀ p ∈ own, ∀ q ∈ news, q.1 < p.1) → Q v { s with heap := h', toks := tk' }) →
    wpAny (model PySem.Challenge.rw_ul0025_01.row.prog w) (ktrTop dp un gd cn cs L a ccd cl outer) (call (.ref f) args) Q E s
noncomputable def CtrN (w : World) (f : Addr) (args : List Value) (room : Nat) (inL : List (Addr × Obj)) (R : Value → List (Addr × Obj) → Prop) : Prop :=
  ∀ (dp un : Nat) (gd : Option (List Code)) (cn : Str) (cs : Scope) (a : Addr) (ccd : Value) (cl : List (Str × Addr)) (outer : List Env) (A₀ : Around) (base h₀ : Heap) (L : Addr) (m : Str → Option Value) (s : Shared)
    (loose : List Str) (mean : ExcName → Option Value) (mg mb : Str → Option Value) (Q E : Value → Shared → Prop),
    Below A₀ base outer h₀ → Fr h₀ L s.heap m → (KA w.params).In h₀ → News h₀ L s.heap inL → Top topProg loose mean mg mb h₀ → CodeHd base 34 30 → CodeHd base 41 37 → cs.kind = .function → dp + room < recursionLimit → un + 16 * room < cLine →
    (∀ v out h' tk', R v out → Fr h₀ L h' m → News h₀ L h' out → Q v { s with heap := h', toks := tk' }) →
    wpAny (model PySem.Challenge.rw_ul0025_01.row.prog w) (ktrTop dp un gd cn cs L a ccd cl outer) (call (.ref f) args) Q E s
theorem CtrN.use {w : World} {f : Addr} {args : List Value} {room : Nat} {inL act : List (Addr × Obj)} {R : Value → List (Addr × Obj) → Prop} {dp un : Nat} {gd : Option (List Code)} {cn : Str} {cs : Scope} {a : Addr} {ccd : Value} {cl : List (Str × Addr)} {outer : List Env} {A₀ : Around} {base h₀ : Heap} {L : Addr} {m : Str → Option Value} {s : Shared}
    {loose : List Str} {mean : ExcName → Option Value} {mg mb : Str → Option Value} {Q E : Value → Shared → Prop} (c : CtrN w f args room inL R)
    (B : Below A₀ base outer h₀) (F : Fr h₀ L s.heap m) (X : (KA w.params).In h₀) (N : News h₀ L s.heap act) (hs : ∀ p ∈ inL, p ∈ act) (T : Top topProg loose mean mg mb h₀) (C1 : CodeHd base 34 30) (C2 : CodeHd base 41 37) (hk : cs.kind = .function) (hd : dp + room < recursionLimit) (hu : un + 16 * room < cLine)
    (hR : ∀ v out h' tk', R v out → Fr h₀ L h' m → News h₀ L h' out → Q v { s with heap := h', toks := tk' }) :
    wpAny (model PySem.Challenge.rw_ul0025_01.row.prog w) (ktrTop dp un gd cn cs L a ccd cl outer) (call (.ref f) args) Q E s := c dp un gd cn cs a ccd cl outer A₀ base h₀ L m s loose mean mg mb Q E B F X (fun p hp => N p (hs p hp)) T C1 C2 hk hd hu hR
theorem ne_of_bnd {l : List (Addr × Obj)} {b d : Addr} (h : ∀ q ∈ l, q.1 < b) (hb : @LE.le Nat _ b d) : ∀ q ∈ l, q.1 ≠ d := fun q hq => Nat.ne_of_lt (Nat.lt_of_lt_of_le (h q hq) hb)
noncomputable abbrev Any : List (Addr × Obj) → Prop := fun _ => True
set_option maxHeartbeats 4000000 in
theorem c11_ctr (w : World) (x : Str) (t : Tok) : Ctr w 141 [.str x t] Any (fun v own => v = .bool (x == Str.ofString " ") ∧ own = []) := by
  unfold Ctr
  k_fill
  intro dp un gd cn cs a ccd cl outer A₀ base h₀ L m news s loose mean mg mb Q E B F X N T hk hd hu hp hret
  refine wpAny_call ?_
  k_dflt cell_enter
  k_steps
  all_goals first
  | exact hret _ [] _ _ (by first | exact ⟨rfl, rfl⟩ | exact ⟨⟨_, rfl⟩, rfl⟩) (by assumption) (by assumption) (fun _ h => nomatch h)
set_option maxHeartbeats 4000000 in
theorem coll_ctr (w : World) (x y : Str) (t u : Tok) : Ctr w 63 [.str x t, .str y u] Any (fun v own => (∃ tk, v = .int (b2i (decide (y.cps.toList < x.cps.toList)) - b2i (decide (x.cps.toList < y.cps.toList))) tk) ∧ own = []) := by
  unfold Ctr
  k_fill
  intro dp un gd cn cs a ccd cl outer A₀ base h₀ L m news s loose mean mg mb Q E B F X N T hk hd hu hp hret
  refine wpAny_call ?_
  k_dflt cell_enter
  k_steps
  all_goals first
  | exact hret _ [] _ _ (by first | exact ⟨rfl, rfl⟩ | exact ⟨⟨_, rfl⟩, rfl⟩) (by assumption) (by assumption) (fun _ h => nomatch h)
/-- the post and the raise's post as two letters: what the walk carries along stays small -/
theorem gen_post {α : Type} {M : Model} {A : Around} {t : Sem α} {P : α → Shared → Prop} {E : Value → Shared → Prop} {s : Shared} (h : ∀ (Q : α → Shared → Prop), (∀ v s', P v s' → Q v s') → wpAny M A t Q (fun _ _ => False) s) : wpAny M A t P E s := wpAny_noRaise (h P fun _ _ x => x)
theorem gen_post2 {α β : Type} {M M' : Model} {A A' : Around} {t : Sem α} {t' : Sem β} {P : β → Shared → Prop} {E1 E2 : Value → Shared → Prop} {s : Shared} (h : ∀ (Q : β → Shared → Prop), (∀ v s', P v s' → Q v s') → wpAny M A t (fun _ s₂ => wpAny M' A' t' Q (fun _ _ => False) s₂) (fun _ _ => False) s) : wpAny M A t (fun _ s₂ => wpAny M' A' t' P E1 s₂) E2 s :=
  wpAny_mono (wpAny_noRaise (h P fun _ _ x => x)) (fun _ _ x => wpAny_noRaise x) (fun _ _ e => e)
end Mine
end PartW1

noncomputable section PartW2
theorem Mine.resetW2 : True := by (w_top off); k_with_none; first | (walk1; done) | trivial
set_option maxRecDepth 100000
set_option linter.all false
namespace Mine
open PySem PySem.W PyProof.Rows
noncomputable def b1codes : List Int := [65024, 65025, 65026, 65027, 65028, 65029, 6150, 65030, 65031, 65032, 65033, 6155, 6156, 6157, 8203, 8204, 8205, 65034, 65035, 65036, 65037, 65038, 65039, 173, 847, 8288, 65279]
noncomputable def pairOf (e : Int × Value) : Option (Int × Int) := match e.2 with | .int j _ => some (e.1, j) | _ => none
theorem pairs_int {l : List (Int × Value)} {cs : List Int} (h : l.map pairOf = cs.map fun j => some (hashInt j, j)) : (∀ e ∈ l, ∃ j t, e = (hashInt j, .int j t) ∧ j ∈ cs) ∧ ∀ j ∈ cs, ∃ t, (hashInt j, Value.int j t) ∈ l := by
  induction l generalizing cs with
  | nil =>
    cases cs with
    | nil => exact ⟨fun e he => (by cases he), fun j hj => (by cases hj)⟩
    | cons c cs => cases h
  | cons e l ih =>
    cases cs with
    | nil => cases h
    | cons c cs =>
      rw [List.map_cons, List.map_cons, List.cons.injEq] at h
      obtain ⟨h1, h2⟩ := h
      obtain ⟨i1, i2⟩ := ih h2
      obtain ⟨a, v⟩ := e
      have hv : ∃ t, v = .int c t ∧ a = hashInt c := by
        unfold pairOf at h1
        cases v with
        | int j t => simp only [Option.some.injEq, Prod.mk.injEq] at h1; exact ⟨t, by rw [h1.2], h1.1⟩
        | _ => cases h1
      obtain ⟨t, rfl, rfl⟩ := hv
      refine ⟨fun e he => ?_, fun j hj => ?_⟩
      · cases he with
        | head => exact ⟨c, t, rfl, .head _⟩
        | tail _ he => obtain ⟨j, t, e1, e2⟩ := i1 e he; exact ⟨j, t, e1, .tail _ e2⟩
      · cases hj with
        | head => exact ⟨t, .head _⟩
        | tail _ hj => obtain ⟨t, e1⟩ := i2 j hj; exact ⟨t, .tail _ e1⟩
theorem b1_set {prog : Program} {w : World} (P : Params) : (ob13_78 P).SetObjOf (intKind prog w) (fun k => decide (k ∈ b1codes)) 27 := by
  refine ⟨⟨rfl, rfl, rfl⟩, _, 29, _, rfl, ?_, ?_, rfl, by rfl⟩
  · intro e he
    obtain ⟨j, t, rfl, _⟩ := (pairs_int (cs := b1codes) (by kernel_rfl)).1 e he
    exact ⟨⟨j, isInt_self j t, rfl⟩, rfl⟩
  · intro k
    have H := pairs_int (l := (#[(65024, (.int 65024 308)), (65025, (.int 65025 309)), (65026, (.int 65026 310)), (65027, (.int 65027 311)), (65028, (.int 65028 312)), (65029, (.int 65029 313)), (6150, (.int 6150 294)), (65030, (.int 65030 314)), (65031, (.int 65031 315)), (65032, (.int 65032 316)), (65033, (.int 65033 317)), (6155, (.int 6155 295)), (6156, (.int 6156 296)), (6157, (.int 6157 297)), (8203, (.int 8203 298)), (8204, (.int 8204 299)), (8205, (.int 8205 300)), (65034, (.int 65034 318)), (65035, (.int 65035 319)), (65036, (.int 65036 320)), (65037, (.int 65037 321)), (65038, (.int 65038 322)), (65039, (.int 65039 323)), (173, (.int 173 292)), (847, (.int 847 293)), (8288, (.int 8288 301)), (65279, (.int 65279 302))] : Array (Int × Value)).toList) (cs := b1codes) (by kernel_rfl)
    refine ⟨fun h => ?_, ?_⟩
    · obtain ⟨t, ht⟩ := H.2 k (of_decide_eq_true h)
      exact ⟨_, ht, isInt_self k t⟩
    · rintro ⟨e, he, hk⟩
      obtain ⟨j, t, rfl, hj⟩ := H.1 e he
      have hk : Value.isInt k (.int j t) = true := hk
      obtain ⟨u, hu⟩ := Value.isInt_shape hk
      injection hu with hu _
      subst hu
      exact decide_eq_true hj
theorem KA_78 (P : Params) : (KA P).lookup 78 = some (ob13_78 P) := by kernel_rfl
theorem in_b1 {prog : Program} {w : World} {A : Around} {E : Value → Shared → Prop} {s : Shared} {h₀ : Heap} {L : Addr} {m : Str → Option Value} {t : Tok} {Q : Value → Shared → Prop} {k : Int} {P : Params} (F : Fr h₀ L s.heap m) (X : (KA P).In h₀) (h : Q (.bool (decide (k ∈ b1codes))) { s with toks := s.toks + 1 }) :
    wpAny (model prog w) A (compareOp .In (.int k t) (.ref 78)) Q E s := in_argsetI F (b1_set P) (X _ _ (KA_78 P)) (by decide) h
local macro_rules | `(tactic| walk_at $s:str) => `(tactic| k_extra $s)
theorem wordW2_0 : True := by k_with_none; trivial
theorem wordW2_1 : True := by (k_with "compareOp In int ref" => ((k_here; (k_dflt (refine' in_b1 ?wqF ?wqX ?_; (case wqF => k_asm); (case wqX => k_asm); k_whole))))); trivial
set_option maxHeartbeats 4000000 in
theorem b1_ctr (w : World) (c : Nat) (t : Tok) : Ctr w 88 [.str ⟨#[c]⟩ t] Any (fun v own => v = .bool (decide ((c : Int) ∈ b1codes)) ∧ own = []) := by
  unfold Ctr
  k_fill
  intro dp un gd cn cs a ccd cl outer A₀ base h₀ L m news s loose mean mg mb Q E B F X N T hk hd hu hp hret
  refine wpAny_call ?_
  k_dflt cell_enter
  k_steps
  all_goals first
  | exact hret _ [] _ _ (by first | exact ⟨rfl, rfl⟩ | exact ⟨⟨_, rfl⟩, rfl⟩) (by assumption) (by assumption) (fun _ h => nomatch h)
end Mine
end PartW2

noncomputable section PartW3
theorem Mine.resetW3 : True := by (w_top off); k_with_none; first | (walk1; done) | trivial
set_option maxRecDepth 100000
set_option linter.all false
namespace Mine
open PySem PySem.W PyProof.Rows
noncomputable def b3get (c : Int) : Option Value := findBy Value.isInt E15.toArray c
theorem KA_89 (P : Params) : (KA P).lookup 89 = some (ob15_89 P) := by kernel_rfl
theorem E15_keys : (E15.all fun e => match e.key with | .int j _ => e.hash == hashInt j | _ => false) = true := by kernel_rfl
section
variable {prog : Program} {w : World} {A : Around} {E : Value → Shared → Prop} {s : Shared} {h₀ : Heap} {L : Addr} {m : Str → Option Value} {P : Params}
theorem b3_map (F : Fr h₀ L s.heap m) (X : (KA P).In h₀) : s.heap.MapOf (intKind prog w) 89 b3get := by
  refine ⟨ob15_89 P, E15.toArray, 650, F.keep _ _ (X _ _ (KA_89 P)), ⟨rfl, rfl, rfl⟩, rfl, ?_, fun k => rfl⟩
  intro e he
  have := List.all_eq_true.mp E15_keys e (by simpa using he)
  obtain ⟨hs, k, v⟩ := e
  cases k with
  | int j t => exact ⟨j, isInt_self j t, eq_of_beq this⟩
  | _ => cases this
theorem b3_meth {pl : Sem Bool} {Q : Value × List Value → Shared → Prop} (F : Fr h₀ L s.heap m) (X : (KA P).In h₀) (h : Q (.builtin "dict.get", [.ref 89]) s) : wpAny (model prog w) A (getMethod (.ref 89) "get" pl) Q E s :=
  have hD : s.heap.MapOf (intKind prog w) 89 b3get := b3_map F X
  getMethod_builtin hD.typeIs PySem.F.plainAttrs_dict PySem.F.slot_dict_get PySem.F.type_dict_get hD.noDict h
theorem b3_call {Q : Value → Shared → Prop} {c : Int} {t : Tok} {r : Option Value} (F : Fr h₀ L s.heap m) (X : (KA P).In h₀) (hr : b3get c = r) (h : Q (r.getD .none) { s with toks := s.toks + 1 }) : wpAny (model prog w) A (call (.builtin "dict.get") [.ref 89, .int c t]) Q E s :=
  have hD : s.heap.MapOf (intKind prog w) 89 b3get := b3_map F X
  call_meetsIn PySem.F.slot_dict_get hD.typeIs PySem.F.entry_dict_get (PySem.F.args_dict_get_2 _ _) (meets_dict_get (intKind prog w) 89 (isInt_self c t) rfl) ⟨_, hD, by rw [hr]; exact h⟩
end
local macro_rules | `(tactic| walk_at $s:str) => `(tactic| k_extra $s)
theorem wordW3_0 : True := by k_with_none; trivial
theorem wordW3_1 : True := by (k_with "getMethod ref" => ((k_here; (k_dflt (refine' b3_meth ?wqF ?wqX ?_; (case wqF => k_asm); (case wqX => k_asm); k_whole))))); trivial
theorem wordW3_2 : True := by (k_with "call builtin:dict.get" => ((k_here; (k_dflt (refine' b3_call ?wqF ?wqX ?wqr ?_; (case wqF => k_asm); (case wqX => k_asm); (case wqr => assumption); k_whole; (try dsimp only [Option.getD])))))); trivial
theorem wordW3_3 : True := by (k_with "call builtin:str.lower" => ((k_here; ((with_reducible_and_instances show wpAny _ _ (call (Value.builtin "str.lower") [Value.str _ _]) _ _ _); (refine SCL.lower (show (1 : Nat) ≤ 5592405 by decide) ?_); intro _)))); trivial
set_option maxHeartbeats 4000000 in
theorem b3_some (w : World) (c : Nat) (t : Tok) (x : Str) (u : Tok) (hc : b3get c = some (.str x u)) : Ctr w 134 [.str ⟨#[c]⟩ t] Any (fun v own => v = .str x u ∧ own = []) := by
  unfold Ctr
  k_fill
  intro dp un gd cn cs a ccd cl outer A₀ base h₀ L m news s loose mean mg mb Q E B F X N T hk hd hu hp hret
  refine wpAny_call ?_
  k_dflt cell_enter
  k_steps
  all_goals first
  | exact hret _ [] _ _ (by first | exact ⟨rfl, rfl⟩ | exact ⟨⟨_, rfl⟩, rfl⟩) (by assumption) (by assumption) (fun _ h => nomatch h)
set_option maxHeartbeats 4000000 in
theorem b3_none (w : World) (c : Nat) (t : Tok) (hc : b3get c = none) : Ctr w 134 [.str ⟨#[c]⟩ t] Any (fun v own => (∃ u, v = .str (Txt.lower ⟨#[c]⟩) u) ∧ own = []) := by
  unfold Ctr
  k_fill
  intro dp un gd cn cs a ccd cl outer A₀ base h₀ L m news s loose mean mg mb Q E B F X N T hk hd hu hp hret
  refine wpAny_call ?_
  k_dflt cell_enter
  k_steps
  all_goals first
  | exact hret _ [] _ _ (by first | exact ⟨rfl, rfl⟩ | exact ⟨⟨_, rfl⟩, rfl⟩) (by assumption) (by assumption) (fun _ h => nomatch h)
end Mine
end PartW3

noncomputable section PartP1
theorem Mine.resetP1 : True := by (w_top off); k_with_none; first | (walk1; done) | trivial
set_option linter.all false
namespace Mine
open PySem PySem.W PyProof.Rows
noncomputable def dval (b : Int) : List Int → Int
  | [] => 0
  | d :: r => d + b * dval b r
noncomputable def dsl (b : Int) (ns : List Int) (x y : Int) : Int := dval b ((ns.drop x.toNat).take (y.toNat - x.toNat))
theorem dval_append (b : Int) : ∀ l r : List Int, dval b (l ++ r) = dval b l + b ^ l.length * dval b r
  | [], r => by simp [dval]
  | d :: l, r => by
    simp only [List.cons_append, dval, List.length_cons, dval_append b l r]
    rw [Int.mul_add, Int.pow_succ]
    have : b * (b ^ l.length * dval b r) = b ^ l.length * b * dval b r := by rw [← Int.mul_assoc, Int.mul_comm b]
    omega
theorem dsl_one {b : Int} {ns : List Int} {x y : Int} (h0 : 0 ≤ x) (h : x + 1 = y) (hy : y ≤ ns.length) : ns.getD x.toNat 0 = dsl b ns x y := by
  have e : y.toNat - x.toNat = 1 := by omega
  have hl : x.toNat < ns.length := by omega
  unfold dsl
  rw [e]
  have : (ns.drop x.toNat).take 1 = [ns[x.toNat]] := by
    rw [List.drop_eq_getElem_cons hl]; rfl
  rw [this]
  simp [dval, List.getD_eq_getElem?_getD, List.getElem?_eq_getElem hl]
theorem dis08 {b : Int} (h0 : 0 ≤ b) (h : b ≤ 8) : b = 0 ∨ b = 1 ∨ b = 2 ∨ b = 3 ∨ b = 4 ∨ b = 5 ∨ b = 6 ∨ b = 7 ∨ b = 8 := by
  obtain ⟨k, rfl⟩ := Int.eq_ofNat_of_zero_le h0
  exact (by decide : ∀ k, k < 9 → ((k : Nat) : Int) = 0 ∨ ((k : Nat) : Int) = 1 ∨ ((k : Nat) : Int) = 2 ∨ ((k : Nat) : Int) = 3 ∨ ((k : Nat) : Int) = 4 ∨ ((k : Nat) : Int) = 5 ∨ ((k : Nat) : Int) = 6 ∨ ((k : Nat) : Int) = 7 ∨ ((k : Nat) : Int) = 8) k (Nat.lt_succ_of_le (Int.ofNat_le.mp h))
theorem dis512 {b : Int} (h : 5 ≤ b ∧ b ≤ 12) : b = 5 ∨ b = 6 ∨ b = 7 ∨ b = 8 ∨ b = 9 ∨ b = 10 ∨ b = 11 ∨ b = 12 := by
  obtain ⟨k, rfl⟩ := Int.eq_ofNat_of_zero_le (Int.le_trans (by decide) h.1)
  exact (by decide : ∀ k, k < 13 → 5 ≤ k → ((k : Nat) : Int) = 5 ∨ ((k : Nat) : Int) = 6 ∨ ((k : Nat) : Int) = 7 ∨ ((k : Nat) : Int) = 8 ∨ ((k : Nat) : Int) = 9 ∨ ((k : Nat) : Int) = 10 ∨ ((k : Nat) : Int) = 11 ∨ ((k : Nat) : Int) = 12) k (Nat.lt_succ_of_le (Int.ofNat_le.mp h.2)) (Int.ofNat_le.mp h.1)
theorem dsl_split {b : Int} {ns : List Int} {x m y : Int} (h0 : 0 ≤ x) (h1 : x ≤ m) (h2 : m ≤ y) (hy : y ≤ ns.length) : dsl b ns m y * b ^ (m - x).toNat + dsl b ns x m = dsl b ns x y := by
  obtain ⟨x, rfl⟩ := Int.eq_ofNat_of_zero_le h0
  obtain ⟨m, rfl⟩ := Int.eq_ofNat_of_zero_le (Int.le_trans h0 h1)
  obtain ⟨y, rfl⟩ := Int.eq_ofNat_of_zero_le (Int.le_trans (Int.le_trans h0 h1) h2)
  have h1 : x ≤ m := Int.ofNat_le.mp h1
  have h2 : m ≤ y := Int.ofNat_le.mp h2
  have hy : y ≤ ns.length := Int.ofNat_le.mp hy
  show dval b ((ns.drop m).take (y - m)) * b ^ ((m : Int) - x).toNat + dval b ((ns.drop x).take (m - x)) = dval b ((ns.drop x).take (y - x))
  have e : (ns.drop x).take (y - x) = (ns.drop x).take (m - x) ++ (ns.drop m).take (y - m) := by
    rw [← Nat.sub_add_sub_cancel h2 h1, Nat.add_comm, List.take_add, List.drop_drop, Nat.add_sub_of_le h1]
  have hl : ((ns.drop x).take (m - x)).length = m - x := by
    rw [List.length_take, List.length_drop]; exact Nat.min_eq_left (Nat.sub_le_sub_right (Nat.le_trans h2 hy) x)
  rw [e, dval_append, hl, Int.toNat_sub, Int.mul_comm, Int.add_comm]
theorem pow_mul_toNat {n k : Int} (hn : 0 ≤ n) (hk : 0 ≤ k) : (2 : Int) ^ (k * n).toNat = (2 ^ n.toNat) ^ k.toNat := by
  rw [← Int.pow_mul]
  congr 1
  rw [Int.toNat_mul hk hn, Nat.mul_comm]
theorem dval_bound {b : Int} (hb : 0 ≤ b) : ∀ {l : List Int}, (∀ x ∈ l, 0 ≤ x ∧ x < b) → 0 ≤ dval b l ∧ dval b l < b ^ l.length
  | [], _ => by simp [dval]
  | d :: l, h => by
    obtain ⟨i1, i2⟩ := dval_bound hb (l := l) fun x hx => h x (.tail _ hx)
    obtain ⟨d1, d2⟩ := h d (.head _)
    simp only [dval, List.length_cons]
    rw [Int.pow_succ, Int.mul_comm (b ^ l.length)]
    have h1 : 0 ≤ b * dval b l := Int.mul_nonneg hb i1
    have h2 : b * (dval b l + 1) ≤ b * b ^ l.length := Int.mul_le_mul_of_nonneg_left (by omega) hb
    rw [Int.mul_add, Int.mul_one] at h2
    omega
theorem pow_le_72 {n : Int} (hn : 5 ≤ n ∧ n ≤ 12) {k : Nat} (hk : k ≤ 6) : ((2 : Int) ^ n.toNat) ^ k ≤ 2 ^ 72 := by
  rw [← Int.pow_mul]
  have h : n.toNat * k ≤ 12 * 6 := Nat.mul_le_mul (by omega) hk
  exact_mod_cast Nat.pow_le_pow_right (by decide : 0 < 2) h
theorem dsl_bits {n : Int} {ns : List Int} (hn : 5 ≤ n ∧ n ≤ 12) (hlen : ns.length ≤ 6) (hd : ∀ x ∈ ns, 0 ≤ x ∧ x < 2 ^ n.toNat) (x y : Int) : (Builtin.Int.intBits (dsl (2 ^ n.toNat) ns x y) : Int) ≤ 1000 := by
  have hb : (0 : Int) ≤ 2 ^ n.toNat := Int.le_of_lt (Int.pow_pos (by decide))
  have h := dval_bound hb (l := (ns.drop x.toNat).take (y.toNat - x.toNat)) fun z hz => hd z (List.mem_of_mem_drop (List.mem_of_mem_take hz))
  have hk : ((ns.drop x.toNat).take (y.toNat - x.toNat)).length ≤ 6 := by rw [List.length_take, List.length_drop]; exact Nat.le_trans (Nat.min_le_right _ _) (Nat.le_trans (Nat.sub_le _ _) hlen)
  have h2 := pow_le_72 hn hk
  have h3 : (dsl (2 ^ n.toNat) ns x y).natAbs < 2 ^ 72 := by
    have : dsl (2 ^ n.toNat) ns x y = dval (2 ^ n.toNat) ((ns.drop x.toNat).take (y.toNat - x.toNat)) := rfl
    have e : (2 : Int) ^ 72 = ((2 ^ 72 : Nat) : Int) := by decide
    omega
  have := intBits_le h3
  omega
theorem dsl_all (b : Int) (ns : List Int) : dsl b ns 0 ns.length = dval b ns := by
  unfold dsl; simp
theorem shl_side {n p q : Int} (hn : 5 ≤ n ∧ n ≤ 12) (h1 : 0 ≤ p - q) (h2 : p - q ≤ 6) : 0 ≤ (p - q) * n ∧ (p - q) * n ≤ 72 :=
  ⟨Int.mul_nonneg h1 (by omega), Int.le_trans (Int.mul_le_mul h2 hn.2 (by omega) (by omega)) (by decide)⟩
theorem fdiv_two (a : Int) : a.fdiv (2 ^ Int.toNat 1) = a / 2 := by
  rw [show (2 : Int) ^ Int.toNat 1 = 2 by decide, Int.fdiv_eq_ediv_of_nonneg _ (by decide)]
theorem dsl_mid {n : Int} {ns : List Int} {x y : Int} (hn : 5 ≤ n ∧ n ≤ 12) (h0 : 0 ≤ x) (h1 : x < y) (hy : y ≤ ns.length) :
    dsl (2 ^ n.toNat) ns ((x + y).fdiv (2 ^ Int.toNat 1)) y * 2 ^ (((x + y).fdiv (2 ^ Int.toNat 1) - x) * n).toNat + dsl (2 ^ n.toNat) ns x ((x + y).fdiv (2 ^ Int.toNat 1)) = dsl (2 ^ n.toNat) ns x y := by
  rw [fdiv_two, pow_mul_toNat (by omega) (by omega)]
  exact dsl_split h0 (by omega) (by omega) hy
end Mine
end PartP1

noncomputable section PartP2
theorem Mine.resetP2 : True := by (w_top off); k_with_none; first | (walk1; done) | trivial
set_option linter.all false
namespace Mine
open PySem PySem.W PyProof.Rows
noncomputable def digs (b : Int) : Nat → Int → List Int
  | 0, _ => []
  | k + 1, x => x % b :: digs b k (x / b)
noncomputable def updl (b : Int) (ns : List Int) (lo hi x : Int) : List Int := ns.take lo.toNat ++ digs b (hi - lo).toNat x ++ ns.drop hi.toNat
theorem digs_length (b : Int) : ∀ (k : Nat) (x : Int), (digs b k x).length = k
  | 0, _ => rfl
  | k + 1, x => by rw [digs, List.length_cons, digs_length b k]
theorem updl_length {b : Int} {ns : List Int} {lo hi x : Int} {len : Nat} (h : ns.length = len) (h0 : 0 ≤ lo) (h1 : lo ≤ hi) (h2 : hi ≤ len) : (updl b ns lo hi x).length = len := by
  subst h
  obtain ⟨lo, rfl⟩ := Int.eq_ofNat_of_zero_le h0
  obtain ⟨hi, rfl⟩ := Int.eq_ofNat_of_zero_le (Int.le_trans h0 h1)
  have h1 : lo ≤ hi := Int.ofNat_le.mp h1
  have h2 : hi ≤ ns.length := Int.ofNat_le.mp h2
  unfold updl
  simp only [Int.toNat_sub, Int.toNat_natCast]
  rw [List.length_append, List.length_append, digs_length, List.length_take, List.length_drop, Nat.min_eq_left (Nat.le_trans h1 h2), Nat.add_sub_of_le h1, Nat.add_sub_of_le h2]
theorem emod_pow_succ {b x : Int} (hb : 0 < b) (j : Nat) : x % b ^ (j + 1) % b = x % b ∧ x % b ^ (j + 1) / b = x / b % b ^ j ∧ x / b ^ (j + 1) = x / b / b ^ j := by
  have hp : (0 : Int) < b ^ j := Int.pow_pos hb
  refine ⟨?_, ?_, ?_⟩
  · exact Int.emod_emod_of_dvd _ (Int.dvd_trans (by rw [Int.pow_succ]; exact Int.dvd_mul_left _ _) (Int.dvd_refl _))
  · rw [Int.pow_succ, Int.mul_comm]
    rw [Int.emod_def, Int.emod_def]
    have e : x - b * b ^ j * (x / (b * b ^ j)) = x - b * (b ^ j * (x / (b * b ^ j))) := by rw [Int.mul_assoc]
    rw [e, Int.sub_mul_ediv_left _ _ (by omega), ← Int.ediv_ediv_of_nonneg (by omega)]
  · rw [Int.pow_succ, Int.mul_comm, Int.ediv_ediv_of_nonneg (by omega)]
theorem digs_append {b : Int} (hb : 0 < b) : ∀ (i j : Nat) (x : Int), digs b i (x % b ^ i) ++ digs b j (x / b ^ i) = digs b (i + j) x
  | 0, j, x => by simp [digs]
  | i + 1, j, x => by
    obtain ⟨e1, e2, e3⟩ := emod_pow_succ (x := x) hb i
    rw [Nat.succ_add]
    simp only [digs, List.cons_append]
    rw [e1, e2, e3, digs_append hb i j (x / b)]
theorem digs_val {b : Int} (hb : 0 < b) : ∀ (k : Nat) (x : Int), 0 ≤ x → x < b ^ k → dval b (digs b k x) = x
  | 0, x, h0, h1 => by simp at h1; simp [digs, dval]; omega
  | k + 1, x, h0, h1 => by
    have hlt : x / b < b ^ k := Int.ediv_lt_of_lt_mul hb (by rw [Int.pow_succ] at h1; exact h1)
    rw [digs, dval, digs_val hb k (x / b) (Int.ediv_nonneg h0 (by omega)) hlt]
    exact Int.emod_add_mul_ediv x b
theorem digs_mem {b : Int} (hb : 0 < b) : ∀ (k : Nat) (x : Int), ∀ d ∈ digs b k x, 0 ≤ d ∧ d < b
  | 0, _, d, h => by cases h
  | k + 1, x, d, h => by
    rw [digs] at h
    cases h with
    | head => exact ⟨Int.emod_nonneg _ (by omega), Int.emod_lt_of_pos _ hb⟩
    | tail _ h => exact digs_mem hb k _ d h
theorem updl_leaf {b : Int} {ns : List Int} {lo hi x : Int} (h0 : 0 ≤ lo) (h1 : lo + 1 = hi) (h2 : hi ≤ ns.length) (hx0 : 0 ≤ x) (hx : x < b ^ (hi - lo).toNat) : ns.set lo.toNat x = updl b ns lo hi x := by
  have e : (hi - lo).toNat = 1 := by omega
  have eh : hi.toNat = lo.toNat + 1 := by omega
  have hl : lo.toNat < ns.length := by omega
  rw [e, Int.pow_one] at hx
  unfold updl
  rw [e, eh, digs, digs, Int.emod_eq_of_lt hx0 hx]
  rw [List.set_eq_take_append_cons_drop, if_pos hl]
  simp
theorem updl_split {b : Int} (hb : 0 < b) {ns : List Int} {lo mid hi x : Int} (h0 : 0 ≤ lo) (h1 : lo ≤ mid) (h2 : mid ≤ hi) (h3 : hi ≤ ns.length) :
    updl b (updl b ns lo mid (x % b ^ (mid - lo).toNat)) mid hi (x / b ^ (mid - lo).toNat) = updl b ns lo hi x := by
  obtain ⟨lo, rfl⟩ := Int.eq_ofNat_of_zero_le h0
  obtain ⟨mid, rfl⟩ := Int.eq_ofNat_of_zero_le (Int.le_trans h0 h1)
  obtain ⟨hi, rfl⟩ := Int.eq_ofNat_of_zero_le (Int.le_trans (Int.le_trans h0 h1) h2)
  have h1 : lo ≤ mid := Int.ofNat_le.mp h1
  have h2 : mid ≤ hi := Int.ofNat_le.mp h2
  have h3 : hi ≤ ns.length := Int.ofNat_le.mp h3
  unfold updl
  simp only [Int.toNat_sub, Int.toNat_natCast]
  have hd := digs_append hb (mid - lo) (hi - mid) x
  rw [Nat.add_comm, Nat.sub_add_sub_cancel h2 h1] at hd
  rw [← hd]
  have l1 : (ns.take lo ++ digs b (mid - lo) (x % b ^ (mid - lo))).length = mid := by
    rw [List.length_append, List.length_take, digs_length, Nat.min_eq_left (Nat.le_trans h1 (Nat.le_trans h2 h3)), Nat.add_sub_of_le h1]
  have e1 : (ns.take lo ++ digs b (mid - lo) (x % b ^ (mid - lo)) ++ ns.drop mid).take mid = ns.take lo ++ digs b (mid - lo) (x % b ^ (mid - lo)) := by
    rw [List.take_append_of_le_length (Nat.le_of_eq l1.symm), List.take_of_length_le (Nat.le_of_eq l1)]
  have e2 : (ns.take lo ++ digs b (mid - lo) (x % b ^ (mid - lo)) ++ ns.drop mid).drop hi = ns.drop hi := by
    rw [List.drop_append, l1, List.drop_of_length_le (Nat.le_trans (Nat.le_of_eq l1) h2), List.nil_append, List.drop_drop, Nat.add_sub_of_le h2]
  rw [e1, e2]
  simp only [List.append_assoc]
theorem and_shift (x s : Nat) : x &&& (x / 2 ^ s * 2 ^ s) = x / 2 ^ s * 2 ^ s := by
  apply Nat.eq_of_testBit_eq
  intro i
  rw [Nat.testBit_and, Nat.mul_comm, Nat.testBit_two_pow_mul, Nat.testBit_div_two_pow]
  by_cases h : s ≤ i
  · have : i - s + s = i := by omega
    simp [h, this]
  · simp [h]
theorem xor_low {x : Int} (hx : 0 ≤ x) (s : Nat) : Builtin.bitXor x (x.fdiv (2 ^ s) * 2 ^ s) = x % 2 ^ s := by
  have hp : (0 : Int) < 2 ^ s := Int.pow_pos (by decide)
  rw [Int.fdiv_eq_ediv_of_nonneg _ (by omega)]
  have hq : 0 ≤ x / 2 ^ s := Int.ediv_nonneg hx (by omega)
  rw [bitXor_and, bitAnd_pp hx (Int.mul_nonneg hq (by omega))]
  have e : (x / 2 ^ s * 2 ^ s).toNat = x.toNat / 2 ^ s * 2 ^ s := by
    obtain ⟨n, rfl⟩ := Int.eq_ofNat_of_zero_le hx
    have : ((n : Int) / 2 ^ s * 2 ^ s) = ((n / 2 ^ s * 2 ^ s : Nat) : Int) := by simp
    rw [this, Int.toNat_natCast, Int.toNat_natCast]
  rw [e, and_shift, ← e, Int.toNat_of_nonneg (Int.mul_nonneg hq (by omega)), Int.emod_def]
  rw [Int.mul_comm (2 ^ s)]
  omega
end Mine
end PartP2

noncomputable section PartW4
theorem Mine.resetW4 : True := by (w_top off); k_with_none; first | (walk1; done) | trivial
set_option maxRecDepth 100000
set_option linter.all false
namespace Mine
open PySem PySem.W PyProof.Rows
noncomputable abbrev fdIP : Arguments := by
  refine (fun (b : Arguments) (_ : b = stArgs (inDef (stBody (st 4)))) => b) ?b ?h
  case h =>
    conv => rhs; whnf
noncomputable abbrev fdIB : List Stmt := by
  refine (fun (b : List Stmt) (_ : b = stBody (inDef (stBody (st 4)))) => b) ?b ?h
  case h =>
    conv => rhs; whnf
noncomputable abbrev fdIS : Scope := by
  refine (fun (b : Scope) (_ : b = stScope (inDef (stBody (st 4)))) => b) ?b ?h
  case h =>
    conv => rhs; whnf
noncomputable abbrev fdIPos : Pos := by
  refine (fun (b : Pos) (_ : b = stPos (inDef (stBody (st 4)))) => b) ?b ?h
  case h =>
    conv => rhs; whnf
noncomputable abbrev fdDP : Arguments := by
  refine (fun (b : Arguments) (_ : b = stArgs (inDef (stBody (st 5)))) => b) ?b ?h
  case h =>
    conv => rhs; whnf
noncomputable abbrev fdDB : List Stmt := by
  refine (fun (b : List Stmt) (_ : b = stBody (inDef (stBody (st 5)))) => b) ?b ?h
  case h =>
    conv => rhs; whnf
noncomputable abbrev fdDS : Scope := by
  refine (fun (b : Scope) (_ : b = stScope (inDef (stBody (st 5)))) => b) ?b ?h
  case h =>
    conv => rhs; whnf
noncomputable abbrev fdDPos : Pos := by
  refine (fun (b : Pos) (_ : b = stPos (inDef (stBody (st 5)))) => b) ?b ?h
  case h =>
    conv => rhs; whnf

noncomputable abbrev dFn (doc pm : Value) (c' aN aI aD : Addr) (ctv : Value) : Obj := fnMade (Str.ofString "inner") (Str.ofString "_digits2int.<locals>.inner") fdDP fdDB fdDS [(Str.ofString "n", aN), (Str.ofString "inner", aI), (Str.ofString "digits", aD)] doc pm c' ctv
noncomputable def DIn (w : World) (f : Addr) (inL : List (Addr × Obj)) (n : Int) (ns : List Int) (k : Nat) : Prop := ∀ (x y : Int) (t u : Tok), 0 ≤ x → x < y → y ≤ ns.length → y - x ≤ k →
  CtrN w f [.int x t, .int y u] k inL (fun v out => (∃ tk, v = .int (dsl (2 ^ n.toNat) ns x y) tk) ∧ out = inL)
theorem mid_a {x y len : Int} {k : Nat} (h0 : 0 ≤ x) (h1 : x < y) (h2 : y ≤ len) (h3 : y - x ≤ (k + 1 : Nat)) (h4 : x + 1 ≠ y) : 0 ≤ (x + y).fdiv (2 ^ Int.toNat 1) ∧ (x + y).fdiv (2 ^ Int.toNat 1) < y ∧ y ≤ len ∧ y - (x + y).fdiv (2 ^ Int.toNat 1) ≤ k := by
  rw [fdiv_two]; omega
theorem mid_b {x y len : Int} {k : Nat} (h0 : 0 ≤ x) (h1 : x < y) (h2 : y ≤ len) (h3 : y - x ≤ (k + 1 : Nat)) (h4 : x + 1 ≠ y) : 0 ≤ x ∧ x < (x + y).fdiv (2 ^ Int.toNat 1) ∧ (x + y).fdiv (2 ^ Int.toNat 1) ≤ len ∧ (x + y).fdiv (2 ^ Int.toNat 1) - x ≤ k := by
  rw [fdiv_two]; omega
theorem mid_c {x y : Int} {len : Nat} (h0 : 0 ≤ x) (h1 : x < y) (h2 : y ≤ len) (h4 : x + 1 ≠ y) (h5 : len ≤ 6) : 0 ≤ (x + y).fdiv (2 ^ Int.toNat 1) - x ∧ (x + y).fdiv (2 ^ Int.toNat 1) - x ≤ 6 := by
  rw [fdiv_two]; omega
theorem shl_dsl {prog : Program} {w : World} {A : Around} {E : Value → Shared → Prop} {s : Shared} {t u : Tok} {Q : Value → Shared → Prop} {n p q x y b : Int} {ns : List Int} (hn : 5 ≤ n ∧ n ≤ 12) (hb : ∀ x y, (Builtin.Int.intBits (dsl b ns x y) : Int) ≤ 1000) (hx : 0 ≤ p - q ∧ p - q ≤ 6) (h : Q (.int (dsl b ns x y * 2 ^ ((p - q) * n).toNat) s.toks) { s with toks := s.toks + 1 }) :
    wpAny (model prog w) A (binaryOp .LShift (.int (dsl b ns x y) t) (.int ((p - q) * n) u)) Q E s :=
  lshift_int (shl_side hn hx.1 hx.2).1 (Int.le_trans (Int.add_le_add (hb x y) (shl_side hn hx.1 hx.2).2) (by decide)) h
theorem room_next {d k l : Nat} (h : d + (k + 1) < l) : d + 1 + k < l := by omega
theorem units_next {d k l : Nat} (h : d + 16 * (k + 1) < l) : d + 3 + 16 * k < l := by omega
theorem DIn.use {w : World} {f : Addr} {inL : List (Addr × Obj)} {n : Int} {ns : List Int} {k : Nat} {x y : Int} {t u : Tok} {dp un : Nat} {gd : Option (List Code)} {cn : Str} {cs : Scope} {a : Addr} {ccd : Value} {cl : List (Str × Addr)} {outer : List Env} {A₀ : Around} {base h₀ : Heap} {L : Addr} {m : Str → Option Value} {s : Shared}
    {loose : List Str} {mean : ExcName → Option Value} {mg mb : Str → Option Value} {Q E : Value → Shared → Prop} (c : DIn w f inL n ns k) (hxy : 0 ≤ x ∧ x < y ∧ y ≤ ns.length ∧ y - x ≤ k)
    (B : Below A₀ base outer h₀) (F : Fr h₀ L s.heap m) (X : (KA w.params).In h₀) (N : News h₀ L s.heap inL) (T : Top topProg loose mean mg mb h₀) (C1 : CodeHd base 34 30) (C2 : CodeHd base 41 37) (hk : cs.kind = .function) (hd : dp + k < recursionLimit) (hu : un + 16 * k < cLine)
    (hR : ∀ tk h' tk', Fr h₀ L h' m → News h₀ L h' inL → Q (.int (dsl (2 ^ n.toNat) ns x y) tk) { s with heap := h', toks := tk' }) :
    wpAny (model PySem.Challenge.rw_ul0025_01.row.prog w) (ktrTop dp un gd cn cs L a ccd cl outer) (call (.ref f) [.int x t, .int y u]) Q E s :=
  (c x y t u hxy.1 hxy.2.1 hxy.2.2.1 hxy.2.2.2).use B F X N (fun _ h => h) T C1 C2 hk hd hu (fun v out h' tk' ⟨⟨tk, e⟩, e2⟩ F' N' => by subst e; subst e2; exact hR tk h' tk' F' N')
local macro_rules | `(tactic| k_room) => `(tactic| ktr_room)
local macro_rules | `(tactic| k_enter) => `(tactic| (refine' code_nest ?k1 ?k2 ?k3 ?k4 ?k5 ?kA ?kF ?kK ?k6 ?k7 ?k8 ?k9 ?kB ?_ ?c2 ?c3 ?c4 ?c5; (case kA | kF => exact rfl); (case kK => assumption); (case k1 | k2 | k3 | k4 | k5 => k_asm); (case k6 => k_mem); (case k7 => exact codeRec_news (by k_asm) (by k_mem) (by assumption) (by assumption)); (case k8 => ktr_room); (case k9 => exact BindsTo.of_eq rfl); (case c5 => decide); (case kB => exact locs rfl); (case c2 | c3 | c4 => exact rfl); k_whole; intro g' L' h' FG' F' N' B' X' T'; (try dsimp only); (try k_lift B'); (try k_fold)))

local macro_rules | `(tactic| walk_at $s:str) => `(tactic| k_extra $s)
theorem wordW4_0 : True := by k_with_none; trivial
theorem wordW4_1 : True := by (k_with "call ref" => ((k_here; k_dflt (refine' DIn.use ?wqc ?wqhx ?wqB ?wqF ?wqX ?wqN ?wqT ?wqC1 ?wqC2 ?wqkk ?wqhd ?wqhu ?_; (case wqc => assumption); (case wqB => k_asm); (case wqF => k_asm); (case wqX => k_asm); (case wqN => k_asm); (case wqT => k_asm); (case wqC1 => kn_code); (case wqC2 => kn_code); (case wqkk => first | exact rfl | assumption); (case wqhd => exact room_next (by assumption)); (case wqhu => exact units_next (by assumption)); (case wqhx => first | exact mid_a (by assumption) (by assumption) (by assumption) (by assumption) (by assumption) | exact mid_b (by assumption) (by assumption) (by assumption) (by assumption) (by assumption)); intro tk9 h9 tk9' F9 N9)))); trivial
theorem wordW4_2 : True := by (k_with "binaryOp LShift int int" => ((k_here; k_dflt (refine' shl_dsl ?wqhn ?wqhb ?wqhx ?_; (case wqhn => assumption); (case wqhb => assumption); (case wqhx => exact mid_c (by assumption) (by assumption) (by assumption) (by assumption) (by assumption)); k_whole)))); trivial
set_option maxHeartbeats 4000000 in
theorem dIn (w : World) (f c' aI aN aD d : Addr) (oc oI oN oD : Obj) (cvs : Array Value) (tq tn : Tok) (doc pm ctv : Value) (vs : List Value) (ns : List Int) (n : Int) (ke : Nat) (news : List (Addr × Obj)) (hn : 5 ≤ n ∧ n ≤ 12) (hI : IntsAre vs ns) (hlen : ns.length ≤ 6)
    (e1 : oc.data = .fields cvs) (e2 : cvs[1]? = some (.str (Str.ofString "_digits2int.<locals>.inner") tq)) (eI : oI.data = .cell (some (.ref f))) (eN : oN.data = .cell (some (.int n tn))) (eD : oD.data = .cell (some (.ref d)))
    (hbits : ∀ x y, (Builtin.Int.intBits (dsl (2 ^ n.toNat) ns x y) : Int) ≤ 1000) :
    ∀ (k : Nat), DIn w f ((f, dFn doc pm c' aN aI aD ctv) :: (c', oc) :: (aI, oI) :: (aN, oN) :: (aD, oD) :: (d, listOf vs.toArray ke) :: news) n ns k := by
  intro k
  induction k with
  | zero => intro x y; intros; exfalso; omega
  | succ k ih =>
    intro x y t u hx hxy hy hxk
    unfold CtrN
    k_fill
    intro dp un gd cn cs a ccd cl outer A₀ base h₀ L m s loose mean mg mb Q E B F X N T C1 C2 hk hd hu hret
    refine wpAny_call ?_
    k_dflt k_enter
    k_steps
    · exact hret _ _ _ _ ⟨⟨_, congrArg (Value.int · _) (dsl_one (by assumption) (by assumption) (by assumption))⟩, rfl⟩ (by assumption) (by assumption)
    · exact hret _ _ _ _ ⟨⟨_, congrArg (Value.int · _) (dsl_mid (by assumption) (by assumption) (by assumption) (by assumption))⟩, rfl⟩ (by assumption) (by assumption)
end Mine
end PartW4

noncomputable section PartW5
theorem Mine.resetW5 : True := by (w_top off); k_with_none; first | (walk1; done) | trivial
set_option maxRecDepth 100000
set_option linter.all false
namespace Mine
open PySem PySem.W PyProof.Rows
theorem DIn.use3 {w : World} {f : Addr} {c1 c2 c3 c4 c5 c6 : Addr × Obj} {act : List (Addr × Obj)} {n : Int} {ns : List Int} {k : Nat} {x y : Int} {t u : Tok} {dp un : Nat} {gd : Option (List Code)} {cn : Str} {cs : Scope} {a : Addr} {ccd : Value} {cl : List (Str × Addr)} {outer : List Env} {A₀ : Around} {base h₀ : Heap} {L : Addr} {m : Str → Option Value} {s : Shared}
    {loose : List Str} {mean : ExcName → Option Value} {mg mb : Str → Option Value} {Q E : Value → Shared → Prop} (c : DIn w f (c1 :: c2 :: c3 :: c4 :: c5 :: c6 :: act) n ns k) (hxy : 0 ≤ x ∧ x < y ∧ y ≤ ns.length ∧ y - x ≤ k)
    (B : Below A₀ base outer h₀) (F : Fr h₀ L s.heap m) (X : (KA w.params).In h₀) (N : News h₀ L s.heap act) (m1 : c1 ∈ act) (m2 : c2 ∈ act) (m3 : c3 ∈ act) (m4 : c4 ∈ act) (m5 : c5 ∈ act) (m6 : c6 ∈ act) (T : Top topProg loose mean mg mb h₀) (C1 : CodeHd base 34 30) (C2 : CodeHd base 41 37) (hk : cs.kind = .function) (hd : dp + k < recursionLimit) (hu : un + 16 * k < cLine)
    (hR : ∀ tk h' tk', Fr h₀ L h' m → News h₀ L h' act → Q (.int (dsl (2 ^ n.toNat) ns x y) tk) { s with heap := h', toks := tk' }) :
    wpAny (model PySem.Challenge.rw_ul0025_01.row.prog w) (ktrTop dp un gd cn cs L a ccd cl outer) (call (.ref f) [.int x t, .int y u]) Q E s :=
  c.use hxy B F X (fun p hp => N p ((List.forall_mem_cons.mpr ⟨m1, List.forall_mem_cons.mpr ⟨m2, List.forall_mem_cons.mpr ⟨m3, List.forall_mem_cons.mpr ⟨m4, List.forall_mem_cons.mpr ⟨m5, List.forall_mem_cons.mpr ⟨m6, fun _ h => h⟩⟩⟩⟩⟩⟩ : ∀ q ∈ c1 :: c2 :: c3 :: c4 :: c5 :: c6 :: act, q ∈ act) p hp)) T C1 C2 hk hd hu (fun tk h' tk' F' N' => hR tk h' tk' F' (fun p hp => N' p (.tail _ (.tail _ (.tail _ (.tail _ (.tail _ (.tail _ hp))))))))
noncomputable def TabD (X : List (Addr × Obj)) : Prop := (∀ q ∈ X, q.1 ≠ 30) ∧ (X = [(37, tabObj #[])] ∨ ∃ c' oc vs t, X = [(37, tabObj #[rawInt fdDPos.line, rawInt fdDPos.col, .ref c']), (c', oc)] ∧ oc.data = .fields vs ∧ vs[1]? = some (.str (Str.ofString "_digits2int.<locals>.inner") t))
theorem News.sub {h₀ h : Heap} {L : Addr} {l act : List (Addr × Obj)} (N : News h₀ L h act) (hs : ∀ p ∈ l, p ∈ act) : News h₀ L h l := fun p hp => N p (hs p hp)
theorem sub3 {a b c : Addr × Obj} {l act : List (Addr × Obj)} (h1 : a ∈ act) (h2 : b ∈ act) (h3 : c ∈ act) (h4 : ∀ p ∈ l, p ∈ act) : ∀ p ∈ [a, b] ++ c :: l, p ∈ act :=
  List.forall_mem_cons.mpr ⟨h1, List.forall_mem_cons.mpr ⟨h2, List.forall_mem_cons.mpr ⟨h3, h4⟩⟩⟩
theorem sub_t {x : Addr × Obj} {l act : List (Addr × Obj)} (h : ∀ p ∈ l, p ∈ act) : ∀ p ∈ l, p ∈ x :: act := fun p hp => .tail _ (h p hp)
theorem tabD_ne {c' : Addr} {o oc : Obj} (h : c' ≠ 30) : ∀ q ∈ [((37 : Addr), o), (c', oc)], q.1 ≠ 30 := List.forall_mem_cons.mpr ⟨(by decide : (37 : Nat) ≠ 30), List.forall_mem_cons.mpr ⟨h, fun _ h => nomatch h⟩⟩
theorem room_sub {d k r l : Nat} (h : d + (r + 1) < l) (hk : k ≤ r) : d + 1 + k < l := by omega
theorem units_sub {d k r l : Nat} (h : d + 16 * (r + 1) < l) (hk : k ≤ r) : d + 3 + 16 * k < l := by omega
theorem all_side {ns : List Int} (h : 0 < ns.length) (hl : ns.length ≤ 6) : 0 ≤ (0 : Int) ∧ (0 : Int) < ns.length ∧ (ns.length : Int) ≤ ns.length ∧ (ns.length : Int) - 0 ≤ (6 : Nat) := by omega
local macro_rules | `(tactic| k_all) => `(tactic| with_reducible assumption)
local macro_rules | `(tactic| k_all) => `(tactic| (refine ne_of_bnd (by with_reducible assumption) ?_; omega))
local macro_rules | `(tactic| k_room) => `(tactic| ktr_room)
local macro_rules | `(tactic| k_enter) => `(tactic| (refine' code_defC ?k1 ?k2 ?k3 ?k4 ?k5 ?kA ?kF ?kK ?k6 ?k7 ?k8 ?k9 ?kB ?kD ?_ ?c2 ?c3 ?c4; (case kA | kF => exact rfl); (case kK => assumption); (case k1 | k2 | k3 | k4 | k5 => k_asm); (case k6 | k7 => k_is); (case k8 => ktr_room); (case k9 => first | exact BindsTo.of_eq rfl | exact binds_K (by k_in) rfl (by k_is) rfl rfl rfl | fail "k_enter: no rule for these arguments"); (case kB => exact rfl); (case kD => decide +kernel); (case c2 | c3 | c4 => exact rfl); k_whole; intro g' L' h' tk' cells' FG' F' N' Y' B' X' T' l1; (try k_lt l1); k_cells Y'; (try simp only [List.cons_append, List.nil_append] at N'); (try dsimp only); (try k_lift B'); (try k_fold)))
local macro_rules | `(tactic| walk_at $s:str) => `(tactic| k_extra $s)
theorem wordW5_0 : True := by k_with_none; trivial
theorem wordW5_1 : True := by (k_with "call ref" => ((k_here; k_dflt (refine' DIn.use3 (dIn _ _ _ _ _ _ _ _ _ _ _ _ _ _ _ _ _ _ _ _ _ _ ?wqq1 ?wqq2 ?wqq3 ?wqq4 ?wqq5 ?wqq6 ?wqq7 ?wqq8 ?wqq9 6) ?wqhx ?wqB ?wqF ?wqX ?wqN ?wqm1 ?wqm2 ?wqm3 ?wqm4 ?wqm5 ?wqm6 ?wqT ?wqC1 ?wqC2 ?wqkk ?wqhd ?wqhu ?_; (case wqB => k_asm); (case wqF => k_asm); (case wqX => k_asm); (case wqN => k_asm); (case wqT => k_asm); (case wqC1 => kn_code); (case wqC2 => kn_code); (case wqkk => first | exact rfl | assumption); (case wqhd => exact room_sub (by assumption) (by decide)); (case wqhu => exact units_sub (by assumption) (by decide)); (case wqhx => exact all_side (by assumption) (by assumption)); (case wqq1 => assumption); (case wqq2 => assumption); (case wqq3 => assumption);  (case wqm1 => k_mem); (case wqm2 => k_mem); (case wqm3 => k_mem); (case wqm4 => k_mem); (case wqm5 => k_mem); (case wqm6 => k_mem); (case wqq4 => assumption);  (case wqq5 => assumption);  (case wqq6 => assumption);  (case wqq7 => assumption);  (case wqq8 => assumption);  (case wqq9 => exact dsl_bits (by assumption) (by assumption) (by assumption)); intro tk9 h9 tk9' F9 N9)))); trivial
set_option maxHeartbeats 4000000 in
theorem d2i_miss (w : World) (d : Addr) (vs : List Value) (ns : List Int) (n : Int) (tn : Tok) (k : Nat) (news : List (Addr × Obj)) (hd37 : d ≠ 37) (hne : ∀ q ∈ news, q.1 ≠ 37) (hI : IntsAre vs ns) (hlen : ns.length ≤ 6) (hn : 5 ≤ n ∧ n ≤ 12) (hdig : ∀ x ∈ ns, 0 ≤ x ∧ x < 2 ^ n.toNat) :
    CtrN w 42 [.ref d, .int n tn] 10 ((37, tabObj #[]) :: (d, listOf vs.toArray k) :: news) (fun v out => (∃ tk, v = .int (dval (2 ^ n.toNat) ns) tk) ∧ ∃ X', TabD X' ∧ out = X' ++ (d, listOf vs.toArray k) :: news) := by
  unfold CtrN
  k_fill
  intro dp un gd cn cs a ccd cl outer A₀ base h₀ L m s loose mean mg mb Q E B F X N T C1 C2 hk hd hu hret
  refine wpAny_call ?_
  k_dflt k_enter
  rename (_ ∧ _ ∧ AllLt _ _) => l1
  have hA := ktn_ltOf l1.2.2
  k_steps
  all_goals
    rename News _ _ _ _ => N9
    rename (Obj.data _ = Data.fields _) => e1
    rename (_[1]? = some _) => e2
    k_dflt (refine hret _ _ _ _ ⟨⟨_, congrArg (Value.int · _) ?_⟩, _, ⟨tabD_ne ?_, .inr ⟨_, _, _, _, rfl, e1, e2⟩⟩, rfl⟩ (by assumption) (News.sub N9 (sub3 (by k_mem) (by k_mem) (by k_mem) (by (repeat (first | exact fun _ h => h | refine sub_t ?_))))))
  all_goals first
  | exact dsl_all _ _
  | (have : ns = [] := List.eq_nil_of_length_eq_zero (by omega); subst this; rfl)
  | (refine neN ?_; omega)
set_option maxHeartbeats 4000000 in
theorem d2i_hit (w : World) (d c' : Addr) (oc : Obj) (cvs : Array Value) (ct : Tok) (e1 : oc.data = .fields cvs) (e2 : cvs[1]? = some (.str (Str.ofString "_digits2int.<locals>.inner") ct)) (hc' : ∀ q ∈ [((37 : Addr), tabObj #[rawInt fdDPos.line, rawInt fdDPos.col, .ref c']), (c', oc)], q.1 ≠ 30) (vs : List Value) (ns : List Int) (n : Int) (tn : Tok) (k : Nat) (news : List (Addr × Obj)) (hd37 : d ≠ 37) (hne : ∀ q ∈ news, q.1 ≠ 37) (hI : IntsAre vs ns) (hlen : ns.length ≤ 6) (hn : 5 ≤ n ∧ n ≤ 12) (hdig : ∀ x ∈ ns, 0 ≤ x ∧ x < 2 ^ n.toNat) :
    CtrN w 42 [.ref d, .int n tn] 10 ((37, tabObj #[rawInt fdDPos.line, rawInt fdDPos.col, .ref c']) :: (c', oc) :: (d, listOf vs.toArray k) :: news) (fun v out => (∃ tk, v = .int (dval (2 ^ n.toNat) ns) tk) ∧ ∃ X', TabD X' ∧ out = X' ++ (d, listOf vs.toArray k) :: news) := by
  unfold CtrN
  k_fill
  intro dp un gd cn cs a ccd cl outer A₀ base h₀ L m s loose mean mg mb Q E B F X N T C1 C2 hk hd hu hret
  refine wpAny_call ?_
  k_dflt k_enter
  rename (_ ∧ _ ∧ _ ∧ AllLt _ _) => l1
  have hA := ktn_ltOf l1.2.2.2
  k_steps
  all_goals
    rename News _ _ _ _ => N9
    k_dflt (refine hret _ _ _ _ ⟨⟨_, congrArg (Value.int · _) ?_⟩, _, ⟨hc', .inr ⟨_, _, _, _, rfl, e1, e2⟩⟩, rfl⟩ (by assumption) (News.sub N9 (sub3 (by k_mem) (by k_mem) (by k_mem) (by (repeat (first | exact fun _ h => h | refine sub_t ?_))))))
  all_goals first
  | exact dsl_all _ _
  | (have : ns = [] := List.eq_nil_of_length_eq_zero (by omega); subst this; rfl)
  | (refine neN ?_; omega)
theorem d2i_ctr (w : World) (d : Addr) (vs : List Value) (ns : List Int) (n : Int) (tn : Tok) (k : Nat) (news X : List (Addr × Obj)) (hX : TabD X) (hd37 : d ≠ 37) (hne : ∀ q ∈ news, q.1 ≠ 37) (hI : IntsAre vs ns) (hlen : ns.length ≤ 6) (hn : 5 ≤ n ∧ n ≤ 12) (hdig : ∀ x ∈ ns, 0 ≤ x ∧ x < 2 ^ n.toNat) :
    CtrN w 42 [.ref d, .int n tn] 10 (X ++ (d, listOf vs.toArray k) :: news) (fun v out => (∃ tk, v = .int (dval (2 ^ n.toNat) ns) tk) ∧ ∃ X', TabD X' ∧ out = X' ++ (d, listOf vs.toArray k) :: news) := by
  obtain ⟨h1, rfl | ⟨c', oc, cvs, ct, rfl, e1, e2⟩⟩ := hX
  · exact d2i_miss w d vs ns n tn k news hd37 hne hI hlen hn hdig
  · exact d2i_hit w d c' oc cvs ct e1 e2 h1 vs ns n tn k news hd37 hne hI hlen hn hdig
end Mine
end PartW5

noncomputable section PartW6
theorem Mine.resetW6 : True := by (w_top off); k_with_none; first | (walk1; done) | trivial
set_option maxRecDepth 100000
set_option linter.all false
namespace Mine
open PySem PySem.W PyProof.Rows
noncomputable abbrev iFn (doc pm : Value) (c' aN aI aD : Addr) (ctv : Value) : Obj := fnMade (Str.ofString "inner") (Str.ofString "_int2digits.<locals>.inner") fdIP fdIB fdIS [(Str.ofString "n", aN), (Str.ofString "inner", aI), (Str.ofString "a_digits", aD)] doc pm c' ctv
noncomputable def IIn (w : World) (f : Addr) (c1 c2 c3 c4 c5 : Addr × Obj) (l : Addr) (news : List (Addr × Obj)) (n : Int) (len k : Nat) : Prop := ∀ (x lo hi : Int) (t u v : Tok) (vs : List Value) (ns : List Int) (ke : Nat), IntsAre vs ns → ns.length = len → 0 ≤ lo → lo < hi → hi ≤ len → hi - lo ≤ k → 0 ≤ x → x < (2 ^ n.toNat) ^ (hi - lo).toNat →
  CtrN w f [.int x t, .int lo u, .int hi v] k (c1 :: c2 :: c3 :: c4 :: c5 :: (l, listOf vs.toArray ke) :: news) (fun r out => r = .none ∧ ∃ vs' ke', IntsAre vs' (updl (2 ^ n.toNat) ns lo hi x) ∧ out = c1 :: c2 :: c3 :: c4 :: c5 :: (l, listOf vs'.toArray ke') :: news)
theorem x_lt_72 {n x lo hi : Int} (hn : 5 ≤ n ∧ n ≤ 12) (h0 : 0 ≤ lo) (h2 : hi ≤ 6) (hx : x < (2 ^ n.toNat) ^ (hi - lo).toNat) : x < 2 ^ 72 := Int.lt_of_lt_of_le hx (pow_le_72 hn (by omega))
section
variable {prog : Program} {w : World} {A : Around} {E : Value → Shared → Prop} {s : Shared} {t u : Tok} {Q : Value → Shared → Prop} {n p q x : Int}
theorem shr_fd (hn : 5 ≤ n ∧ n ≤ 12) (hp : 0 ≤ p - q ∧ p - q ≤ 6) (h : Q (.int (x.fdiv (2 ^ ((p - q) * n).toNat)) s.toks) { s with toks := s.toks + 1 }) : wpAny (model prog w) A (binaryOp .RShift (.int x t) (.int ((p - q) * n) u)) Q E s :=
  rshift_int (shl_side hn hp.1 hp.2).1 h
theorem shl_fd (hn : 5 ≤ n ∧ n ≤ 12) (hp : 0 ≤ p - q ∧ p - q ≤ 6) (hx0 : 0 ≤ x) (hx : x < 2 ^ 72) (h : Q (.int (x.fdiv (2 ^ ((p - q) * n).toNat) * 2 ^ ((p - q) * n).toNat) s.toks) { s with toks := s.toks + 1 }) : wpAny (model prog w) A (binaryOp .LShift (.int (x.fdiv (2 ^ ((p - q) * n).toNat)) t) (.int ((p - q) * n) u)) Q E s := by
  refine lshift_int (shl_side hn hp.1 hp.2).1 ?_ h
  have h1 : (0 : Int) < 2 ^ ((p - q) * n).toNat := Int.pow_pos (by decide)
  have h2 : 0 ≤ x.fdiv (2 ^ ((p - q) * n).toNat) := Int.fdiv_nonneg hx0 (by omega)
  have h3 : x.fdiv (2 ^ ((p - q) * n).toNat) ≤ x := by
    rw [Int.fdiv_eq_ediv_of_nonneg _ (by omega)]; exact Int.ediv_le_self _ hx0
  have h4 : (x.fdiv (2 ^ ((p - q) * n).toNat)).natAbs < 2 ^ 72 := by
    have e : (2 : Int) ^ 72 = ((2 ^ 72 : Nat) : Int) := by decide
    omega
  have h5 := intBits_le h4
  have h6 := (shl_side hn hp.1 hp.2).2
  omega
end
noncomputable abbrev mid2 (x y : Int) : Int := (x + y).fdiv (2 ^ Int.toNat 1)
theorem low_ok {n lo hi x : Int} (hn : 5 ≤ n ∧ n ≤ 12) (h0 : 0 ≤ lo) (h1 : lo < hi) (hx : 0 ≤ x) :
    Builtin.bitXor x (x.fdiv (2 ^ ((mid2 lo hi - lo) * n).toNat) * 2 ^ ((mid2 lo hi - lo) * n).toNat) = x % (2 ^ n.toNat) ^ (mid2 lo hi - lo).toNat := by
  rw [xor_low hx, pow_mul_toNat (by omega) (by show 0 ≤ (lo + hi).fdiv _ - lo; rw [fdiv_two]; omega)]
theorem up_ok {n lo hi x : Int} (hn : 5 ≤ n ∧ n ≤ 12) (h0 : 0 ≤ lo) (h1 : lo < hi) (hx : 0 ≤ x) :
    x.fdiv (2 ^ ((mid2 lo hi - lo) * n).toNat) = x / (2 ^ n.toNat) ^ (mid2 lo hi - lo).toNat := by
  have h1 : (0 : Int) < 2 ^ ((mid2 lo hi - lo) * n).toNat := Int.pow_pos (by decide)
  rw [Int.fdiv_eq_ediv_of_nonneg _ (by omega), pow_mul_toNat (by omega) (by show 0 ≤ (lo + hi).fdiv _ - lo; rw [fdiv_two]; omega)]
theorem up_lt {b x lo mid hi : Int} (hb : 0 < b) (h1 : lo ≤ mid) (h2 : mid ≤ hi) (hx : x < b ^ (hi - lo).toNat) : x / b ^ (mid - lo).toNat < b ^ (hi - mid).toNat := by
  refine Int.ediv_lt_of_lt_mul (Int.pow_pos hb) ?_
  rw [← Int.pow_add]
  rw [← Int.toNat_add (Int.sub_nonneg.mpr h2) (Int.sub_nonneg.mpr h1), show hi - mid + (mid - lo) = hi - lo by omega]; exact hx
theorem IIn.use {w : World} {f : Addr} {c1 c2 c3 c4 c5 : Addr × Obj} {l : Addr} {news : List (Addr × Obj)} {n : Int} {len k : Nat} {x x' lo hi : Int} {t u v : Tok} {vs : List Value} {ns : List Int} {ke : Nat} {dp un : Nat} {gd : Option (List Code)} {cn : Str} {cs : Scope} {a : Addr} {ccd : Value} {cl : List (Str × Addr)} {outer : List Env} {A₀ : Around} {base h₀ : Heap} {L : Addr} {m : Str → Option Value} {s : Shared}
    {loose : List Str} {mean : ExcName → Option Value} {mg mb : Str → Option Value} {Q E : Value → Shared → Prop} (c : IIn w f c1 c2 c3 c4 c5 l news n len k) (B : Below A₀ base outer h₀) (F : Fr h₀ L s.heap m) (X : (KA w.params).In h₀) (N : News h₀ L s.heap (c1 :: c2 :: c3 :: c4 :: c5 :: (l, listOf vs.toArray ke) :: news)) (hI : IntsAre vs ns) (hl : ns.length = len)
    (hx : x' = x ∧ 0 ≤ lo ∧ lo < hi ∧ hi ≤ len ∧ hi - lo ≤ k ∧ 0 ≤ x ∧ x < (2 ^ n.toNat) ^ (hi - lo).toNat) (T : Top topProg loose mean mg mb h₀) (C1 : CodeHd base 34 30) (C2 : CodeHd base 41 37) (hk : cs.kind = .function) (hd : dp + k < recursionLimit) (hu : un + 16 * k < cLine)
    (hR : ∀ vs' ke' h' tk', IntsAre vs' (updl (2 ^ n.toNat) ns lo hi x) → (updl (2 ^ n.toNat) ns lo hi x).length = len → Fr h₀ L h' m → News h₀ L h' (c1 :: c2 :: c3 :: c4 :: c5 :: (l, listOf vs'.toArray ke') :: news) → Q .none { s with heap := h', toks := tk' }) :
    wpAny (model PySem.Challenge.rw_ul0025_01.row.prog w) (ktrTop dp un gd cn cs L a ccd cl outer) (call (.ref f) [.int x' t, .int lo u, .int hi v]) Q E s := by
  obtain ⟨rfl, h0, h1, h2, h3, h4, h5⟩ := hx
  exact (c x' lo hi t u v vs ns ke hI hl h0 h1 h2 h3 h4 h5).use B F X N (fun _ h => h) T C1 C2 hk hd hu (fun r out h' tk' ⟨e, vs', ke', e1, e2⟩ F' N' => by subst e; subst e2; exact hR vs' ke' h' tk' e1 (updl_length hl h0 (by omega) h2) F' N')
theorem hx_lo {n lo hi x : Int} {len k : Nat} (hn : 5 ≤ n ∧ n ≤ 12) (h0 : 0 ≤ lo) (h1 : lo < hi) (h2 : hi ≤ len) (h3 : hi - lo ≤ (k + 1 : Nat)) (h4 : lo + 1 ≠ hi) (hx : 0 ≤ x) (hxl : x < (2 ^ n.toNat) ^ (hi - lo).toNat) :
    Builtin.bitXor x (x.fdiv (2 ^ ((mid2 lo hi - lo) * n).toNat) * 2 ^ ((mid2 lo hi - lo) * n).toNat) = x % (2 ^ n.toNat) ^ (mid2 lo hi - lo).toNat ∧ 0 ≤ lo ∧ lo < mid2 lo hi ∧ mid2 lo hi ≤ len ∧ mid2 lo hi - lo ≤ k ∧ 0 ≤ x % (2 ^ n.toNat) ^ (mid2 lo hi - lo).toNat ∧ x % (2 ^ n.toNat) ^ (mid2 lo hi - lo).toNat < (2 ^ n.toNat) ^ (mid2 lo hi - lo).toNat := by
  obtain ⟨m1, m2, m3, m4⟩ := mid_b h0 h1 h2 h3 h4
  have hb : (0 : Int) < (2 ^ n.toNat) ^ (mid2 lo hi - lo).toNat := Int.pow_pos (Int.pow_pos (by decide))
  exact ⟨low_ok hn h0 h1 hx, m1, m2, m3, m4, Int.emod_nonneg _ (by omega), Int.emod_lt_of_pos _ hb⟩
theorem hx_hi {n lo hi x : Int} {len k : Nat} (hn : 5 ≤ n ∧ n ≤ 12) (h0 : 0 ≤ lo) (h1 : lo < hi) (h2 : hi ≤ len) (h3 : hi - lo ≤ (k + 1 : Nat)) (h4 : lo + 1 ≠ hi) (hx : 0 ≤ x) (hxl : x < (2 ^ n.toNat) ^ (hi - lo).toNat) :
    x.fdiv (2 ^ ((mid2 lo hi - lo) * n).toNat) = x / (2 ^ n.toNat) ^ (mid2 lo hi - lo).toNat ∧ 0 ≤ mid2 lo hi ∧ mid2 lo hi < hi ∧ hi ≤ len ∧ hi - mid2 lo hi ≤ k ∧ 0 ≤ x / (2 ^ n.toNat) ^ (mid2 lo hi - lo).toNat ∧ x / (2 ^ n.toNat) ^ (mid2 lo hi - lo).toNat < (2 ^ n.toNat) ^ (hi - mid2 lo hi).toNat := by
  obtain ⟨m1, m2, m3, m4⟩ := mid_a h0 h1 h2 h3 h4
  obtain ⟨_, m5, _, _⟩ := mid_b h0 h1 h2 h3 h4
  have hb : (0 : Int) < 2 ^ n.toNat := Int.pow_pos (by decide)
  exact ⟨up_ok hn h0 h1 hx, m1, m2, m3, m4, Int.ediv_nonneg hx (Int.le_of_lt (Int.pow_pos hb)), up_lt hb (Int.le_of_lt m5) (Int.le_of_lt m2) hxl⟩
local macro_rules | `(tactic| k_all) => `(tactic| with_reducible assumption)
local macro_rules | `(tactic| k_room) => `(tactic| ktr_room)
local macro_rules | `(tactic| k_enter) => `(tactic| (refine' code_nest ?k1 ?k2 ?k3 ?k4 ?k5 ?kA ?kF ?kK ?k6 ?k7 ?k8 ?k9 ?kB ?_ ?c2 ?c3 ?c4 ?c5; (case kA | kF => exact rfl); (case kK => assumption); (case k1 | k2 | k3 | k4 | k5 => k_asm); (case k6 => k_mem); (case k7 => exact codeRec_news (by k_asm) (by k_mem) (by assumption) (by assumption)); (case k8 => ktr_room); (case k9 => exact BindsTo.of_eq rfl); (case c5 => decide); (case kB => exact locs rfl); (case c2 | c3 | c4 => exact rfl); k_whole; intro g' L' h' FG' F' N' B' X' T'; (try dsimp only); (try k_lift B'); (try k_fold)))

local macro_rules | `(tactic| walk_at $s:str) => `(tactic| k_extra $s)
theorem wordW6_0 : True := by k_with_none; trivial
theorem wordW6_1 : True := by (k_with "binaryOp RShift int int" => ((k_here; (with_reducible show wpAny _ _ (binaryOp _ (Value.int _ _) (Value.int ((_ - _) * _) _)) _ _ _); k_dflt (refine' shr_fd ?wqhn ?wqhp ?_; (case wqhn => assumption); (case wqhp => exact mid_c (by assumption) (by assumption) (by assumption) (by assumption) (by assumption)); k_whole)))); trivial
theorem wordW6_2 : True := by (k_with "binaryOp LShift int int" => ((k_here; (with_reducible show wpAny _ _ (binaryOp _ (Value.int _ _) (Value.int ((_ - _) * _) _)) _ _ _); k_dflt (refine' shl_fd ?wqhn ?wqhp ?wqh0 ?wqh1 ?_; (case wqhn => assumption); (case wqhp => exact mid_c (by assumption) (by assumption) (by assumption) (by assumption) (by assumption)); (case wqh0 => assumption); (case wqh1 => assumption); k_whole)))); trivial
theorem wordW6_3 : True := by (k_with "setItem ref int" => ((k_here; (with_reducible show wpAny _ _ (setItem (Value.ref _) (Value.int _ _) (Value.int _ _)) _ _ _); k_dflt (refine' ksa_set ?wqk1 ?wqk2 ?wqk3 ?wqk4 ?wqk5 ?wqk6 ?wqk7 ?_; (case wqk1 => k_asm); (case wqk2 => k_asm); (case wqk3 => k_upd); (case wqk4 => with_reducible assumption); (case wqk5 => omega); (case wqk6 => omega); (case wqk7 => omega); k_whole); intro h' F' N' hi' hl' hs'; (try k_sweep)))); trivial
theorem wordW6_4 : True := by (k_with "call ref" => ((k_here; k_dflt (refine' IIn.use ?wqc ?wqB ?wqF ?wqX ?wqN ?wqhI ?wqhl ?wqhx ?wqT ?wqC1 ?wqC2 ?wqkk ?wqhd ?wqhu ?_; (case wqc => assumption); (case wqB => k_asm); (case wqF => k_asm); (case wqX => k_asm); (case wqN => k_asm); (case wqT => k_asm); (case wqC1 => kn_code); (case wqC2 => kn_code); (case wqkk => first | exact rfl | assumption); (case wqhd => exact room_next (by assumption)); (case wqhu => exact units_next (by assumption)); (case wqhI => assumption); (case wqhl => assumption); (case wqhx => first | exact hx_lo (by assumption) (by assumption) (by assumption) (by assumption) (by assumption) (by assumption) (by assumption) (by assumption) | exact hx_hi (by assumption) (by assumption) (by assumption) (by assumption) (by assumption) (by assumption) (by assumption) (by assumption)); intro vs9 ke9 h9 tk9' hI9 hl9 F9 N9)))); trivial
theorem up_split {n lo hi x : Int} {len : Nat} {ns : List Int} (hn : 5 ≤ n ∧ n ≤ 12) (h0 : 0 ≤ lo) (h1 : lo < hi) (h2 : hi ≤ len) (hl : ns.length = len) (hlen : len ≤ 6) (h4 : lo + 1 ≠ hi) :
    updl (2 ^ n.toNat) (updl (2 ^ n.toNat) ns lo (mid2 lo hi) (x % (2 ^ n.toNat) ^ (mid2 lo hi - lo).toNat)) (mid2 lo hi) hi (x / (2 ^ n.toNat) ^ (mid2 lo hi - lo).toNat) = updl (2 ^ n.toNat) ns lo hi x := by
  have hm : lo < mid2 lo hi ∧ mid2 lo hi < hi := by
    show lo < (lo + hi).fdiv _ ∧ (lo + hi).fdiv _ < hi
    rw [fdiv_two]; omega
  exact updl_split (Int.pow_pos (by decide)) h0 (Int.le_of_lt hm.1) (Int.le_of_lt hm.2) (by omega)
set_option maxHeartbeats 4000000 in
theorem iIn (w : World) (f c' aI aN aD d : Addr) (oc oI oN oD : Obj) (cvs : Array Value) (tq tn : Tok) (doc pm ctv : Value) (n : Int) (len : Nat) (news : List (Addr × Obj)) (hn : 5 ≤ n ∧ n ≤ 12) (hlen : len ≤ 6)
    (hne : @Ne Nat f d ∧ @Ne Nat c' d ∧ @Ne Nat aI d ∧ @Ne Nat aN d ∧ @Ne Nat aD d) (hnd : ∀ q ∈ news, q.1 ≠ d)
    (e1 : oc.data = .fields cvs) (e2 : cvs[1]? = some (.str (Str.ofString "_int2digits.<locals>.inner") tq)) (eI : oI.data = .cell (some (.ref f))) (eN : oN.data = .cell (some (.int n tn))) (eD : oD.data = .cell (some (.ref d))) :
    ∀ (k : Nat), IIn w f (f, iFn doc pm c' aN aI aD ctv) (c', oc) (aI, oI) (aN, oN) (aD, oD) d news n len k := by
  intro k
  induction k with
  | zero => intro x lo hi; intros; exfalso; omega
  | succ k ih =>
    intro x lo hi t u v vs ns ke hI hl hlo hlt hhi hk' hx0 hx
    have hx72 : x < 2 ^ 72 := x_lt_72 hn hlo (by omega) hx
    unfold CtrN
    k_fill
    intro dp un gd cn cs a ccd cl outer A₀ base h₀ L m s loose mean mg mb Q E B F X N T C1 C2 hk hd hu hret
    refine wpAny_call ?_
    k_dflt k_enter
    k_steps
    · rename IntsAre (List.set vs _ _) _ => hI2
      rw [updl_leaf (b := 2 ^ n.toNat) hlo (by assumption) (by omega) hx0 hx] at hI2
      exact hret _ _ _ _ ⟨rfl, _, _, hI2, rfl⟩ (by assumption) (by assumption)
    · refine hret _ _ _ _ ⟨rfl, _, _, ?_, rfl⟩ (by assumption) (by assumption)
      rw [← up_split hn hlo hlt hhi hl hlen (by assumption)]
      assumption
end Mine
end PartW6

noncomputable section PartW7
theorem Mine.resetW7 : True := by (w_top off); k_with_none; first | (walk1; done) | trivial
set_option maxRecDepth 100000
set_option linter.all false
namespace Mine
open PySem PySem.W PyProof.Rows
noncomputable def TabI (X : List (Addr × Obj)) : Prop := (∀ q ∈ X, q.1 ≠ 37) ∧ (X = [(30, tabObj #[])] ∨ ∃ c' oc vs t, X = [(30, tabObj #[rawInt fdIPos.line, rawInt fdIPos.col, .ref c']), (c', oc)] ∧ oc.data = .fields vs ∧ vs[1]? = some (.str (Str.ofString "_int2digits.<locals>.inner") t))
local macro_rules | `(tactic| k_all) => `(tactic| with_reducible assumption)
local macro_rules | `(tactic| k_all) => `(tactic| (refine ne_of_bnd (by with_reducible assumption) ?_; omega))
local macro_rules | `(tactic| k_room) => `(tactic| ktr_room)
local macro_rules | `(tactic| k_enter) => `(tactic| (refine' code_defC ?k1 ?k2 ?k3 ?k4 ?k5 ?kA ?kF ?kK ?k6 ?k7 ?k8 ?k9 ?kB ?kD ?_ ?c2 ?c3 ?c4; (case kA | kF => exact rfl); (case kK => assumption); (case k1 | k2 | k3 | k4 | k5 => k_asm); (case k6 | k7 => k_is); (case k8 => ktr_room); (case k9 => first | exact BindsTo.of_eq rfl | exact binds_K (by k_in) rfl (by k_is) rfl rfl rfl | fail "k_enter: no rule for these arguments"); (case kB => exact rfl); (case kD => decide +kernel); (case c2 | c3 | c4 => exact rfl); k_whole; intro g' L' h' tk' cells' FG' F' N' Y' B' X' T' l1; (try k_lt l1); k_cells Y'; (try simp only [List.cons_append, List.nil_append] at N'); (try dsimp only); (try k_lift B'); (try k_fold)))
theorem digs_len {x n : Int} {k : Nat} (hn : 5 ≤ n ∧ n ≤ 12) (hx0 : 0 ≤ x) (hx : x < (2 ^ n.toNat) ^ k) :
    ∃ len : Nat, ((Builtin.Int.intBits x : Int) + n - 1).fdiv n = len ∧ len ≤ k ∧ x < (2 ^ n.toNat) ^ len ∧ (x ≠ 0 → 0 < len) := by
  obtain ⟨b, rfl⟩ : ∃ b : Nat, n = b := ⟨n.toNat, by omega⟩
  have hb : 5 ≤ b ∧ b ≤ 12 := by omega
  rw [Int.toNat_natCast] at hx ⊢
  have hxa : ((x.natAbs : Nat) : Int) = x := by omega
  have e1 : x.natAbs < 2 ^ (b * k) := by
    rw [← Int.pow_mul, ← hxa] at hx
    exact_mod_cast hx
  have h1 := intBits_le e1
  have h2 := natAbs_lt_pow_bits x
  generalize hB : Builtin.Int.intBits x = B at h1 h2 ⊢
  refine ⟨(B + b - 1) / b, ?_, ?_, ?_, ?_⟩
  · rw [Int.fdiv_eq_ediv_of_nonneg _ (by omega)]
    have : (B : Int) + b - 1 = ((B + b - 1 : Nat) : Int) := by omega
    rw [this]; rfl
  · apply Nat.le_of_lt_succ
    rw [Nat.div_lt_iff_lt_mul (by omega), Nat.succ_mul, Nat.mul_comm k b]
    omega
  · rw [← Int.pow_mul]
    have h3 : B ≤ b * ((B + b - 1) / b) := by
      have := Nat.div_add_mod (B + b - 1) b
      have := Nat.mod_lt (B + b - 1) (show b > 0 by omega)
      omega
    have h4 : x.natAbs < 2 ^ (b * ((B + b - 1) / b)) := Nat.lt_of_lt_of_le h2 (Nat.pow_le_pow_right (by decide) h3)
    rw [← hxa]
    exact_mod_cast h4
  · intro h0
    have : 0 < B := by
      rcases Nat.eq_zero_or_pos B with e | e
      · subst e; simp at h2; omega
      · exact e
    exact Nat.div_pos (by omega) (by omega)
section
variable {prog : Program} {w : World} {A : Around} {E : Value → Shared → Prop} {s : Shared} {h₀ : Heap} {L : Addr} {m : Str → Option Value} {news : List (Addr × Obj)} {l : Addr} {x n : Int} {t u : Tok} {Q : Value → Shared → Prop}
theorem flat_rep {α : Type} (a : α) : ∀ k : Nat, (List.replicate k [a]).flatten = List.replicate k a
  | 0 => rfl
  | k + 1 => by rw [List.replicate_succ, List.replicate_succ, List.flatten_cons, flat_rep a k]; rfl
theorem mul_digs (Fm : Fr h₀ L s.heap m) (N : News h₀ L s.heap news) (hl : s.heap.IsList l #[.int 0 t]) (hn : 5 ≤ n ∧ n ≤ 12) (hx0 : 0 ≤ x) (hx : x < (2 ^ n.toNat) ^ 6)
    (h : ∀ D h' (len : Nat), Fr h₀ L h' m → News h₀ L h' ((D, listOf (List.replicate len (.int 0 t)).toArray 0) :: news) → (∀ p ∈ news, p.1 < D) → IntsAre (List.replicate len (.int 0 t)) (List.replicate len 0) → len ≤ 6 → x < (2 ^ n.toNat) ^ len → (x ≠ 0 → 0 < len) → Q (.ref D) { s with heap := h' }) :
    wpAny (model prog w) A (binaryOp .Mult (.ref l) (.int (((Builtin.Int.intBits x : Int) + n - 1).fdiv n) u)) Q E s := by
  obtain ⟨len, e, h1, h2, h3⟩ := digs_len hn hx0 hx
  rw [e]
  refine KM.mul (vs := [.int 0 t]) (ns := [0]) Fm N hl (.cons 0 t .nil) (by omega) (by omega) (by simp; omega) (fun D h' F' N' l1 i1 _ _ _ _ _ => ?_)
  rw [Int.toNat_natCast, flat_rep] at N' i1
  rw [flat_rep] at i1
  exact h D h' len F' N' l1 i1 h1 h2 h3
end
local macro_rules | `(tactic| walk_at $s:str) => `(tactic| k_extra $s)
theorem wordW7_0 : True := by k_with_none; trivial
theorem wordW7_1 : True := by (k_with "binaryOp Mult ref int" => ((k_here; (with_reducible show wpAny _ _ (binaryOp Operator.Mult (Value.ref _) (Value.int (Int.fdiv _ _) _)) _ _ _); k_dflt (refine' mul_digs ?wqF ?wqN ?wqhl ?wqhn ?wqh0 ?wqh1 ?_; (case wqF => k_asm); (case wqN => k_asm); (case wqhl => is_list); (case wqhn => assumption); (case wqh0 => assumption); (case wqh1 => assumption); k_whole); intro D' h' len9 F' N' l1 i1 g1 g2 g3; (try k_lt l1)))); trivial
theorem size_rep1 {v : Value} (k : Nat) : (List.replicate k v).toArray.size = k := by simp
theorem le_62 {k : Nat} (h : k ≤ 6) : k < 2 ^ 62 := by omega
theorem wordW7_2 : True := by (k_with "call builtin:len" => ((k_here; (with_reducible show wpAny _ _ (call (Value.builtin "len") [Value.ref _]) _ _ _); (refine KM.len_K (by k_asm) (by k_dflt k_mem) (size_rep1 _) (le_62 (by assumption)) ?_)))); trivial
theorem sub2 {a : Addr × Obj} {l act : List (Addr × Obj)} (h1 : a ∈ act) (h4 : ∀ p ∈ l, p ∈ act) : ∀ p ∈ a :: l, p ∈ act := List.forall_mem_cons.mpr ⟨h1, h4⟩
theorem hx_side {len : Nat} {x y : Int} (h1 : len ≤ 6) (h2 : x ≠ 0 → 0 < len) (h3 : x ≠ 0) (h4 : 0 ≤ x) (h5 : x < y ^ len) : 0 < len ∧ len ≤ 6 ∧ ((len : Nat) : Int) = len ∧ 0 ≤ x ∧ x < y ^ len := ⟨h2 h3, h1, rfl, h4, h5⟩
theorem inner_use {w : World} {f c' aI aN aD d : Addr} {oc oI oN oD tb : Obj} {cvs : Array Value} {tq tn : Tok} {doc pm ctv : Value} {n : Int} {len : Nat} {rest act : List (Addr × Obj)} {b : Addr} {x hi : Int} {t u v : Tok} {vs : List Value} {ns : List Int} {ke : Nat} {dp un : Nat} {gd : Option (List Code)} {cn : Str} {cs : Scope} {a : Addr} {ccd : Value} {cl : List (Str × Addr)} {outer : List Env} {A₀ : Around} {base h₀ : Heap} {L : Addr} {m : Str → Option Value} {s : Shared}
    {loose : List Str} {mean : ExcName → Option Value} {mg mb : Str → Option Value} {Q E : Value → Shared → Prop} (B : Below A₀ base outer h₀) (F : Fr h₀ L s.heap m) (X : (KA w.params).In h₀) (N : News h₀ L s.heap act)
    (m1 : (f, iFn doc pm c' aN aI aD ctv) ∈ act) (m2 : (c', oc) ∈ act) (m3 : (aI, oI) ∈ act) (m4 : (aN, oN) ∈ act) (m5 : (aD, oD) ∈ act) (ml : (d, listOf vs.toArray ke) ∈ act) (mt : ((30 : Addr), tb) ∈ act) (hr : ∀ q ∈ rest, q.1 < b) (hb : @LE.le Nat _ b d) (hs : ∀ p ∈ rest, p ∈ act)
    (n1 : @Ne Nat f d) (n2 : @Ne Nat c' d) (n3 : @Ne Nat aI d) (n4 : @Ne Nat aN d) (n5 : @Ne Nat aD d) (n6 : @Ne Nat 30 d) (hI : IntsAre vs ns) (hl : ns.length = len) (hn : 5 ≤ n ∧ n ≤ 12)
    (hx : 0 < len ∧ len ≤ 6 ∧ hi = len ∧ 0 ≤ x ∧ x < (2 ^ n.toNat) ^ len) (T : Top topProg loose mean mg mb h₀) (C1 : CodeHd base 34 30) (C2 : CodeHd base 41 37) (hk : cs.kind = .function) (hd : dp + 6 < recursionLimit) (hu : un + 16 * 6 < cLine)
    (e1 : oc.data = .fields cvs) (e2 : cvs[1]? = some (.str (Str.ofString "_int2digits.<locals>.inner") tq)) (eI : oI.data = .cell (some (.ref f))) (eN : oN.data = .cell (some (.int n tn))) (eD : oD.data = .cell (some (.ref d)))
    (hR : ∀ vs' ke' h' tk', IntsAre vs' (updl (2 ^ n.toNat) ns 0 len x) → Fr h₀ L h' m → News h₀ L h' ((d, listOf vs'.toArray ke') :: (c', oc) :: (aD, oD) :: (30, tb) :: rest) → Q .none { s with heap := h', toks := tk' }) :
    wpAny (model PySem.Challenge.rw_ul0025_01.row.prog w) (ktrTop dp un gd cn cs L a ccd cl outer) (call (.ref f) [.int x t, .int 0 u, .int hi v]) Q E s := by
  obtain ⟨h0, h1, rfl, h3, h4⟩ := hx
  have hnd : ∀ q ∈ (30, tb) :: rest, q.1 ≠ d := List.forall_mem_cons.mpr ⟨n6, ne_of_bnd hr hb⟩
  have hsub : ∀ q ∈ (f, iFn doc pm c' aN aI aD ctv) :: (c', oc) :: (aI, oI) :: (aN, oN) :: (aD, oD) :: (d, listOf vs.toArray ke) :: (30, tb) :: rest, q ∈ act :=
    sub2 m1 (sub2 m2 (sub2 m3 (sub2 m4 (sub2 m5 (sub2 ml (sub2 mt hs))))))
  refine (iIn w f c' aI aN aD d oc oI oN oD cvs tq tn doc pm ctv n len ((30, tb) :: rest) hn h1 ⟨n1, n2, n3, n4, n5⟩ hnd e1 e2 eI eN eD 6).use (x := x) B F X (fun p hp => N p (hsub p hp)) hI hl ⟨rfl, by omega, by omega, by omega, by omega, h3, by simpa using h4⟩ T C1 C2 hk hd hu (fun vs' ke' h' tk' i1 _ F' N' => hR vs' ke' h' tk' i1 F' (fun p hp => N' p ?_))
  simp only [List.mem_cons] at hp ⊢
  rcases hp with h | h | h | h | h <;> simp [h]
theorem sub_t7 {x : Addr × Obj} {l act : List (Addr × Obj)} (h : ∀ p ∈ l, p ∈ act) : ∀ p ∈ l, p ∈ x :: act := fun p hp => .tail _ (h p hp)
theorem wordW7_3 : True := by (k_with "call ref" => ((k_here; k_dflt (refine' inner_use ?wqB ?wqF ?wqX ?wqN ?wqm1 ?wqm2 ?wqm3 ?wqm4 ?wqm5 ?wqml ?wqmt ?wqhr ?wqhb ?wqhs ?wqn1 ?wqn2 ?wqn3 ?wqn4 ?wqn5 ?wqn6 ?wqhI ?wqhl ?wqhn ?wqhx ?wqT ?wqC1 ?wqC2 ?wqkk ?wqhd ?wqhu ?wqe1 ?wqe2 ?wqeI ?wqeN ?wqeD ?_; (case wqB => k_asm); (case wqF => k_asm); (case wqX => k_asm); (case wqN => k_asm); (case wqT => k_asm); (case wqC1 => kn_code); (case wqC2 => kn_code); (case wqkk => first | exact rfl | assumption); (case wqhd => exact room_sub (by assumption) (by decide)); (case wqhu => exact units_sub (by assumption) (by decide)); (case wqhx => exact hx_side (by assumption) (by assumption) (by assumption) (by assumption) (by assumption)); (case wqhn => assumption); (case wqm1 => k_mem); (case wqm2 => k_mem); (case wqm3 => k_mem); (case wqm4 => k_mem); (case wqm5 => k_mem); (case wqeI => assumption); (case wqeN => assumption); (case wqeD => assumption); (case wqml => k_mem); (case wqmt => k_mem); (case wqhr => with_reducible assumption); (case wqhb => omega); (case wqhs => (repeat (first | exact fun _ h => h | refine sub_t7 ?_))); (case wqn1 => omega); (case wqn2 => omega); (case wqn3 => omega); (case wqn4 => omega); (case wqn5 => omega); (case wqn6 => omega); (case wqe1 => assumption); (case wqe2 => assumption); (case wqhI => assumption); (case wqhl => exact List.length_replicate ..)); intro vs9 ke9 h9 tk9' i9 F9 N9))); trivial
theorem updl_all {b : Int} {ns : List Int} {len : Nat} {x : Int} (h : ns.length = len := by simp) : updl b ns 0 len x = digs b len x := by
  unfold updl
  simp [h]
theorem digs_zero (b : Int) : ∀ k : Nat, digs b k 0 = List.replicate k 0
  | 0 => rfl
  | k + 1 => by rw [digs, Int.zero_emod, Int.zero_ediv, digs_zero b k]; rfl
theorem tabI_ne {c' : Addr} {o oc : Obj} (h : c' ≠ 37) : ∀ q ∈ [((30 : Addr), o), (c', oc)], q.1 ≠ 37 := List.forall_mem_cons.mpr ⟨(by decide : (30 : Nat) ≠ 37), List.forall_mem_cons.mpr ⟨h, fun _ h => nomatch h⟩⟩
set_option maxHeartbeats 4000000 in
theorem i2d_miss (w : World) (x n : Int) (tx tn : Tok) (news : List (Addr × Obj)) (hne : ∀ q ∈ news, q.1 ≠ 30) (h37 : ∃ o, ((37 : Addr), o) ∈ news) (hn : 5 ≤ n ∧ n ≤ 12) (hx0 : 0 ≤ x) (hx : x < (2 ^ n.toNat) ^ 6) :
    CtrN w 35 [.int x tx, .int n tn] 10 ((30, tabObj #[]) :: news) (fun v out => ∃ d vs ke X' len, v = .ref d ∧ len ≤ 6 ∧ x < (2 ^ n.toNat) ^ len ∧ IntsAre vs (digs (2 ^ n.toNat) len x) ∧ TabI X' ∧ (∀ q ∈ news, q.1 < d) ∧ @LT.lt Nat _ 30 d ∧ out = (d, listOf vs.toArray ke) :: (X' ++ news)) := by
  unfold CtrN
  k_fill
  intro dp un gd cn cs a ccd cl outer A₀ base h₀ L m s loose mean mg mb Q E B F X N T C1 C2 hk hd hu hret
  refine wpAny_call ?_
  k_dflt k_enter
  rename (_ ∧ AllLt _ _) => l1
  have hA := ktn_ltOf l1.2
  obtain ⟨o37, h37⟩ := h37
  have hL37 : @LT.lt Nat _ 37 _ := hA _ h37
  k_steps
  · rename IntsAre _ (updl _ _ _ _ _) => i9
    rename News _ _ _ _ => N9
    rename (Obj.data _ = Data.fields _) => e1
    rename (_[1]? = some _) => e2
    rename (@LT.lt Nat _ _ _ ∧ @LT.lt Nat _ _ _ ∧ @LT.lt Nat _ _ _ ∧ @LT.lt Nat _ _ _ ∧ @LT.lt Nat _ _ _ ∧ AllLt _ news) => l9
    rw [updl_all] at i9
    k_dflt refine hret _ _ _ _ ⟨_, _, _, _, _, rfl, by assumption, by assumption, i9, ⟨tabI_ne ?_, .inr ⟨_, _, _, _, rfl, e1, e2⟩⟩, ktn_ltOf l9.2.2.2.2.2, ltN ?_, rfl⟩ (by assumption) (News.sub N9 (sub2 (by k_mem) (sub2 (by k_mem) (sub2 (by k_mem) (by (repeat (first | exact fun _ h => h | refine sub_t7 ?_)))))))
    · refine neN ?_; omega
    · omega
  · rename IntsAre _ _ => i9
    rename News _ _ _ _ => N9
    rename (Obj.data _ = Data.fields _) => e1
    rename (_[1]? = some _) => e2
    rename (@LT.lt Nat _ _ _ ∧ @LT.lt Nat _ _ _ ∧ @LT.lt Nat _ _ _ ∧ @LT.lt Nat _ _ _ ∧ @LT.lt Nat _ _ _ ∧ AllLt _ news) => l9
    rename x = 0 => hx9
    subst hx9
    rw [← digs_zero (2 ^ n.toNat)] at i9
    k_dflt refine hret _ _ _ _ ⟨_, _, _, _, _, rfl, by assumption, by assumption, i9, ⟨tabI_ne ?_, .inr ⟨_, _, _, _, rfl, e1, e2⟩⟩, ktn_ltOf l9.2.2.2.2.2, ltN ?_, rfl⟩ (by assumption) (News.sub N9 (sub2 (by k_mem) (sub2 (by k_mem) (sub2 (by k_mem) (by (repeat (first | exact fun _ h => h | refine sub_t7 ?_)))))))
    · refine neN ?_; omega
    · omega
set_option maxHeartbeats 4000000 in
theorem i2d_hit (w : World) (c' : Addr) (oc : Obj) (cvs : Array Value) (ct : Tok) (e1 : oc.data = .fields cvs) (e2 : cvs[1]? = some (.str (Str.ofString "_int2digits.<locals>.inner") ct)) (hc' : ∀ q ∈ [((30 : Addr), tabObj #[rawInt fdIPos.line, rawInt fdIPos.col, .ref c']), (c', oc)], q.1 ≠ 37) (x n : Int) (tx tn : Tok) (news : List (Addr × Obj)) (hne : ∀ q ∈ news, q.1 ≠ 30) (h37 : ∃ o, ((37 : Addr), o) ∈ news) (hn : 5 ≤ n ∧ n ≤ 12) (hx0 : 0 ≤ x) (hx : x < (2 ^ n.toNat) ^ 6) :
    CtrN w 35 [.int x tx, .int n tn] 10 ((30, tabObj #[rawInt fdIPos.line, rawInt fdIPos.col, .ref c']) :: (c', oc) :: news) (fun v out => ∃ d vs ke X' len, v = .ref d ∧ len ≤ 6 ∧ x < (2 ^ n.toNat) ^ len ∧ IntsAre vs (digs (2 ^ n.toNat) len x) ∧ TabI X' ∧ (∀ q ∈ news, q.1 < d) ∧ @LT.lt Nat _ 30 d ∧ out = (d, listOf vs.toArray ke) :: (X' ++ news)) := by
  unfold CtrN
  k_fill
  intro dp un gd cn cs a ccd cl outer A₀ base h₀ L m s loose mean mg mb Q E B F X N T C1 C2 hk hd hu hret
  refine wpAny_call ?_
  k_dflt k_enter
  rename (_ ∧ _ ∧ AllLt _ _) => l1
  have hA := ktn_ltOf l1.2.2
  obtain ⟨o37, h37⟩ := h37
  have hL37 : @LT.lt Nat _ 37 _ := hA _ h37
  k_steps
  · rename IntsAre _ (updl _ _ _ _ _) => i9
    rename News _ _ _ _ => N9
    rename (@LT.lt Nat _ _ _ ∧ @LT.lt Nat _ _ _ ∧ @LT.lt Nat _ _ _ ∧ @LT.lt Nat _ _ _ ∧ @LT.lt Nat _ _ _ ∧ @LT.lt Nat _ _ _ ∧ AllLt _ news) => l9
    rw [updl_all] at i9
    k_dflt refine hret _ _ _ _ ⟨_, _, _, _, _, rfl, by assumption, by assumption, i9, ⟨hc', .inr ⟨_, _, _, _, rfl, e1, e2⟩⟩, ktn_ltOf l9.2.2.2.2.2.2, ltN ?_, rfl⟩ (by assumption) (News.sub N9 (sub2 (by k_mem) (sub2 (by k_mem) (sub2 (by k_mem) (by (repeat (first | exact fun _ h => h | refine sub_t7 ?_)))))))
    · omega
  · rename IntsAre _ _ => i9
    rename News _ _ _ _ => N9
    rename (@LT.lt Nat _ _ _ ∧ @LT.lt Nat _ _ _ ∧ @LT.lt Nat _ _ _ ∧ @LT.lt Nat _ _ _ ∧ @LT.lt Nat _ _ _ ∧ @LT.lt Nat _ _ _ ∧ AllLt _ news) => l9
    rename x = 0 => hx9
    subst hx9
    rw [← digs_zero (2 ^ n.toNat)] at i9
    k_dflt refine hret _ _ _ _ ⟨_, _, _, _, _, rfl, by assumption, by assumption, i9, ⟨hc', .inr ⟨_, _, _, _, rfl, e1, e2⟩⟩, ktn_ltOf l9.2.2.2.2.2.2, ltN ?_, rfl⟩ (by assumption) (News.sub N9 (sub2 (by k_mem) (sub2 (by k_mem) (sub2 (by k_mem) (by (repeat (first | exact fun _ h => h | refine sub_t7 ?_)))))))
    · omega
theorem i2d_ctr (w : World) (x n : Int) (tx tn : Tok) (news X : List (Addr × Obj)) (hX : TabI X) (hne : ∀ q ∈ news, q.1 ≠ 30) (h37 : ∃ o, ((37 : Addr), o) ∈ news) (hn : 5 ≤ n ∧ n ≤ 12) (hx0 : 0 ≤ x) (hx : x < (2 ^ n.toNat) ^ 6) :
    CtrN w 35 [.int x tx, .int n tn] 10 (X ++ news) (fun v out => ∃ d vs ke X' len, v = .ref d ∧ len ≤ 6 ∧ x < (2 ^ n.toNat) ^ len ∧ IntsAre vs (digs (2 ^ n.toNat) len x) ∧ TabI X' ∧ (∀ q ∈ news, q.1 < d) ∧ @LT.lt Nat _ 30 d ∧ out = (d, listOf vs.toArray ke) :: (X' ++ news)) := by
  obtain ⟨h1, rfl | ⟨c', oc, cvs, ct, rfl, e1, e2⟩⟩ := hX
  · exact i2d_miss w x n tx tn news hne h37 hn hx0 hx
  · exact i2d_hit w c' oc cvs ct e1 e2 h1 x n tx tn news hne h37 hn hx0 hx
end Mine
end PartW7

noncomputable section PartW8
theorem Mine.resetW8 : True := by (w_top off); k_with_none; first | (walk1; done) | trivial
set_option maxRecDepth 100000
set_option linter.all false
namespace Mine
open PySem PySem.W PyProof.Rows
noncomputable abbrev tupObj (its : Array Value) (n : Nat) : Obj := { cls := .type "tuple", data := .seq its n }
theorem divmod_K {prog : Program} {w : World} {A : Around} {E : Value → Shared → Prop} {s : Shared} {h₀ : Heap} {L : Addr} {m : Str → Option Value} {news : List (Addr × Obj)} {x y : Int} {t u : Tok} {Q : Value → Shared → Prop}
    (F : Fr h₀ L s.heap m) (N : News h₀ L s.heap news) (hy : 0 < y) (hy2 : y < 2 ^ 29)
    (h : ∀ D h' t1 t2 tk, Fr h₀ L h' m → News h₀ L h' ((D, tupObj #[.int (x / y) t1, .int (x % y) t2] 0) :: news) → (∀ p ∈ news, p.1 < D) → Q (.ref D) { s with toks := tk, heap := h' }) :
    wpAny (model prog w) A (call (.builtin "divmod") [.int x t, .int y u]) Q E s := by
  refine divmod_N F N (by omega) (fun h' F' N' => ?_) (Or.inl (PyProof.noPylong_small (by omega)))
  rw [Int.fdiv_eq_ediv_of_nonneg _ (by omega), Int.fmod_eq_emod_of_nonneg _ (by omega)] at N'
  exact h _ h' _ _ _ F' N' (fun p hp => Heap.lt_size (N p hp).1)
local macro_rules | `(tactic| walk_at $s:str) => `(tactic| k_extra $s)
theorem wordW8_0 : True := by k_with_none; trivial
theorem wordW8_1 : True := by (k_with "call builtin:divmod" => ((k_here; k_dflt (refine' divmod_K ?wqF ?wqN ?wqh1 ?wqh2 ?_; (case wqF => k_asm); (case wqN => k_asm); (case wqh1 => assumption); (case wqh2 => assumption); k_whole); intro D' h' t1' t2' tk' F' N' l1))); trivial
set_option maxHeartbeats 4000000 in
theorem d2n1n_ctr (w : World) (x y n : Int) (t u v : Tok) (hy : 0 < y) (hy2 : y < 2 ^ 29) (hb : (Builtin.Int.intBits x : Int) ≤ 1000) (hn : 0 ≤ n) : Ctr w 21 [.int x t, .int y u, .int n v] Any (fun r own => ∃ D t1 t2, r = .ref D ∧ own = [(D, tupObj #[.int (x / y) t1, .int (x % y) t2] 0)]) := by
  unfold Ctr
  k_fill
  intro dp un gd cn cs a ccd cl outer A₀ base h₀ L m news s loose mean mg mb Q E B F X N T hk hd hu hp hret
  refine wpAny_call ?_
  k_dflt cell_enter
  k_steps
  rename (∀ p ∈ news, p.1 < _) => l1
  exact hret _ [_] _ _ ⟨_, _, _, rfl, rfl⟩ (by assumption) (by assumption) (List.forall_mem_cons.mpr ⟨l1, fun _ h => nomatch h⟩)
end Mine
end PartW8

noncomputable section PartW9
theorem Mine.resetW9 : True := by (w_top off); k_with_none; first | (walk1; done) | trivial
set_option maxRecDepth 100000
set_option linter.all false
namespace Mine
open PySem PySem.W PyProof.Rows
noncomputable abbrev Off (l : List (Addr × Obj)) : Prop := ∀ q ∈ l, @Ne Nat q.1 30 ∧ @Ne Nat q.1 37
noncomputable def TabZ (news zn : List (Addr × Obj)) : Prop := ∃ Y X, TabI Y ∧ TabD X ∧ zn = Y ++ (X ++ news) ∧ Off news
theorem CtrN.weak {w : World} {f : Addr} {args : List Value} {room : Nat} {inL inL2 : List (Addr × Obj)} {R R2 : Value → List (Addr × Obj) → Prop} (c : CtrN w f args room inL R) (h1 : ∀ p ∈ inL, p ∈ inL2) (h2 : ∀ v out, R v out → ∃ out2, R2 v out2 ∧ ∀ p ∈ out2, p ∈ out) : CtrN w f args room inL2 R2 := by
  intro dp un gd cn cs a ccd cl outer A₀ base h₀ L m s loose mean mg mb Q E B F X N T C1 C2 hk hd hu hret
  exact c dp un gd cn cs a ccd cl outer A₀ base h₀ L m s loose mean mg mb Q E B F X (fun p hp => N p (h1 p hp)) T C1 C2 hk hd hu (fun v out h' tk' r F' N' => by
    obtain ⟨out2, r2, hs⟩ := h2 v out r
    exact hret v out2 h' tk' r2 F' (fun p hp => N' p (hs p hp)))
/-- a contract over the tables: for every ledger behind -/
noncomputable def CtrZ (w : World) (f : Addr) (args : List Value) (room : Nat) (news : List (Addr × Obj)) (R : Value → List (Addr × Obj) → Prop) : Prop :=
  ∀ zn, TabZ news zn → CtrN w f args room zn (fun v out => ∃ own zn', TabZ news zn' ∧ R v own ∧ out = own ++ zn')
theorem mem_app {α : Type} {p : α} {a b : List α} : p ∈ a ++ b ↔ p ∈ a ∨ p ∈ b := List.mem_append
theorem i2d_z (w : World) (x n : Int) (tx tn : Tok) (news : List (Addr × Obj)) (hn : 5 ≤ n ∧ n ≤ 12) (hx0 : 0 ≤ x) (hx : x < (2 ^ n.toNat) ^ 6) :
    CtrZ w 35 [.int x tx, .int n tn] 10 news (fun v own => ∃ d vs ke len, v = .ref d ∧ len ≤ 6 ∧ x < (2 ^ n.toNat) ^ len ∧ IntsAre vs (digs (2 ^ n.toNat) len x) ∧ @LT.lt Nat _ 37 d ∧ own = [(d, listOf vs.toArray ke)]) := by
  rintro zn ⟨Y, X, hY, hX, rfl, hoff⟩
  have h37 : ∃ o, ((37 : Addr), o) ∈ X ++ news := by
    rcases hX.2 with e | ⟨c', oc, vs, t, e, _⟩
    · exact ⟨_, by rw [e]; exact .head _⟩
    · exact ⟨_, by rw [e]; exact .head _⟩
  refine (i2d_ctr w x n tx tn (X ++ news) Y hY (fun q hq => ?_) h37 hn hx0 hx).weak (fun _ h => h) ?_
  · rcases mem_app.mp hq with h | h
    · exact hX.1 q h
    · exact (hoff q h).1
  · rintro v out ⟨d, vs, ke, Y', len, rfl, h1, h2, h3, h4, h5, h6, rfl⟩
    obtain ⟨o, ho⟩ := h37
    exact ⟨_, ⟨[(d, listOf vs.toArray ke)], Y' ++ (X ++ news), ⟨Y', X, h4, hX, rfl, hoff⟩, ⟨d, vs, ke, len, rfl, h1, h2, h3, h5 _ ho, rfl⟩, rfl⟩, fun _ h => h⟩
theorem d2i_z (w : World) (d : Addr) (vs : List Value) (ns : List Int) (n : Int) (tn : Tok) (k : Nat) (news : List (Addr × Obj)) (hm : (d, listOf vs.toArray k) ∈ news) (hI : IntsAre vs ns) (hlen : ns.length ≤ 6) (hn : 5 ≤ n ∧ n ≤ 12) (hdig : ∀ x ∈ ns, 0 ≤ x ∧ x < 2 ^ n.toNat) :
    CtrZ w 42 [.ref d, .int n tn] 10 news (fun v own => (∃ tk, v = .int (dval (2 ^ n.toNat) ns) tk) ∧ own = []) := by
  rintro zn ⟨Y, X, hY, hX, rfl, hoff⟩
  refine (d2i_ctr w d vs ns n tn k (Y ++ news) X hX (hoff _ hm).2 (fun q hq => ?_) hI hlen hn hdig).weak (fun p hp => ?_) ?_
  · rcases mem_app.mp hq with h | h
    · exact hY.1 q h
    · exact (hoff q h).2
  · simp only [List.mem_append, List.mem_cons] at hp ⊢
    rcases hp with h | h | h | h
    · exact .inr (.inl h)
    · exact .inr (.inr (h ▸ hm))
    · exact .inl h
    · exact .inr (.inr h)
  · rintro v out ⟨h1, X', hX', rfl⟩
    refine ⟨_, ⟨[], Y ++ (X' ++ news), ⟨Y, X', hY, hX', rfl, hoff⟩, ⟨h1, rfl⟩, rfl⟩, fun p hp => ?_⟩
    simp only [List.mem_append, List.mem_cons, List.nil_append] at hp ⊢
    rcases hp with h | h | h
    · exact .inr (.inr (.inl h))
    · exact .inl h
    · exact .inr (.inr (.inr h))
/-- the ledger at hand: `pre` ahead of the tail `t` -/
inductive Cx (t : List (Addr × Obj)) : List (Addr × Obj) → List (Addr × Obj) → Prop
  | nil : Cx t t []
  | cons {e : Addr × Obj} {l p : List (Addr × Obj)} : Cx t l p → Cx t (e :: l) (e :: p)
theorem Cx.eq {t l p : List (Addr × Obj)} (h : Cx t l p) : l = p ++ t := by
  induction h with
  | nil => rfl
  | cons _ ih => rw [ih]; rfl
theorem TabZ.ext {news zn pre : List (Addr × Obj)} (h : TabZ news zn) (hp : Off pre) : ∃ zn2, TabZ (pre ++ news) zn2 ∧ (∀ p ∈ zn2, p ∈ pre ++ zn) := by
  obtain ⟨Y, X, hY, hX, rfl, ho⟩ := h
  refine ⟨_, ⟨Y, X, hY, hX, rfl, fun q hq => ?_⟩, fun p hp => ?_⟩
  · rcases mem_app.mp hq with h | h
    · exact hp q h
    · exact ho q h
  · simp only [List.mem_append] at hp ⊢
    rcases hp with h | h | h | h
    · exact .inr (.inl h)
    · exact .inr (.inr (.inl h))
    · exact .inl h
    · exact .inr (.inr (.inr h))
theorem TabZ.split {news zn pre : List (Addr × Obj)} (h : TabZ (pre ++ news) zn) : ∃ zn', TabZ news zn' ∧ (∀ p ∈ pre ++ zn', p ∈ zn) := by
  obtain ⟨Y, X, hY, hX, rfl, ho⟩ := h
  refine ⟨_, ⟨Y, X, hY, hX, rfl, fun q hq => ho q (mem_app.mpr (.inr hq))⟩, fun p hp => ?_⟩
  simp only [List.mem_append] at hp ⊢
  rcases hp with h | h | h | h
  · exact .inr (.inr (.inl h))
  · exact .inl h
  · exact .inr (.inl h)
  · exact .inr (.inr (.inr h))
theorem CtrZ.use {w : World} {f : Addr} {args : List Value} {room : Nat} {act zn pre news : List (Addr × Obj)} {R : Value → List (Addr × Obj) → Prop} {dp un : Nat} {gd : Option (List Code)} {cn : Str} {cs : Scope} {a : Addr} {ccd : Value} {cl : List (Str × Addr)} {outer : List Env} {A₀ : Around} {base h₀ : Heap} {L : Addr} {m : Str → Option Value} {s : Shared}
    {loose : List Str} {mean : ExcName → Option Value} {mg mb : Str → Option Value} {Q E : Value → Shared → Prop}
    (B : Below A₀ base outer h₀) (F : Fr h₀ L s.heap m) (X : (KA w.params).In h₀) (N : News h₀ L s.heap act) (cx : Cx zn act pre) (hz : TabZ news zn) (hp : Off pre) (c : CtrZ w f args room (pre ++ news) R) (T : Top topProg loose mean mg mb h₀) (C1 : CodeHd base 34 30) (C2 : CodeHd base 41 37) (hk : cs.kind = .function) (hd : dp + room < recursionLimit) (hu : un + 16 * room < cLine)
    (hR : ∀ v own zn' h' tk', R v own → TabZ news zn' → Fr h₀ L h' m → News h₀ L h' (own ++ (pre ++ zn')) → Q v { s with heap := h', toks := tk' }) :
    wpAny (model PySem.Challenge.rw_ul0025_01.row.prog w) (ktrTop dp un gd cn cs L a ccd cl outer) (call (.ref f) args) Q E s := by
  have e := cx.eq
  subst e
  obtain ⟨zn2, hz2, hs2⟩ := hz.ext hp
  refine (c zn2 hz2) dp un gd cn cs a ccd cl outer A₀ base h₀ L m s loose mean mg mb Q E B F X (fun p hp => N p (hs2 p hp)) T C1 C2 hk hd hu (fun v out h' tk' r F' N' => ?_)
  obtain ⟨own, zn3, hz3, r, rfl⟩ := r
  obtain ⟨zn', hz', hs'⟩ := hz3.split
  refine hR v own zn' h' tk' r hz' F' (fun p hp => N' p ?_)
  rcases mem_app.mp hp with h | h
  · exact mem_app.mpr (.inl h)
  · exact mem_app.mpr (.inr (hs' p h))
theorem Ctr.use {w : World} {f : Addr} {args : List Value} {act : List (Addr × Obj)} {R : Value → List (Addr × Obj) → Prop} {dp un : Nat} {gd : Option (List Code)} {cn : Str} {cs : Scope} {a : Addr} {ccd : Value} {cl : List (Str × Addr)} {outer : List Env} {A₀ : Around} {base h₀ : Heap} {L : Addr} {m : Str → Option Value} {s : Shared}
    {loose : List Str} {mean : ExcName → Option Value} {mg mb : Str → Option Value} {Q E : Value → Shared → Prop} (c : Ctr w f args Any R)
    (B : Below A₀ base outer h₀) (F : Fr h₀ L s.heap m) (X : (KA w.params).In h₀) (N : News h₀ L s.heap act) (T : Top topProg loose mean mg mb h₀) (hk : cs.kind = .function) (hd : dp + 40 < recursionLimit) (hu : un + 400 < cLine)
    (hR : ∀ v own h' tk', R v own → Fr h₀ L h' m → News h₀ L h' (own ++ act) → (∀ p ∈ own, ∀ q ∈ act, q.1 < p.1) → Q v { s with heap := h', toks := tk' }) :
    wpAny (model PySem.Challenge.rw_ul0025_01.row.prog w) (ktrTop dp un gd cn cs L a ccd cl outer) (call (.ref f) args) Q E s :=
  c dp un gd cn cs a ccd cl outer A₀ base h₀ L m act s loose mean mg mb Q E B F X N T hk hd hu trivial hR
end Mine
end PartW9

noncomputable section PartWL
theorem Mine.resetWL : True := by (w_top off); k_with_none; first | (walk1; done) | trivial
set_option maxRecDepth 100000
set_option linter.all false
namespace Mine
open PySem PySem.W PyProof.Rows
noncomputable abbrev upd3 (m0 : Str → Option Value) (n1 n2 n3 : Str) (o1 o2 o3 : Option Value) : Str → Option Value := fun y => if y = n1 then o1 else if y = n2 then o2 else if y = n3 then o3 else m0 y
theorem upd3_self (m0 : Str → Option Value) (n1 n2 n3 : Str) : upd3 m0 n1 n2 n3 (m0 n1) (m0 n2) (m0 n3) = m0 := by
  funext y
  unfold upd3
  split
  · subst y; rfl
  split
  · subst y; rfl
  split
  · subst y; rfl
  rfl
theorem upd3_of {m0 m' : Str → Option Value} {n1 n2 n3 : Str} (e : ∀ y, y ≠ n1 → y ≠ n2 → y ≠ n3 → m' y = m0 y) : upd3 m0 n1 n2 n3 (m' n1) (m' n2) (m' n3) = m' := by
  funext y
  unfold upd3
  split
  · subst y; rfl
  split
  · subst y; rfl
  split
  · subst y; rfl
  rename_i h1 h2 h3
  exact (e y h1 h2 h3).symm
section
variable {prog : Program} {w : World} {A : Around} {E : Value → Shared → Prop} {h₀ : Heap} {env : Env} {x : Str} {body : List Stmt} {Q : Flow → Shared → Prop} {s : Shared} {I : Addr} {lp : Addr × Obj}
theorem RevRest.sub {m : Str → Option Value} {news news2 : List (Addr × Obj)} (hs : ∀ p ∈ news, p ∈ news2) : ∀ {r : List Value}, RevRest prog w A E h₀ env x body Q s I lp r m news → RevRest prog w A E h₀ env x body Q s I lp r m news2
  | [], h => fun hh tk F N => h hh tk F (fun p hp => N p (hs p hp))
  | _ :: _, h => fun it hh tk hit F N => h it hh tk hit F (fun p hp => by
      rcases List.mem_cons.mp hp with e | e
      · exact N p (by rw [e]; exact .head _)
      · exact N p (.tail _ (hs p e)))
theorem rev3 (n1 n2 n3 : Str) {m0 : Str → Option Value} {vs : List Value} {news : List (Addr × Obj)} {S : Type} (ld : S → List (Addr × Obj)) (Inv : List Value → Option Value → Option Value → Option Value → S → Prop) (s0 : S) (hl : news = ld s0)
    (hI : Inv vs (m0 n1) (m0 n2) (m0 n3) s0)
    (zero : ∀ o1 o2 o3 st, Inv [] o1 o2 o3 st → RevRest prog w A E h₀ env x body Q s I lp [] (upd3 m0 n1 n2 n3 o1 o2 o3) (ld st))
    (succ : ∀ v r o1 o2 o3 st, Inv (v :: r) o1 o2 o3 st → (∀ (m' : Str → Option Value) n' st', Inv r (m' n1) (m' n2) (m' n3) st' → (∀ y, y ≠ n1 → y ≠ n2 → y ≠ n3 → m' y = m0 y) → (∀ p ∈ ld st', p ∈ n') → RevRest prog w A E h₀ env x body Q s I lp r m' n') → RevRest prog w A E h₀ env x body Q s I lp (v :: r) (upd3 m0 n1 n2 n3 o1 o2 o3) (ld st)) :
    RevRest prog w A E h₀ env x body Q s I lp vs m0 news := by
  have key : ∀ (r : List Value) o1 o2 o3 st, Inv r o1 o2 o3 st → RevRest prog w A E h₀ env x body Q s I lp r (upd3 m0 n1 n2 n3 o1 o2 o3) (ld st) := by
    intro r
    induction r with
    | nil => exact zero
    | cons v r ih =>
      intro o1 o2 o3 st h
      refine succ v r o1 o2 o3 st h (fun m' n' st' h' e hs => ?_)
      have := Mine.RevRest.sub hs (ih _ _ _ _ h')
      rw [upd3_of e] at this
      exact this
  have := key vs _ _ _ s0 hI
  rw [upd3_self] at this
  rw [hl]; exact this
end
end Mine
end PartWL

noncomputable section PartW10
theorem Mine.resetW10 : True := by (w_top off); k_with_none; first | (walk1; done) | trivial
set_option maxRecDepth 100000
set_option linter.all false
namespace Mine
open PySem PySem.W PyProof.Rows
section
variable {d : Addr} {l : List (Addr × Obj)} {a b c e f g i : Prop}
theorem al0 (h : AllLt d l) : ∀ q ∈ l, q.1 ≠ d := fun q hq => Nat.ne_of_lt (ktn_ltOf h q hq)
theorem al1 (h : a ∧ AllLt d l) : ∀ q ∈ l, q.1 ≠ d := al0 h.2
theorem al2 (h : a ∧ b ∧ AllLt d l) : ∀ q ∈ l, q.1 ≠ d := al0 h.2.2
theorem al3 (h : a ∧ b ∧ c ∧ AllLt d l) : ∀ q ∈ l, q.1 ≠ d := al0 h.2.2.2
theorem al4 (h : a ∧ b ∧ c ∧ e ∧ AllLt d l) : ∀ q ∈ l, q.1 ≠ d := al0 h.2.2.2.2
theorem al5 (h : a ∧ b ∧ c ∧ e ∧ f ∧ AllLt d l) : ∀ q ∈ l, q.1 ≠ d := al0 h.2.2.2.2.2
theorem al6 (h : a ∧ b ∧ c ∧ e ∧ f ∧ g ∧ AllLt d l) : ∀ q ∈ l, q.1 ≠ d := al0 h.2.2.2.2.2.2
theorem al7 (h : a ∧ b ∧ c ∧ e ∧ f ∧ g ∧ i ∧ AllLt d l) : ∀ q ∈ l, q.1 ≠ d := al0 h.2.2.2.2.2.2.2
end
local macro_rules | `(tactic| ktr_rel) => `(tactic| first | exact al0 (by with_reducible assumption) | exact al1 (by with_reducible assumption) | exact al2 (by with_reducible assumption) | exact al3 (by with_reducible assumption) | exact al4 (by with_reducible assumption) | exact al5 (by with_reducible assumption) | exact al6 (by with_reducible assumption) | exact al7 (by with_reducible assumption))
theorem step_val {b y x r d : Int} {qs ρ : List Int} (hy : 0 < y) (h : x = (dval b qs.reverse * y + r) * b ^ (d :: ρ).length + dval b (d :: ρ).reverse) :
    x = (dval b (qs ++ [(r * b + d) / y]).reverse * y + (r * b + d) % y) * b ^ ρ.length + dval b ρ.reverse := by
  rw [List.reverse_append, List.reverse_singleton, List.singleton_append, dval]
  rw [List.reverse_cons, dval_append, List.length_cons, List.length_reverse, Int.pow_succ] at h
  simp only [dval, Int.mul_zero, Int.add_zero] at h
  have e := Int.emod_add_mul_ediv (r * b + d) y
  generalize (r * b + d) / y = q at e ⊢
  generalize (r * b + d) % y = r2 at e ⊢
  generalize dval b qs.reverse = Q at h ⊢
  generalize dval b ρ.reverse = T at h ⊢
  generalize b ^ ρ.length = P at h ⊢
  rw [h]
  have e1 : (Q * y + r) * (P * b) = (Q * y * b + r * b) * P := by
    rw [Int.add_mul, Int.add_mul, Int.mul_comm P b, ← Int.mul_assoc, ← Int.mul_assoc]
  have e2 : ((q + b * Q) * y + r2) * P = (r2 + y * q) * P + Q * y * b * P := by
    rw [Int.add_mul q, Int.add_mul, Int.add_mul, Int.add_mul]
    have : b * Q * y = Q * y * b := by rw [Int.mul_assoc, Int.mul_comm b]
    rw [this, Int.mul_comm q y]; omega
  rw [e1, e2, e, Int.add_mul, Int.add_mul]
  have : d * P = P * d := Int.mul_comm _ _
  omega
theorem step_q {b y r d : Int} (hy : 0 < y) (hyb : y + 1 = b) (h0 : 0 ≤ r) (h1 : r < y) (d0 : 0 ≤ d) (d1 : d < b) : 0 ≤ (r * b + d) / y ∧ (r * b + d) / y < b ∧ 0 ≤ (r * b + d) % y ∧ (r * b + d) % y < y := by
  have h2 : 0 ≤ r * b := Int.mul_nonneg h0 (by omega)
  refine ⟨Int.ediv_nonneg (by omega) (by omega), ?_, Int.emod_nonneg _ (by omega), Int.emod_lt_of_pos _ hy⟩
  refine Int.ediv_lt_of_lt_mul hy ?_
  have h3 : (r + 1) * b ≤ y * b := Int.mul_le_mul_of_nonneg_right (by omega) (by omega)
  rw [Int.add_mul, Int.one_mul, Int.mul_comm y b] at h3
  omega
theorem pow_bnd {n : Int} (hn : 5 ≤ n ∧ n ≤ 12) : 32 ≤ (2 : Int) ^ n.toNat ∧ (2 : Int) ^ n.toNat ≤ 4096 := by
  rcases dis512 hn with rfl | rfl | rfl | rfl | rfl | rfl | rfl | rfl <;> decide
theorem shl_r {prog : Program} {w : World} {A : Around} {E : Value → Shared → Prop} {s : Shared} {t u : Tok} {Q : Value → Shared → Prop} {n r : Int} (hn : 5 ≤ n ∧ n ≤ 12) (h0 : 0 ≤ r) (h1 : r < 2 ^ n.toNat - 1) (h : Q (.int (r * 2 ^ n.toNat) s.toks) { s with toks := s.toks + 1 }) :
    wpAny (model prog w) A (binaryOp .LShift (.int r t) (.int n u)) Q E s := by
  have hb := pow_bnd hn
  have : Builtin.Int.intBits r ≤ 12 := intBits_le (by have e : (2 : Nat) ^ 12 = 4096 := rfl; omega)
  exact lshift_int (by omega) (by omega) h
theorem num_bits {n r d : Int} (hn : 5 ≤ n ∧ n ≤ 12) (h0 : 0 ≤ r) (h1 : r < 2 ^ n.toNat - 1) (d0 : 0 ≤ d) (d1 : d < 2 ^ n.toNat) : (Builtin.Int.intBits (r * 2 ^ n.toNat + d) : Int) ≤ 1000 := by
  have hb := pow_bnd hn
  have h2 : 0 ≤ r * 2 ^ n.toNat := Int.mul_nonneg h0 (by omega)
  have h3 : r * 2 ^ n.toNat ≤ 4096 * 4096 := Int.mul_le_mul (by omega) (by omega) (by omega) (by omega)
  have : Builtin.Int.intBits (r * 2 ^ n.toNat + d) ≤ 30 := intBits_le (by have e : (2 : Nat) ^ 30 = 1073741824 := rfl; omega)
  omega
theorem div_of {x y q r : Int} (hy : 0 < y) (h0 : 0 ≤ r) (h1 : r < y) (h : x = q * y + r) : x / y = q ∧ x % y = r := by
  subst h
  constructor
  · rw [Int.add_comm, Int.add_mul_ediv_right _ _ (by omega), Int.ediv_eq_zero_of_lt h0 h1]; omega
  · rw [Int.add_comm, Int.add_mul_emod_self_right, Int.emod_eq_of_lt h0 h1]
theorem units_400 {d r l : Nat} (h : d + 16 * (r + 1) < l) (hk : 25 ≤ r) : d + 3 + 400 < l := by omega
theorem bits_pow {n : Int} (hn : 5 ≤ n ∧ n ≤ 12) : (Builtin.Int.intBits (2 ^ n.toNat - 1) : Int) = n := by
  rcases dis512 hn with rfl | rfl | rfl | rfl | rfl | rfl | rfl | rfl <;> decide +kernel
theorem blen_K {prog : Program} {w : World} {A : Around} {E : Value → Shared → Prop} {s : Shared} {n : Int} {t : Tok} {Q : Value → Shared → Prop} (hn : 5 ≤ n ∧ n ≤ 12) (h : Q (.int n s.toks) { s with toks := s.toks + 1 }) :
    wpAny (model prog w) A (call (.builtin "int.bit_length") [.int (2 ^ n.toNat - 1) t]) Q E s :=
  call_int_bit_length (by rw [bits_pow hn]; exact h)
local macro_rules | `(tactic| walk_at $s:str) => `(tactic| k_extra $s)
theorem wordW10_0 : True := by k_with_none; trivial
theorem wordW10_1 : True := by (k_with "call builtin:int.bit_length" => ((k_here; k_dflt (refine' blen_K ?wqh ?_; (case wqh => assumption); k_whole)))); trivial
local macro_rules | `(tactic| tb_start) => `(tactic| ((repeat (apply Cx.cons)); exact Cx.nil))
local macro_rules | `(tactic| tb_rel) => `(tactic| first | exact List.forall_mem_nil _ | (refine' List.forall_mem_cons.mpr ⟨⟨?a1, ?a2⟩, ?b⟩; (case a1 | a2 => k_ne); (case b => tb_rel)))
local macro_rules | `(tactic| k_all) => `(tactic| ktr_rel)
theorem offI_of {I : Addr} {it : Obj} : ∀ {l : List (Addr × Obj)}, (∀ p ∈ l, p.1 ≠ I) → OffI I it l
  | [], _ => trivial
  | p :: _, h => ⟨.inl (h p (.head _)), offI_of fun q hq => h q (.tail _ hq)⟩
theorem wordW10_2 : True := by (k_with "pyIter ref" => ((k_here; (rename Fr _ _ _ _ => lF'); (rename News _ _ _ _ => lN'); (with_unfolding_all refine iter_revUnr (by rfl) lF' lN' (offI_of (by k_all)) (by k_mem) (by rfl) (by rfl) ?_); clear lF'))); trivial
theorem i2d_use {w : World} {act zn pre news : List (Addr × Obj)} {dp un : Nat} {gd : Option (List Code)} {cn : Str} {cs : Scope} {a : Addr} {ccd : Value} {cl : List (Str × Addr)} {outer : List Env} {A₀ : Around} {base h₀ : Heap} {L : Addr} {m : Str → Option Value} {s : Shared} {loose : List Str} {mean : ExcName → Option Value} {mg mb : Str → Option Value} {Q E : Value → Shared → Prop} (B : Below A₀ base outer h₀) (F : Fr h₀ L s.heap m) (X : (KA w.params).In h₀) (N : News h₀ L s.heap act) (T : Top topProg loose mean mg mb h₀) (hk : cs.kind = .function) (cx : Cx zn act pre) (hz : TabZ news zn) (hp : Off pre) (C1 : CodeHd base 34 30) (C2 : CodeHd base 41 37) {x n : Int} {tx tn : Tok} (hn : 5 ≤ n ∧ n ≤ 12) (hx0 : 0 ≤ x) (hx : x < (2 ^ n.toNat) ^ 6) (hd : dp + 10 < recursionLimit) (hu : un + 16 * 10 < cLine)
    (hR : ∀ d vs ke len zn' h' tk', len ≤ 6 → x < (2 ^ n.toNat) ^ len → IntsAre vs (digs (2 ^ n.toNat) len x) → @LT.lt Nat _ 37 d → TabZ news zn' → Fr h₀ L h' m → News h₀ L h' ((d, listOf vs.toArray ke) :: (pre ++ zn')) → Q (.ref d) { s with heap := h', toks := tk' }) :
    wpAny (model PySem.Challenge.rw_ul0025_01.row.prog w) (ktrTop dp un gd cn cs L a ccd cl outer) (call (.ref 35) [.int x tx, .int n tn]) Q E s :=
  CtrZ.use B F X N cx hz hp (i2d_z w x n tx tn _ hn hx0 hx) T C1 C2 hk hd hu (by
    rintro v own zn' h' tk' ⟨d, vs, ke, len, rfl, g1, g2, g3, g4, rfl⟩ hz' F' N'
    exact hR d vs ke len zn' h' tk' g1 g2 g3 g4 hz' F' N')
theorem d2i_use {w : World} {act zn pre news : List (Addr × Obj)} {dp un : Nat} {gd : Option (List Code)} {cn : Str} {cs : Scope} {a : Addr} {ccd : Value} {cl : List (Str × Addr)} {outer : List Env} {A₀ : Around} {base h₀ : Heap} {L : Addr} {m : Str → Option Value} {s : Shared} {loose : List Str} {mean : ExcName → Option Value} {mg mb : Str → Option Value} {Q E : Value → Shared → Prop} (B : Below A₀ base outer h₀) (F : Fr h₀ L s.heap m) (X : (KA w.params).In h₀) (N : News h₀ L s.heap act) (T : Top topProg loose mean mg mb h₀) (hk : cs.kind = .function) (cx : Cx zn act pre) (hz : TabZ news zn) (hp : Off pre) (C1 : CodeHd base 34 30) (C2 : CodeHd base 41 37) {d : Addr} {vs : List Value} {ns : List Int} {n : Int} {tn : Tok} {k : Nat} (hm : (d, listOf vs.toArray k) ∈ pre) (hI : IntsAre vs ns) (hlen : ns.length ≤ 6) (hn : 5 ≤ n ∧ n ≤ 12) (hdig : ∀ x ∈ ns, 0 ≤ x ∧ x < 2 ^ n.toNat) (hd : dp + 10 < recursionLimit) (hu : un + 16 * 10 < cLine)
    (hR : ∀ t zn' h' tk', TabZ news zn' → Fr h₀ L h' m → News h₀ L h' (pre ++ zn') → Q (.int (dval (2 ^ n.toNat) ns) t) { s with heap := h', toks := tk' }) :
    wpAny (model PySem.Challenge.rw_ul0025_01.row.prog w) (ktrTop dp un gd cn cs L a ccd cl outer) (call (.ref 42) [.ref d, .int n tn]) Q E s :=
  CtrZ.use B F X N cx hz hp (d2i_z w d vs ns n tn k _ (mem_app.mpr (.inl hm)) hI hlen hn hdig) T C1 C2 hk hd hu (by
    rintro v own zn' h' tk' ⟨⟨t, rfl⟩, rfl⟩ hz' F' N'
    exact hR t zn' h' tk' hz' F' N')
theorem d2n_use {w : World} {act : List (Addr × Obj)} {dp un : Nat} {gd : Option (List Code)} {cn : Str} {cs : Scope} {a : Addr} {ccd : Value} {cl : List (Str × Addr)} {outer : List Env} {A₀ : Around} {base h₀ : Heap} {L : Addr} {m : Str → Option Value} {s : Shared} {loose : List Str} {mean : ExcName → Option Value} {mg mb : Str → Option Value} {Q E : Value → Shared → Prop} (B : Below A₀ base outer h₀) (F : Fr h₀ L s.heap m) (X : (KA w.params).In h₀) (N : News h₀ L s.heap act) (T : Top topProg loose mean mg mb h₀) (hk : cs.kind = .function) {x y n : Int} {t u v : Tok} (hy : 0 < y) (hy2 : y < 2 ^ 29) (hb : (Builtin.Int.intBits x : Int) ≤ 1000) (hn : 5 ≤ n ∧ n ≤ 12) (hd : dp + 40 < recursionLimit) (hu : un + 400 < cLine)
    (hR : ∀ D t1 t2 h' tk', Fr h₀ L h' m → News h₀ L h' ((D, tupObj #[.int (x / y) t1, .int (x % y) t2] 0) :: act) → (∀ q ∈ act, q.1 < D) → Q (.ref D) { s with heap := h', toks := tk' }) :
    wpAny (model PySem.Challenge.rw_ul0025_01.row.prog w) (ktrTop dp un gd cn cs L a ccd cl outer) (call (.ref 21) [.int x t, .int y u, .int n v]) Q E s :=
  (d2n1n_ctr w x y n t u v hy hy2 hb (by omega)).use B F X N T hk hd hu (by
    rintro v own h' tk' ⟨D, t1, t2, rfl, rfl⟩ F' N' l
    exact hR D t1 t2 h' tk' F' N' (l _ (.head _)))
theorem wordW10_3 : True := by (k_with "call ref" => ((k_here; k_dflt (refine' i2d_use ?wqB ?wqF ?wqX ?wqN ?wqT ?wqkk ?wqcx ?wqhz ?wqhp ?wqC1 ?wqC2 ?wqq1 ?wqq2 ?wqq3 ?wqhd ?wqhu ?_; (case wqB => k_asm); (case wqF => k_asm); (case wqX => k_asm); (case wqN => k_asm); (case wqT => k_asm); (case wqC1 => kn_code); (case wqC2 => kn_code); (case wqkk => first | exact rfl | assumption); (case wqhd => exact room_sub (by assumption) (by decide)); (case wqhu => exact units_sub (by assumption) (by decide)); (case wqcx => tb_start); (case wqhz => assumption); (case wqhp => tb_rel); (case wqq1 => assumption); (case wqq2 => assumption); (case wqq3 => assumption)); intro d9 vs9 ke9 len9 zn9 h9 tk9 g1 g2 g3 g4 hz9 F9 N9; (try simp only [List.cons_append, List.nil_append] at N9)))); trivial
theorem wordW10_4 : True := by (k_with "call ref" => ((k_here; k_dflt (refine' d2n_use ?wqB ?wqF ?wqX ?wqN ?wqT ?wqkk ?wqq1 ?wqq2 ?wqq3 ?wqq4 ?wqhd ?wqhu ?_; (case wqB => k_asm); (case wqF => k_asm); (case wqX => k_asm); (case wqN => k_asm); (case wqT => k_asm); (case wqkk => first | exact rfl | assumption); (case wqhd => exact room_sub (by assumption) (by decide)); (case wqhu => exact units_400 (by assumption) (by decide)); (case wqq1 => assumption); (case wqq2 => assumption); (case wqq3 => exact num_bits (by assumption) (by assumption) (by assumption) (by assumption) (by assumption)); (case wqq4 => assumption)); intro D9 t19 t29 h9 tk9 F9 N9 l9; (try k_lt l9)))); trivial
theorem wordW10_5 : True := by (k_with "binaryOp LShift int int" => ((k_here; k_dflt (refine' shl_r ?wqhn ?wqh0 ?wqh1 ?_; (case wqhn => assumption); (case wqh0 => assumption); (case wqh1 => assumption); k_whole)))); trivial
theorem rev_room {vq : List Value} {qs : List Int} {k len : Nat} (h : IntsAre vq qs) (h1 : qs.length + k = len) (h2 : len ≤ 6) : vq.toArray.toList.length ≤ sizeLine := by
  have e : vq.length = qs.length := h.length
  have : vq.toArray.toList.length = qs.length := by simpa using e
  rw [this]
  have : (6 : Nat) ≤ sizeLine := by decide
  omega
theorem ints_rev : ∀ {vs : List Value} {ns : List Int}, IntsAre vs ns → IntsAre vs.reverse ns.reverse
  | _, _, .nil => .nil
  | _, _, .cons i t h => by
    rw [List.reverse_cons, List.reverse_cons]
    exact IntsAre.append (ints_rev h) (.cons i t .nil)
theorem wordW10_6 : True := by (k_with "call builtin:list.reverse" => ((k_here; (with_reducible show wpAny _ _ (call (Value.builtin _) [Value.ref _]) _ _ _); k_dflt (refine' kl_reverse ?wqF ?wqN ?wqe ?wqU ?wqz ?_; (case wqF => k_asm); (case wqN => k_asm); (case wqe => exact rfl); (case wqU => k_upd); (case wqz => exact rev_room (by assumption) (by assumption) (by assumption))); intro h' F' N'))); trivial
theorem wordW10_7 : True := by (k_with "call ref" => ((k_here; k_dflt (refine' d2i_use ?wqB ?wqF ?wqX ?wqN ?wqT ?wqkk ?wqcx ?wqhz ?wqhp ?wqC1 ?wqC2 ?wqhm ?wqq1 ?wqq2 ?wqq3 ?wqq4 ?wqhd ?wqhu ?_; (case wqB => k_asm); (case wqF => k_asm); (case wqX => k_asm); (case wqN => k_asm); (case wqT => k_asm); (case wqC1 => kn_code); (case wqC2 => kn_code); (case wqkk => first | exact rfl | assumption); (case wqhd => exact room_sub (by assumption) (by decide)); (case wqhu => exact units_sub (by assumption) (by decide)); (case wqcx => tb_start); (case wqhz => assumption); (case wqhp => tb_rel); (case wqhm => k_mem); (case wqq1 => assumption); (case wqq2 => assumption); (case wqq3 => assumption); (case wqq4 => assumption)); intro t9 zn9 h9 tk9 hz9 F9 N9; (try simp only [List.cons_append, List.nil_append] at N9)))); trivial
set_option maxHeartbeats 4000000 in
theorem pos_z (w : World) (x n : Int) (tx ty : Tok) (news : List (Addr × Obj)) (hn : 5 ≤ n ∧ n ≤ 12) (hx0 : 0 ≤ x) (hx : x < (2 ^ n.toNat) ^ 6) :
    CtrZ w 49 [.int x tx, .int (2 ^ n.toNat - 1) ty] 60 news (fun v own => ∃ d t1 t2, v = .ref d ∧ own = [(d, tupObj #[.int (x / (2 ^ n.toNat - 1)) t1, .int (x % (2 ^ n.toNat - 1)) t2] 0)] ∧ @LT.lt Nat _ 37 d) := by
  intro zn hz
  unfold CtrN
  k_fill
  intro dp un gd cn cs a ccd cl outer A₀ base h₀ L m s loose mean mg mb Q E B F X N T C1 C2 hk hd hu hret
  refine wpAny_call ?_
  k_dflt cell_enter
  k_steps
  rename_i hA tkA hB lq hC l1 hD D9 hE l2
  rename News _ _ _ _ => lN
  have hb := pow_bnd hn
  have hy : 0 < (2 : Int) ^ n.toNat - 1 := by omega
  have hy2 : (2 : Int) ^ n.toNat - 1 < 2 ^ 29 := by omega
  refine rev3 (Str.ofString "r") (Str.ofString "q_digit") (Str.ofString "a_digit") (S := List Value × Nat) (fun st => (lq, listOf st.1.toArray st.2) :: (d9, listOf vs9.toArray ke9) :: zn9)
    (fun r o1 _ _ st => ∃ (ρ qs : List Int) (rr : Int) (tr : Tok), o1 = some (.int rr tr) ∧ IntsAre r ρ ∧ (∀ z ∈ ρ, 0 ≤ z ∧ z < 2 ^ n.toNat) ∧ IntsAre st.1 qs ∧ (∀ z ∈ qs, 0 ≤ z ∧ z < 2 ^ n.toNat) ∧ qs.length + ρ.length = len9 ∧ 0 ≤ rr ∧ rr < 2 ^ n.toNat - 1 ∧
      x = (dval (2 ^ n.toNat) qs.reverse * (2 ^ n.toNat - 1) + rr) * (2 ^ n.toNat) ^ ρ.length + dval (2 ^ n.toNat) ρ.reverse) ([], 0) rfl ?start ?zero ?succ
  case start =>
    have hp : (0 : Int) < 2 ^ n.toNat := by omega
    refine ⟨_, [], 0, _, rfl, ints_rev g3, fun z hz => digs_mem hp _ _ z (List.mem_reverse.mp hz), .nil, (fun z h => absurd h List.not_mem_nil), by rw [List.length_reverse, digs_length]; simp, Int.le_refl 0, hy, ?_⟩
    rw [List.reverse_reverse, digs_val hp len9 x hx0 g2]
    simp [dval]
  case zero =>
    rintro o1 o2 o3 ⟨vq, kq⟩ ⟨ρ, qs, rr, tr, rfl, hI, hρ, hQ, hqs, hlen, hr0, hr1, hval⟩
    cases hI
    dsimp only at hQ ⊢
    have hQ2 := ints_rev hQ
    have hlen2 : qs.reverse.length ≤ 6 := by rw [List.length_reverse]; exact Nat.le_trans (Nat.le_of_eq (by simpa using hlen)) g1
    have hqs2 : ∀ z ∈ qs.reverse, 0 ≤ z ∧ z < 2 ^ n.toNat := fun z hz => hqs z (List.mem_reverse.mp hz)
    k_steps
    have hxe : x = dval (2 ^ n.toNat) qs.reverse * (2 ^ n.toNat - 1) + rr := by
      rw [hval]; simp [dval]
    obtain ⟨hq9, hr9⟩ := div_of hy hr0 hr1 hxe
    rename News _ _ _ _ => N9
    refine hret _ _ _ _ ⟨[_], _, by assumption, ⟨_, _, _, rfl, by rw [hq9, hr9], ltN ?_⟩, rfl⟩ (by assumption) (News.sub N9 (sub2 (by k_mem) (by (repeat (first | exact fun _ h => h | refine sub_t7 ?_)))))
    omega
  case succ =>
    rintro v r o1 o2 o3 ⟨vq, kq⟩ ⟨ρ, qs, rr, tr, rfl, hI, hρ, hQ, hqs, hlen, hr0, hr1, hval⟩ ih
    cases hI with
    | cons d td hI =>
    rename_i ρ
    have hd0 : 0 ≤ d := (hρ d (.head _)).1
    have hd1 : d < 2 ^ n.toNat := (hρ d (.head _)).2
    dsimp only at hQ ⊢
    k_steps
    · rename News _ _ _ _ => N9
      simp only [List.push_toArray] at N9
      obtain ⟨s1, s2, s3, s4⟩ := step_q hy (by omega) hr0 hr1 hd0 hd1
      refine UnrEnd.intro (by assumption) N9 ((lq, listOf (vq ++ [Value.int ((rr * 2 ^ n.toNat + d) / (2 ^ n.toNat - 1)) ?tk9]).toArray (kq + 1)) :: (d9, listOf vs9.toArray ke9) :: zn9) ?sub ?off ⟨?mem, ?rest⟩
      case sub => exact sub2 (by k_mem) (sub2 (by k_mem) (sub2 (by k_mem) (by (repeat (first | exact fun _ h => h | refine sub_t7 ?_)))))
      case mem => k_mem
      case off => k_all
      case rest =>
        refine ih _ _ (vq ++ [Value.int ((rr * 2 ^ n.toNat + d) / (2 ^ n.toNat - 1)) _], kq + 1) ⟨ρ, qs ++ [(rr * 2 ^ n.toNat + d) / (2 ^ n.toNat - 1)], (rr * 2 ^ n.toNat + d) % (2 ^ n.toNat - 1), _, rfl, hI, fun z hz => hρ z (.tail _ hz), IntsAre.append hQ (.cons _ _ .nil), ?_, ?_, s3, s4, step_val hy hval⟩ (fun y e1 e2 e3 => ?_) (fun p hp => hp)
        · intro z hz
          rcases List.mem_append.mp hz with h | h
          · exact hqs z h
          · rw [List.mem_singleton.mp h]; exact ⟨s1, s2⟩
        · rw [List.length_append, List.length_singleton]
          simpa [Nat.add_assoc, Nat.add_comm 1] using hlen
        · ((repeat (refine (if_neg (by assumption)).trans ?_)); refine Eq.symm ?_; (repeat (refine (if_neg (by assumption)).trans ?_)); exact rfl)
end Mine
end PartW10

noncomputable section PartW11
theorem Mine.resetW11 : True := by (w_top off); k_with_none; first | (walk1; done) | trivial
set_option maxRecDepth 100000
set_option linter.all false
namespace Mine
open PySem PySem.W PyProof.Rows
theorem pos_use {w : World} {act zn pre news : List (Addr × Obj)} {dp un : Nat} {gd : Option (List Code)} {cn : Str} {cs : Scope} {a : Addr} {ccd : Value} {cl : List (Str × Addr)} {outer : List Env} {A₀ : Around} {base h₀ : Heap} {L : Addr} {m : Str → Option Value} {s : Shared} {loose : List Str} {mean : ExcName → Option Value} {mg mb : Str → Option Value} {Q E : Value → Shared → Prop} (B : Below A₀ base outer h₀) (F : Fr h₀ L s.heap m) (X : (KA w.params).In h₀) (N : News h₀ L s.heap act) (T : Top topProg loose mean mg mb h₀) (hk : cs.kind = .function) (cx : Cx zn act pre) (hz : TabZ news zn) (hp : Off pre) (C1 : CodeHd base 34 30) (C2 : CodeHd base 41 37) {x n : Int} {tx ty : Tok} (hn : 5 ≤ n ∧ n ≤ 12) (hx0 : 0 ≤ x) (hx : x < (2 ^ n.toNat) ^ 6) (hd : dp + 60 < recursionLimit) (hu : un + 16 * 60 < cLine)
    (hR : ∀ d t1 t2 zn' h' tk', @LT.lt Nat _ 37 d → TabZ news zn' → Fr h₀ L h' m → News h₀ L h' ((d, tupObj #[.int (x / (2 ^ n.toNat - 1)) t1, .int (x % (2 ^ n.toNat - 1)) t2] 0) :: (pre ++ zn')) → Q (.ref d) { s with heap := h', toks := tk' }) :
    wpAny (model PySem.Challenge.rw_ul0025_01.row.prog w) (ktrTop dp un gd cn cs L a ccd cl outer) (call (.ref 49) [.int x tx, .int (2 ^ n.toNat - 1) ty]) Q E s :=
  CtrZ.use B F X N cx hz hp (pos_z w x n tx ty _ hn hx0 hx) T C1 C2 hk hd hu (by
    rintro v own zn' h' tk' ⟨d, t1, t2, rfl, rfl, g⟩ hz' F' N'
    exact hR d t1 t2 zn' h' tk' g hz' F' N')
local macro_rules | `(tactic| tb_start) => `(tactic| ((repeat (apply Cx.cons)); exact Cx.nil))
local macro_rules | `(tactic| tb_rel) => `(tactic| first | exact List.forall_mem_nil _ | (refine' List.forall_mem_cons.mpr ⟨⟨?a1, ?a2⟩, ?b⟩; (case a1 | a2 => k_ne); (case b => tb_rel)))
local macro_rules | `(tactic| walk_at $s:str) => `(tactic| k_extra $s)
theorem wordW11_0 : True := by k_with_none; trivial
theorem wordW11_1 : True := by (k_with "call ref" => ((k_here; k_dflt (refine' pos_use ?wqB ?wqF ?wqX ?wqN ?wqT ?wqkk ?wqcx ?wqhz ?wqhp ?wqC1 ?wqC2 ?wqq1 ?wqq2 ?wqq3 ?wqhd ?wqhu ?_; (case wqB => k_asm); (case wqF => k_asm); (case wqX => k_asm); (case wqN => k_asm); (case wqT => k_asm); (case wqC1 => kn_code); (case wqC2 => kn_code); (case wqkk => first | exact rfl | assumption); (case wqhd => exact room_sub (by assumption) (by decide)); (case wqhu => exact units_sub (by assumption) (by decide)); (case wqcx => tb_start); (case wqhz => assumption); (case wqhp => tb_rel); (case wqq1 => assumption); (case wqq2 => assumption); (case wqq3 => assumption)); intro d9 t9 u9 zn9 h9 tk9 g9 hz9 F9 N9; (try simp only [List.cons_append, List.nil_append] at N9)))); trivial
set_option maxHeartbeats 4000000 in
theorem idm_z (w : World) (x n : Int) (tx ty : Tok) (news : List (Addr × Obj)) (hn : 5 ≤ n ∧ n ≤ 12) (hx0 : 0 ≤ x) (hx : x < (2 ^ n.toNat) ^ 6) :
    CtrZ w 56 [.int x tx, .int (2 ^ n.toNat - 1) ty] 70 news (fun v own => ∃ d t1 t2, v = .ref d ∧ own = [(d, tupObj #[.int (x / (2 ^ n.toNat - 1)) t1, .int (x % (2 ^ n.toNat - 1)) t2] 0)] ∧ @LT.lt Nat _ 37 d) := by
  intro zn hz
  unfold CtrN
  k_fill
  intro dp un gd cn cs a ccd cl outer A₀ base h₀ L m s loose mean mg mb Q E B F X N T C1 C2 hk hd hu hret
  have hb := pow_bnd hn
  refine wpAny_call ?_
  k_dflt cell_enter
  k_steps
  · exfalso; omega
  · exact hret _ _ _ _ ⟨[_], _, by assumption, ⟨_, _, _, rfl, rfl, by assumption⟩, rfl⟩ (by assumption) (by assumption)
end Mine
end PartW11

noncomputable section PartWM
theorem Mine.resetWM : True := by (w_top off); k_with_none; first | (walk1; done) | trivial
set_option maxRecDepth 100000
set_option linter.all false
namespace Mine
open PySem PySem.W PyProof.Rows
/-- `all` without one entry -/
inductive Drp (p : Addr × Obj) : List (Addr × Obj) → List (Addr × Obj) → Prop
  | here {l : List (Addr × Obj)} : Drp p (p :: l) l
  | there {e : Addr × Obj} {l r : List (Addr × Obj)} : Drp p l r → Drp p (e :: l) (e :: r)
theorem Drp.mem {p : Addr × Obj} {l r : List (Addr × Obj)} (h : Drp p l r) : ∀ q ∈ p :: r, q ∈ l := by
  induction h with
  | here => exact fun _ h => h
  | there _ ih =>
    intro q hq
    rcases List.mem_cons.mp hq with e | hq
    · exact .tail _ (ih q (e ▸ .head _))
    · rcases List.mem_cons.mp hq with e | hq
      · exact e ▸ .head _
      · exact .tail _ (ih q (.tail _ hq))
theorem unrEnd_drp {h₀ : Heap} {L I : Addr} {it : Obj} {rest : (Str → Option Value) → List (Addr × Obj) → Prop} {s₁ : Shared} {h' : Heap} {tk : Nat} {m' : Str → Option Value} {all r : List (Addr × Obj)} (F : Fr h₀ L h' m') (N : News h₀ L h' all) (d : Drp (I, it) all r) (off : ∀ p ∈ r, p.1 ≠ I) (hr : rest m' r) :
    UnrEnd h₀ L s₁ I it rest { s₁ with heap := h', toks := tk } := UnrEnd.intro F N r d.mem off hr
end Mine
end PartWM

noncomputable section PartW12
theorem Mine.resetW12 : True := by (w_top off); k_with_none; first | (walk1; done) | trivial
set_option maxRecDepth 100000
set_option linter.all false
namespace Mine
open PySem PySem.W PyProof.Rows
noncomputable abbrev Cell (c : Int) : Prop := 0 ≤ c ∧ c < 10 ^ 18
local macro_rules | `(tactic| ktr_rel) => `(tactic| first | exact al0 (by with_reducible assumption) | exact al1 (by with_reducible assumption) | exact al2 (by with_reducible assumption) | exact al3 (by with_reducible assumption) | exact al4 (by with_reducible assumption) | exact al5 (by with_reducible assumption) | exact al6 (by with_reducible assumption) | exact al7 (by with_reducible assumption))
local macro_rules | `(tactic| k_all) => `(tactic| ktr_rel)
local macro_rules | `(tactic| walk_at $s:str) => `(tactic| k_extra $s)
theorem wordW12_0 : True := by k_with_none; trivial
theorem wordW12_1 : True := by (k_with "UnrEnd" => ((k_dflt (refine' unrEnd_drp ?wqF ?wqN ?wqd ?wqoff ?_; (case wqF => k_asm); (case wqN => k_asm); (case wqd => (repeat (first | exact Drp.here | apply Drp.there))); (case wqoff => k_all))))); trivial
theorem cell_mod (x : Int) : Cell (x.fmod (10 ^ Int.toNat 18)) := by
  have e : (10 : Int) ^ Int.toNat 18 = 10 ^ 18 := by decide
  rw [e, Int.fmod_eq_emod_of_nonneg _ (by decide)]
  exact ⟨Int.emod_nonneg _ (by decide), Int.emod_lt_of_pos _ (by decide)⟩
set_option maxHeartbeats 4000000 in
theorem cells_use {w : World} {l : Addr} {vs : List Value} {ns : List Int} (hI : IntsAre vs ns) (hlay : PyData.layable0 (.list (ns.map .int)) = true) (hsz : ns.length ≤ 63) {news : List (Addr × Obj)} {dp un : Nat} {gd : Option (List Code)} {cn : Str} {cs : Scope} {a : Addr} {ccd : Value} {cl : List (Str × Addr)} {outer : List Env} {A₀ : Around} {base h₀ : Heap} {L : Addr} {m : Str → Option Value} {s : Shared} {loose : List Str} {mean : ExcName → Option Value} {mg mb : Str → Option Value} {Q E : Value → Shared → Prop} (B : Below A₀ base outer h₀) (F : Fr h₀ L s.heap m) (X : (KA w.params).In h₀) (N : News h₀ L s.heap news) (T : Top topProg loose mean mg mb h₀) (hk : cs.kind = .function) (hS : base.IsList l vs.toArray) (hd : dp + 40 < recursionLimit) (hu : un + 400 < cLine)
    (hR : ∀ d c0 c1 c2 c3 t0 t1 t2 t3 k h' tk', Cell c0 → Cell c1 → Cell c2 → Cell c3 → Fr h₀ L h' m → News h₀ L h' ((d, listOf #[.int c0 t0, .int c1 t1, .int c2 t2, .int c3 t3] k) :: news) → (∀ q ∈ news, q.1 < d) → Q (.ref d) { s with heap := h', toks := tk' }) :
    wpAny (model PySem.Challenge.rw_ul0025_01.row.prog w) (ktrTop dp un gd cn cs L a ccd cl outer) (call (.ref 148) [.ref l]) Q E s := by
  revert X; k_fill; intro X
  refine wpAny_call ?_
  k_dflt cell_enter
  k_steps
  all_goals
    rename News _ _ _ _ => N9
    refine hR _ _ _ _ _ _ _ _ _ _ _ _ ?_ ?_ ?_ ?_ (by assumption) N9 (by assumption)
    all_goals first
    | exact cell_mod _
    | (constructor <;> decide)
end Mine
end PartW12

noncomputable section PartWN
theorem Mine.resetWN : True := by (w_top off); k_with_none; first | (walk1; done) | trivial
set_option maxRecDepth 100000
set_option linter.all false
namespace Mine
open PySem PySem.W PyProof.Rows
section
variable {prog : Program} {w : World} {A : Around} {E : Value → Shared → Prop} {h₀ : Heap} {env : Env} {x : Str} {body : List Stmt} {Q : Flow → Shared → Prop} {s : Shared} {I : Addr} {lp : Addr × Obj}
theorem RangeRest.sub {a : Int} {n : Nat} {m : Str → Option Value} {news news2 : List (Addr × Obj)} (hs : ∀ p ∈ news, p ∈ news2) : ∀ {k i : Nat}, RangeRest prog w A E h₀ env x body Q s I a n k i m news → RangeRest prog w A E h₀ env x body Q s I a n k i m news2
  | 0, _, h => fun hh tk F N => h hh tk F (fun p hp => N p (hs p hp))
  | _ + 1, _, h => fun t hh tk F N => h t hh tk F (fun p hp => by
      rcases List.mem_cons.mp hp with e | e
      · exact N p (by rw [e]; exact .head _)
      · exact N p (.tail _ (hs p e)))
end

noncomputable abbrev upd1 (m0 : Str → Option Value) (n1 : Str) (o1 : Option Value) : Str → Option Value := fun y => if y = n1 then o1 else m0 y
theorem upd1_self (m0 : Str → Option Value) (n1 : Str) : upd1 m0 n1 (m0 n1) = m0 := by
  funext y
  unfold upd1
  split
  · subst y; rfl
  rfl
theorem upd1_of {m0 m' : Str → Option Value} {n1 : Str} (e : ∀ y, y ≠ n1 → m' y = m0 y) : upd1 m0 n1 (m' n1) = m' := by
  funext y
  unfold upd1
  split
  · subst y; rfl
  rename_i h1
  exact (e y h1).symm
theorem range1 {prog : Program} {w : World} {A : Around} {E : Value → Shared → Prop} {h₀ : Heap} {env : Env} {x : Str} {body : List Stmt} {Q : Flow → Shared → Prop} {s : Shared} {I : Addr} {a : Int} {n : Nat} (n1 : Str) {m0 : Str → Option Value} {news : List (Addr × Obj)} {S : Type} (ld : S → List (Addr × Obj)) (Inv : Nat → Option Value → S → Prop) (s0 : S) (hl : news = ld s0)
    (hI : Inv 0 (m0 n1) s0)
    (zero : ∀ o1 st, Inv n o1 st → RangeRest prog w A E h₀ env x body Q s I a n 0 n (upd1 m0 n1 o1) (ld st))
    (succ : ∀ k i o1 st, i < n → Inv i o1 st → (∀ (m' : Str → Option Value) n' st', Inv (i + 1) (m' n1) st' → (∀ y, y ≠ n1 → m' y = m0 y) → (∀ p ∈ ld st', p ∈ n') → RangeRest prog w A E h₀ env x body Q s I a n k (i + 1) m' n') → RangeRest prog w A E h₀ env x body Q s I a n (k + 1) i (upd1 m0 n1 o1) (ld st)) :
    RangeRest prog w A E h₀ env x body Q s I a n n 0 m0 news := by
  have key : ∀ (k i : Nat) o1 st, i + k = n → Inv i o1 st → RangeRest prog w A E h₀ env x body Q s I a n k i (upd1 m0 n1 o1) (ld st) := by
    intro k
    induction k with
    | zero =>
      intro i o1 st hi h
      obtain rfl : i = n := by omega
      exact zero o1 st h
    | succ k ih =>
      intro i o1 st hi h
      refine succ k i o1 st (by omega) h (fun m' n' st' h' e hs => ?_)
      have := Mine.RangeRest.sub hs (ih (i + 1) (m' n1) st' (by omega) h')
      rw [upd1_of e] at this
      exact this
  have := key n 0 (m0 n1) s0 (by omega) hI
  rw [upd1_self] at this
  rw [hl]; exact this

noncomputable abbrev upd2 (m0 : Str → Option Value) (n1 n2 : Str) (o1 o2 : Option Value) : Str → Option Value := fun y => if y = n1 then o1 else if y = n2 then o2 else m0 y
theorem upd2_of {m0 m' : Str → Option Value} {n1 n2 : Str} (e : ∀ y, y ≠ n1 → y ≠ n2 → m' y = m0 y) : upd2 m0 n1 n2 (m' n1) (m' n2) = m' := by
  funext y
  unfold upd2
  split
  · subst y; rfl
  split
  · subst y; rfl
  rename_i h1 h2
  exact (e y h1 h2).symm



noncomputable abbrev upd7 (m0 : Str → Option Value) (n1 n2 n3 n4 n5 n6 n7 : Str) (o1 o2 o3 o4 o5 o6 o7 : Option Value) : Str → Option Value := fun y => if y = n1 then o1 else if y = n2 then o2 else if y = n3 then o3 else if y = n4 then o4 else if y = n5 then o5 else if y = n6 then o6 else if y = n7 then o7 else m0 y
theorem upd7_self (m0 : Str → Option Value) (n1 n2 n3 n4 n5 n6 n7 : Str) : upd7 m0 n1 n2 n3 n4 n5 n6 n7 (m0 n1) (m0 n2) (m0 n3) (m0 n4) (m0 n5) (m0 n6) (m0 n7) = m0 := by
  funext y
  unfold upd7
  split
  · subst y; rfl
  split
  · subst y; rfl
  split
  · subst y; rfl
  split
  · subst y; rfl
  split
  · subst y; rfl
  split
  · subst y; rfl
  split
  · subst y; rfl
  rfl
theorem upd7_of {m0 m' : Str → Option Value} {n1 n2 n3 n4 n5 n6 n7 : Str} (e : ∀ y, y ≠ n1 → y ≠ n2 → y ≠ n3 → y ≠ n4 → y ≠ n5 → y ≠ n6 → y ≠ n7 → m' y = m0 y) : upd7 m0 n1 n2 n3 n4 n5 n6 n7 (m' n1) (m' n2) (m' n3) (m' n4) (m' n5) (m' n6) (m' n7) = m' := by
  funext y
  unfold upd7
  split
  · subst y; rfl
  split
  · subst y; rfl
  split
  · subst y; rfl
  split
  · subst y; rfl
  split
  · subst y; rfl
  split
  · subst y; rfl
  split
  · subst y; rfl
  rename_i h1 h2 h3 h4 h5 h6 h7
  exact (e y h1 h2 h3 h4 h5 h6 h7).symm
theorem range7 {prog : Program} {w : World} {A : Around} {E : Value → Shared → Prop} {h₀ : Heap} {env : Env} {x : Str} {body : List Stmt} {Q : Flow → Shared → Prop} {s : Shared} {I : Addr} {a : Int} {n : Nat} (n1 n2 n3 n4 n5 n6 n7 : Str) {m0 : Str → Option Value} {news : List (Addr × Obj)} {S : Type} (ld : S → List (Addr × Obj)) (Inv : Nat → Option Value → Option Value → Option Value → Option Value → Option Value → Option Value → Option Value → S → Prop) (s0 : S) (hl : news = ld s0)
    (hI : Inv 0 (m0 n1) (m0 n2) (m0 n3) (m0 n4) (m0 n5) (m0 n6) (m0 n7) s0)
    (zero : ∀ o1 o2 o3 o4 o5 o6 o7 st, Inv n o1 o2 o3 o4 o5 o6 o7 st → RangeRest prog w A E h₀ env x body Q s I a n 0 n (upd7 m0 n1 n2 n3 n4 n5 n6 n7 o1 o2 o3 o4 o5 o6 o7) (ld st))
    (succ : ∀ k i o1 o2 o3 o4 o5 o6 o7 st, i < n → Inv i o1 o2 o3 o4 o5 o6 o7 st → (∀ (m' : Str → Option Value) n' st', Inv (i + 1) (m' n1) (m' n2) (m' n3) (m' n4) (m' n5) (m' n6) (m' n7) st' → (∀ y, y ≠ n1 → y ≠ n2 → y ≠ n3 → y ≠ n4 → y ≠ n5 → y ≠ n6 → y ≠ n7 → m' y = m0 y) → (∀ p ∈ ld st', p ∈ n') → RangeRest prog w A E h₀ env x body Q s I a n k (i + 1) m' n') → RangeRest prog w A E h₀ env x body Q s I a n (k + 1) i (upd7 m0 n1 n2 n3 n4 n5 n6 n7 o1 o2 o3 o4 o5 o6 o7) (ld st)) :
    RangeRest prog w A E h₀ env x body Q s I a n n 0 m0 news := by
  have key : ∀ (k i : Nat) o1 o2 o3 o4 o5 o6 o7 st, i + k = n → Inv i o1 o2 o3 o4 o5 o6 o7 st → RangeRest prog w A E h₀ env x body Q s I a n k i (upd7 m0 n1 n2 n3 n4 n5 n6 n7 o1 o2 o3 o4 o5 o6 o7) (ld st) := by
    intro k
    induction k with
    | zero =>
      intro i o1 o2 o3 o4 o5 o6 o7 st hi h
      obtain rfl : i = n := by omega
      exact zero o1 o2 o3 o4 o5 o6 o7 st h
    | succ k ih =>
      intro i o1 o2 o3 o4 o5 o6 o7 st hi h
      refine succ k i o1 o2 o3 o4 o5 o6 o7 st (by omega) h (fun m' n' st' h' e hs => ?_)
      have := Mine.RangeRest.sub hs (ih (i + 1) (m' n1) (m' n2) (m' n3) (m' n4) (m' n5) (m' n6) (m' n7) st' (by omega) h')
      rw [upd7_of e] at this
      exact this
  have := key n 0 (m0 n1) (m0 n2) (m0 n3) (m0 n4) (m0 n5) (m0 n6) (m0 n7) s0 (by omega) hI
  rw [upd7_self] at this
  rw [hl]; exact this

end Mine
end PartWN

noncomputable section PartP3
theorem Mine.resetP3 : True := by (w_top off); k_with_none; first | (walk1; done) | trivial
set_option maxRecDepth 100000
set_option linter.all false
namespace Mine
open PySem PySem.W PyProof.Rows
noncomputable def lettersL : List Nat := [97, 98, 100, 102, 103, 104, 107, 108, 109, 110, 111, 112, 114, 115, 116, 119]
noncomputable def ltr (p : Int) : Nat := lettersL.getD p.toNat 97
noncomputable def dblI : List Int := [13171, 13251, 13256, 64256, 13191, 13200, 13261, 64258, 13190, 8470, 13173, 13184, 8360, 223, 8482, 13277]
noncomputable def prL : List (List Nat) := [[97, 117], [98, 113], [100, 98], [102, 102], [103, 98], [104, 122], [107, 107], [102, 108], [109, 98], [110, 111], [111, 118], [112, 97], [114, 115], [115, 115], [116, 109], [119, 98]]
noncomputable def pr (p : Int) : List Nat := prL.getD p.toNat []
noncomputable def capI : List Int := [65, 119808, 119860, 119912, 120016, 120172, 120224, 120276, 120328, 120380, 120432]
/-- what a sign of the line says -/
noncomputable def hear1 (c : Nat) : List Nat := if (c : Int) ∈ b1codes then [] else match b3get c with
  | some (.str x _) => x.cps.toList
  | _ => (Txt.lower ⟨#[c]⟩).cps.toList
theorem hear_b1 {c : Nat} (h : (c : Int) ∈ b1codes) : hear1 c = [] := by unfold hear1; rw [if_pos h]
noncomputable def keyN (e : DictEntry) : Nat := match e.key with | .int j _ => j.toNat | _ => 0
noncomputable def valN (e : DictEntry) : Option (List Nat) := match e.val with | .str x _ => some x.cps.toList | _ => none
noncomputable def expL : List (Nat × List Nat) := [(223, [115, 115]), (8360, [114, 115]), (8470, [110, 111]), (8482, [116, 109]), (13171, [97, 117]), (13173, [111, 118]), (13184, [112, 97]), (13190, [109, 98]), (13191, [103, 98]), (13200, [104, 122]), (13251, [98, 113]), (13256, [100, 98]), (13261, [107, 107]), (13277, [119, 98]), (64256, [102, 102]), (64258, [102, 108])] ++
  ([119808, 119860, 119912, 120016, 120172, 120224, 120276, 120328, 120380, 120432] : List Nat).flatMap fun a => lettersL.map fun l => (a + l - 97, [l])
noncomputable def need (c : Nat) : Bool := Nat.blt c 128 || expL.any fun e => Nat.beq e.1 c
theorem E15_need : (E15.filterMap fun e => if need (keyN e) then some (keyN e, valN e) else none) = expL.map fun e => (e.1, some e.2) := by decide +kernel
theorem E15_nn : (E15.all fun e => match e.key with | .int j _ => decide (0 ≤ j) | _ => false) = true := by decide +kernel
theorem look_fm {P : Nat → Bool} {c : Nat} (hc : P c = true) : ∀ (l : List DictEntry), (∀ e ∈ l, ∃ j t, e.key = .int j t ∧ 0 ≤ j) →
    ((l.find? fun e => Value.isInt (c : Int) e.key).map fun e => valN e) = (l.filterMap fun e => if P (keyN e) then some (keyN e, valN e) else none).lookup c
  | [], _ => rfl
  | e :: l, h => by
    obtain ⟨j, t, ek, hj⟩ := h e (.head _)
    have ih := look_fm hc l (fun e he => h e (.tail _ he))
    have kn : keyN e = j.toNat := by unfold keyN; rw [ek]
    rw [List.find?_cons, List.filterMap_cons]
    by_cases hjc : j = (c : Int)
    · subst hjc
      have h1 : Value.isInt (c : Int) e.key = true := by rw [ek]; exact isInt_self _ t
      have h2 : keyN e = c := by rw [kn]; exact Int.toNat_natCast c
      rw [h1, h2, hc]
      simp
    · have h1 : Value.isInt (c : Int) e.key = false := by
        cases hb : Value.isInt (c : Int) e.key with
        | false => rfl
        | true =>
          rw [ek] at hb
          obtain ⟨u, hu⟩ := Value.isInt_shape hb
          injection hu with hu _
          exact absurd hu hjc
      have h2 : keyN e ≠ c := by rw [kn]; omega
      rw [h1]
      have h3 : (c == keyN e) = false := by simpa using fun x => h2 x.symm
      cases hp : P (keyN e) with
      | true => simpa [List.lookup, h3] using ih
      | false => simpa using ih
theorem b3_need {c : Nat} (hc : need c = true) : (b3get c).map (fun v => match v with | .str x _ => some x.cps.toList | _ => none) = (expL.map fun e => (e.1, some e.2)).lookup c := by
  have h := look_fm hc E15 (fun e he => by
    have := List.all_eq_true.mp E15_nn e he
    obtain ⟨hs, k, v⟩ := e
    cases k with
    | int j t => exact ⟨j, t, rfl, by simpa using this⟩
    | _ => cases this)
  rw [E15_need] at h
  rw [← h]
  unfold b3get findBy
  rw [Option.map_map]
  simp only [List.find?_toArray]
  rfl
noncomputable def hearF (c : Nat) : List Nat := if (c : Int) ∈ b1codes then [] else match expL.lookup c with
  | some x => x
  | none => (Txt.lower ⟨#[c]⟩).cps.toList
theorem lookup_map {c : Nat} : ∀ l : List (Nat × List Nat), (l.map fun e => (e.1, some e.2)).lookup c = (l.lookup c).map some
  | [] => rfl
  | (a, b) :: l => by
    simp only [List.map_cons, List.lookup]
    cases c == a
    · exact lookup_map l
    · rfl
theorem hear_F {c : Nat} (hc : need c = true) : hear1 c = hearF c := by
  have h := b3_need hc
  rw [lookup_map] at h
  unfold hear1 hearF
  split
  · rfl
  · cases hb : b3get c with
    | none =>
      rw [hb] at h
      cases hl : expL.lookup c with
      | none => rfl
      | some x => rw [hl] at h; cases h
    | some v =>
      rw [hb] at h
      cases hl : expL.lookup c with
      | none => rw [hl] at h; cases h
      | some x =>
        rw [hl] at h
        cases v with
        | str y t => simp only [Option.map_some, Option.some.injEq] at h; exact h
        | _ => simp at h
noncomputable def okN (c : Nat) (x : List Nat) : Bool := need c && (hearF c == x)
theorem ok_hear {c : Nat} {x : List Nat} (h : okN c x = true) : hear1 c = x := by
  unfold okN at h
  rw [Bool.and_eq_true, beq_iff_eq] at h
  rw [hear_F h.1]; exact h.2
theorem okL_all : ∀ p < 16, okN (lettersL.getD p 97) [lettersL.getD p 97] = true := by decide +kernel
theorem okD_all : ∀ p < 16, okN (dblI.getD p 0).toNat (prL.getD p []) = true := by decide +kernel
theorem okC_all : ∀ a < 11, ∀ p < 16, okN (capI.getD a 0 + (lettersL.getD p 97 : Int) - 97).toNat [lettersL.getD p 97] = true := by decide +kernel
theorem hear_ltr {p : Int} (h : 0 ≤ p ∧ p < 16) : hear1 (ltr p) = [ltr p] := ok_hear (okL_all p.toNat (by omega))
theorem hear_dbl {p : Int} (h : 0 ≤ p ∧ p < 16) : hear1 (dblI.getD p.toNat 0).toNat = pr p := ok_hear (okD_all p.toNat (by omega))
theorem hear_cap {a p : Int} (ha : 0 ≤ a ∧ a < 11) (h : 0 ≤ p ∧ p < 16) : hear1 (capI.getD a.toNat 0 + (ltr p : Int) - 97).toNat = [ltr p] := ok_hear (okC_all a.toNat (by omega) p.toNat (by omega))
theorem cap_rng0 : ∀ a < 11, ∀ p < 16, 0 < capI.getD a 0 + (lettersL.getD p 97 : Int) - 97 ∧ capI.getD a 0 + (lettersL.getD p 97 : Int) - 97 ≠ 32 ∧ capI.getD a 0 + (lettersL.getD p 97 : Int) - 97 ≤ 0x10FFFF := by decide +kernel
theorem cap_rng {a p : Int} (ha : 0 ≤ a ∧ a < 11) (h : 0 ≤ p ∧ p < 16) : 0 < capI.getD a.toNat 0 + (ltr p : Int) - 97 ∧ capI.getD a.toNat 0 + (ltr p : Int) - 97 ≠ 32 ∧ capI.getD a.toNat 0 + (ltr p : Int) - 97 ≤ 0x10FFFF := cap_rng0 a.toNat (by omega) p.toNat (by omega)
theorem dbl_rng0 : ∀ p < 16, 0 < dblI.getD p 0 ∧ dblI.getD p 0 ≠ 32 ∧ dblI.getD p 0 ≤ 0x10FFFF := by decide +kernel
theorem dbl_rng {p : Int} (h : 0 ≤ p ∧ p < 16) : 0 < dblI.getD p.toNat 0 ∧ dblI.getD p.toNat 0 ≠ 32 ∧ dblI.getD p.toNat 0 ≤ 0x10FFFF := dbl_rng0 p.toNat (by omega)
theorem ltr_mem0 : ∀ p < 16, lettersL.getD p 97 ∈ lettersL := by decide +kernel
theorem ltr_mem {p : Int} (h : 0 ≤ p ∧ p < 16) : ltr p ∈ lettersL := ltr_mem0 p.toNat (by omega)
theorem letter_rng : ∀ c ∈ lettersL, 97 ≤ c ∧ c < 123 := by decide +kernel
/-- `B` is `A` with one letter put in -/
noncomputable def Ins (A B : List Nat) : Prop := ∃ P x Q, A = P ++ Q ∧ B = P ++ x :: Q ∧ 97 ≤ x ∧ x < 123
theorem pr_ins0 : ∀ p < 16, (prL.getD p []).length = 2 ∧ ((prL.getD p []) = [lettersL.getD p 97, (prL.getD p []).getD 1 0] ∧ 97 ≤ (prL.getD p []).getD 1 0 ∧ (prL.getD p []).getD 1 0 < 123 ∨ (prL.getD p []) = [(prL.getD p []).getD 0 0, lettersL.getD p 97] ∧ 97 ≤ (prL.getD p []).getD 0 0 ∧ (prL.getD p []).getD 0 0 < 123) := by decide +kernel
theorem pr_len {p : Int} (h : 0 ≤ p ∧ p < 16) : (pr p).length = 2 := (pr_ins0 p.toNat (by omega)).1
theorem pr_ins {p : Int} (h : 0 ≤ p ∧ p < 16) : Ins [ltr p] (pr p) := by
  rcases (pr_ins0 p.toNat (by omega)).2 with ⟨e, h1, h2⟩ | ⟨e, h1, h2⟩
  · exact ⟨[ltr p], _, [], rfl, e, h1, h2⟩
  · exact ⟨[], _, [ltr p], rfl, e, h1, h2⟩
theorem Ins.app {A B : List Nat} (h : Ins A B) (C : List Nat) : Ins (A ++ C) (B ++ C) := by
  obtain ⟨P, x, Q, rfl, rfl, h⟩ := h
  exact ⟨P, x, Q ++ C, by simp, by simp, h⟩
theorem Ins.pre {A B : List Nat} (h : Ins A B) (C : List Nat) : Ins (C ++ A) (C ++ B) := by
  obtain ⟨P, x, Q, rfl, rfl, h⟩ := h
  exact ⟨C ++ P, x, Q, by simp, by simp, h⟩
noncomputable def Hears (T H : List Nat) : Prop := 32 ∉ T ∧ T.flatMap hear1 = H
theorem Hears.add {T H V G : List Nat} (h : Hears T H) (g : Hears V G) : Hears (T ++ V) (H ++ G) := by
  refine ⟨fun hm => ?_, by rw [List.flatMap_append, h.2, g.2]⟩
  rcases List.mem_append.mp hm with hm | hm
  · exact h.1 hm
  · exact g.1 hm
theorem Hears.one {c : Nat} {G : List Nat} (h : c ≠ 32) (g : hear1 c = G) : Hears [c] G := ⟨fun hm => h (List.mem_singleton.mp hm).symm, by simp [g]⟩
theorem Hears.gone {c : Nat} (h : (c : Int) ∈ b1codes) : Hears [c] [] := by
  refine .one (fun e => ?_) (hear_b1 h)
  subst e
  exact absurd h (by decide)
structure BInv (hm : Prop) (pl : Int) (i : Nat) (W H T : List Nat) : Prop where
  len : W.length = i
  lets : ∀ c ∈ W, c ∈ lettersL
  lenT : T.length ≤ i + 1
  lenH : H.length ≤ i + 1
  hear : Hears T H
  before : (i : Int) ≤ pl → H = W
  ins : pl < i → hm → Ins W H
  del : pl < i → ¬ hm → Ins H W
theorem BInv.plain {hm : Prop} {pl : Int} {i : Nat} {W H T : List Nat} {p : Int} {v : Nat} (b : BInv hm pl i W H T) (hp : 0 ≤ p ∧ p < 16) (hv : hear1 v = [ltr p]) (h32 : v ≠ 32) (hk : (i : Int) ≠ pl) :
    BInv hm pl (i + 1) (W ++ [ltr p]) (H ++ [ltr p]) (T ++ [v]) where
  len := by rw [List.length_append, b.len]; rfl
  lets := fun c hc => (List.mem_append.mp hc).elim (b.lets c) (fun h => (List.mem_singleton.mp h) ▸ ltr_mem hp)
  lenT := by rw [List.length_append]; exact Nat.succ_le_succ b.lenT
  lenH := by rw [List.length_append]; exact Nat.succ_le_succ b.lenH
  hear := b.hear.add (.one h32 hv)
  before := fun h => by rw [b.before (by omega)]
  ins := fun h hm => (b.ins (by omega) hm).app _
  del := fun h hm => (b.del (by omega) hm).app _
theorem Hears.zero {T H V : List Nat} (h : Hears T H) (g : Hears V []) : Hears (T ++ V) H := by simpa using h.add g
theorem BInv.twice {hm : Prop} {pl : Int} {i : Nat} {W H T : List Nat} {p : Int} {v : Nat} (b : BInv hm pl i W H T) (hp : 0 ≤ p ∧ p < 16) (hv : hear1 v = pr p) (h32 : v ≠ 32) (hk : (i : Int) = pl) (h1 : hm) :
    BInv hm pl (i + 1) (W ++ [ltr p]) (H ++ pr p) (T ++ [v]) where
  len := by rw [List.length_append, b.len]; rfl
  lets := fun c hc => (List.mem_append.mp hc).elim (b.lets c) (fun h => (List.mem_singleton.mp h) ▸ ltr_mem hp)
  lenT := by rw [List.length_append]; exact Nat.succ_le_succ b.lenT
  lenH := by rw [b.before (by omega), List.length_append, b.len, pr_len hp]; omega
  hear := b.hear.add (.one h32 hv)
  before := fun h => by omega
  ins := fun h hm => by rw [b.before (by omega)]; exact (pr_ins hp).pre _
  del := fun h hn => absurd h1 hn
theorem BInv.lost {hm : Prop} {pl : Int} {i : Nat} {W H T : List Nat} {p : Int} {v : Nat} (b : BInv hm pl i W H T) (hp : 0 ≤ p ∧ p < 16) (hv : (v : Int) ∈ b1codes) (hk : (i : Int) = pl) (h1 : ¬ hm) :
    BInv hm pl (i + 1) (W ++ [ltr p]) H (T ++ [v]) where
  len := by rw [List.length_append, b.len]; rfl
  lets := fun c hc => (List.mem_append.mp hc).elim (b.lets c) (fun h => (List.mem_singleton.mp h) ▸ ltr_mem hp)
  lenT := by rw [List.length_append]; exact Nat.succ_le_succ b.lenT
  lenH := Nat.le_succ_of_le b.lenH
  hear := b.hear.zero (.gone hv)
  before := fun h => by omega
  ins := fun h hm => absurd hm h1
  del := fun h hn => by
    rw [b.before (by omega)]
    obtain ⟨r1, r2⟩ := letter_rng _ (ltr_mem hp)
    exact ⟨W, ltr p, [], by simp, rfl, r1, r2⟩
theorem BInv.start {hm : Prop} {pl : Int} {T : List Nat} (h : Hears T []) (hl : T.length ≤ 1) (h0 : 0 ≤ pl) : BInv hm pl 0 [] [] T where
  len := rfl
  lets := fun c hc => nomatch hc
  lenT := hl
  lenH := Nat.zero_le _
  hear := h
  before := fun _ => rfl
  ins := fun h => by omega
  del := fun h => by omega
theorem Hears.nil : Hears [] [] := ⟨List.not_mem_nil, rfl⟩
end Mine
end PartP3

noncomputable section PartWB
theorem Mine.resetWB : True := by (w_top off); k_with_none; first | (walk1; done) | trivial
set_option maxRecDepth 100000
set_option linter.all false
namespace Mine
open PySem PySem.W PyProof.Rows
theorem ofString_nil : Str.ofString "" = ⟨([] : List Nat).toArray⟩ := by decide +kernel
theorem letters_str : Str.ofString "abdfghklmnoprstw" = ⟨lettersL.toArray⟩ := by decide +kernel
theorem startS {t : Tok} : some (Value.str (Str.ofString "") t) = some (Value.str ⟨([] : List Nat).toArray⟩ t) := by rw [ofString_nil]
theorem pick_rng (x : Int) : 0 ≤ x.fmod 16 ∧ x.fmod 16 < 16 := ⟨fmod_lo _ (by decide), fmod_hi _ (by decide)⟩
theorem sty_rng (x : Int) : 0 ≤ (x.fmod 192).fdiv 16 ∧ (x.fmod 192).fdiv 16 < 12 := by
  have h0 := fmod_lo x (n := 192) (by decide)
  have h1 := fmod_hi x (n := 192) (by decide)
  rw [Int.fdiv_eq_ediv_of_nonneg _ (by decide)]
  omega
noncomputable def GoneL (vs : List Value) : Prop := ∃ ns : List Int, IntsAre vs ns ∧ ns.length = 27 ∧ ∀ x ∈ ns, x ∈ b1codes
theorem gone_of {vs : List Value} (h : IntsAre vs ([173, 847, 6150, 6155, 6156, 6157, 8203, 8204, 8205, 8288, 65279] ++ rangeInts 65024 1 (65040 - 65024 : Int).toNat)) : GoneL vs := ⟨_, h, by decide +kernel, by decide +kernel⟩
theorem b1_nat : ∀ x ∈ b1codes, 0 ≤ x ∧ x ≤ 0x10FFFF := by decide +kernel
section
variable {prog : Program} {w : World} {A : Around} {E : Value → Shared → Prop} {s : Shared} {h₀ : Heap} {L : Addr} {m : Str → Option Value} {news : List (Addr × Obj)} {t u : Tok} {Q : Value → Shared → Prop}
theorem add_gone {l b : Addr} {vs ws : List Value} (F : Fr h₀ L s.heap m) (N : News h₀ L s.heap news) (hl : s.heap.IsList l vs.toArray) (hb : s.heap.IsList b ws.toArray)
    (hi : IntsAre vs [173, 847, 6150, 6155, 6156, 6157, 8203, 8204, 8205, 8288, 65279]) (hj : IntsAre ws (rangeInts 65024 1 (65040 - 65024 : Int).toNat))
    (h : ∀ D h' gs, Fr h₀ L h' m → News h₀ L h' ((D, listOf gs.toArray 0) :: news) → (∀ p ∈ news, p.1 < D) → GoneL gs → Q (.ref D) { s with heap := h' }) :
    wpAny (model prog w) A (binaryOp .Add (.ref l) (.ref b)) Q E s :=
  add_lists_ints (hsz := by decide +kernel) F N hl hb hi hj (fun h' F' N' i => h _ h' _ F' N' (fun p hp => Heap.lt_size (N p hp).1) (gone_of i))
theorem item_gone {value slice : PySem.Expr} {l : Addr} {gs : List Value} {k : Int} (hl : s.heap.IsList l gs.toArray) (hg : GoneL gs) (h : ∀ (g : Nat) t, (g : Int) ∈ b1codes → Q (.int g t) s)
    (hs : subscripted slice false (.ref l) (.int (k.fmod 27) u) = operate [.ref l, .int (k.fmod 27) u] (getItem (.ref l) (.int (k.fmod 27) u)) := by with_unfolding_all rfl) :
    wpAny (model prog w) A (subscriptTail value slice (.ref l) (.int (k.fmod 27) u)) Q E s := by
  obtain ⟨ns, hi, hlen, hb⟩ := hg
  have h0 := fmod_lo k (n := 27) (by decide)
  have h1 := fmod_hi k (n := 27) (by decide)
  refine item_anyK hl hi h0 (by omega) (by omega) (fun t => ?_) hs
  have hlt : (k.fmod 27).toNat < ns.length := by omega
  have hm : ns.getD (k.fmod 27).toNat 0 ∈ ns := by
    rw [List.getD_eq_getElem?_getD, List.getElem?_eq_getElem hlt]
    exact List.getElem_mem hlt
  have hb' := hb _ hm
  obtain ⟨g, hg⟩ : ∃ g : Nat, ns.getD (k.fmod 27).toNat 0 = (g : Int) := ⟨_, (Int.toNat_of_nonneg (b1_nat _ hb').1).symm⟩
  rw [hg] at hb' ⊢
  exact h g t hb'
theorem chr_f {i : Int} (hi : 0 ≤ i ∧ i ≤ 0x10FFFF) (h : Q (.str ⟨[i.toNat].toArray⟩ s.toks) { s with toks := s.toks + 1 }) : wpAny (model prog w) A (call (.builtin "chr") [.int i t]) Q E s :=
  P.chr_of_int (by have := hi.1; have := hi.2; simp only [Bool.or_eq_false_iff, decide_eq_false_iff_not]; omega) h
theorem chr_gone {g : Nat} (hg : (g : Int) ∈ b1codes) (h : Q (.str ⟨[g].toArray⟩ s.toks) { s with toks := s.toks + 1 }) : wpAny (model prog w) A (call (.builtin "chr") [.int (g : Int) t]) Q E s :=
  chr_f (b1_nat _ hg) h
theorem item_ltr {value slice : PySem.Expr} {x : Int} (h : Q (.str ⟨[ltr (x.fmod 16)].toArray⟩ s.toks) { s with toks := s.toks + 1 })
    (hs : subscripted slice false (.str (Str.ofString "abdfghklmnoprstw") t) (.int (x.fmod 16) u) = operate [.str (Str.ofString "abdfghklmnoprstw") t, .int (x.fmod 16) u] (getItem (.str (Str.ofString "abdfghklmnoprstw") t) (.int (x.fmod 16) u)) := by with_unfolding_all rfl)
    (ht : ∀ r, letTemporaryGo value (.str (Str.ofString "abdfghklmnoprstw") t) r = pure () := by intro _; with_unfolding_all rfl) :
    wpAny (model prog w) A (subscriptTail value slice (.str (Str.ofString "abdfghklmnoprstw") t) (.int (x.fmod 16) u)) Q E s := by
  obtain ⟨h0, h1⟩ := pick_rng x
  have e : Txt.item (Str.ofString "abdfghklmnoprstw") (x.fmod 16) = ⟨[ltr (x.fmod 16)].toArray⟩ := by
    have key : ∀ k < 16, Txt.item (Str.ofString "abdfghklmnoprstw") ((k : Nat) : Int) = ⟨[ltr ((k : Nat) : Int)].toArray⟩ := by decide +kernel
    have := key (x.fmod 16).toNat (by omega)
    rwa [Int.toNat_of_nonneg h0] at this
  refine KXi.item (n := 16) (by decide +kernel) (by omega) (by omega) (by decide) (fun _ => ?_) hs ht
  rw [e]; exact h
theorem cat_l {W V : List Nat} (h1 : W.length ≤ 1000) (h2 : V.length ≤ 1000) (h : ∀ t' k, Q (.str ⟨(W ++ V).toArray⟩ t') { s with toks := k }) : wpAny (model prog w) A (binaryOp .Add (.str ⟨W.toArray⟩ t) (.str ⟨V.toArray⟩ u)) Q E s := by
  refine KXadd.add (K := 1000) (L := 1000) ?_ ?_ (by decide) (fun t' k _ => ?_)
  · simpa [Str.length] using h1
  · simpa [Str.length] using h2
  · have e : (⟨W.toArray⟩ : Str) ++ ⟨V.toArray⟩ = ⟨(W ++ V).toArray⟩ := Str.ext' (by rw [Str.cps_append]; simp)
    rw [e]; exact h t' k
theorem item_strs {value slice : PySem.Expr} {l : Addr} {vs : List Value} {k : Int} {x : List Nat} {j : Nat} (hl : s.heap.IsList l vs.toArray) (h0 : 0 ≤ k) (hk : k < 2 ^ 63) (e : ∃ t, vs[k.toNat]? = some (.str ⟨x.toArray⟩ t)) (h : ∀ t, Q (.str ⟨x.toArray⟩ t) s)
    (hs : subscripted slice false (.ref l) (.int k u) = operate [.ref l, .int k u] (getItem (.ref l) (.int k u)) := by with_unfolding_all rfl) :
    wpAny (model prog w) A (subscriptTail value slice (.ref l) (.int k u)) Q E s := by
  obtain ⟨t, e⟩ := e
  exact tail_any hl.typeIs slot_list_getitem.lookup (wpAny_getItem_list hl h0 hk (by simpa using e) (h t)) hs
theorem iter_z {env : Env} {x : Str} {body : List Stmt} {QF : Flow → Shared → Prop} {r : Addr} {z : Int} {t₀ u₀ v₀ : Tok} (hh : A.handled = none) (hr : IsRange s.heap r 0 z 1 t₀ u₀ v₀) (hz : 2 ≤ z ∧ z ≤ 6) (F : Fr h₀ env.locals s.heap m) (N : News h₀ env.locals s.heap news)
    (rest : ∀ I : Addr, (∀ p ∈ news, p.1 < I) → RangeRest prog w A E h₀ env x body QF s I 0 z.toNat z.toNat 0 m news) :
    wpAny (model prog w) A (pyIter (.ref r)) (fun it s₂ => LoopAtV prog w A h₀ env x body QF E it s₂) E s := by
  refine iter_rangeUnr hh hr ?_ ?_ F N rest
  · rcases dis08 (Int.le_trans (by decide) hz.1) (Int.le_trans hz.2 (by decide)) with rfl | rfl | rfl | rfl | rfl | rfl | rfl | rfl | rfl <;> decide
  · rcases dis08 (Int.le_trans (by decide) hz.1) (Int.le_trans hz.2 (by decide)) with rfl | rfl | rfl | rfl | rfl | rfl | rfl | rfl | rfl <;> decide
end
theorem pr_item {x : Int} {l : List Value} (h : (l.map fun v => match v with | .str y _ => y.cps.toList | _ => []) = prL) (hs : (l.all fun v => match v with | .str _ _ => true | _ => false) = true) : ∃ t, l[(x.fmod 16).toNat]? = some (.str ⟨(pr (x.fmod 16)).toArray⟩ t) := by
  obtain ⟨h0, h1⟩ := pick_rng x
  have hl : l.length = 16 := by have := congrArg List.length h; simpa [prL] using this
  have hk : (x.fmod 16).toNat < l.length := by omega
  obtain ⟨y, u, e⟩ : ∃ y u, l[(x.fmod 16).toNat] = .str y u := by
    have := List.all_eq_true.mp hs _ (List.getElem_mem hk)
    cases hv : l[(x.fmod 16).toNat] with
    | str y u => exact ⟨y, u, rfl⟩
    | _ => rw [hv] at this; cases this
  refine ⟨u, ?_⟩
  rw [List.getElem?_eq_getElem hk, e]
  have h2 : (l.map fun v => match v with | .str y _ => y.cps.toList | _ => [])[(x.fmod 16).toNat]? = prL[(x.fmod 16).toNat]? := by rw [h]
  rw [List.getElem?_map, List.getElem?_eq_getElem hk, e] at h2
  have h3 : prL.length = 16 := rfl
  rw [List.getElem?_eq_getElem (by omega)] at h2
  simp only [Option.map_some, Option.some.injEq] at h2
  have h4 : pr (x.fmod 16) = y.cps.toList := by
    unfold pr
    rw [List.getD_eq_getElem?_getD, List.getElem?_eq_getElem (by omega)]
    exact h2.symm
  rw [h4]
noncomputable def noI : List Int := [173, 847, 6150, 6155, 6156, 6157, 8203, 8204, 8205, 8288, 65279]
noncomputable def PairL (l : List Value) : Prop := (l.map fun v => match v with | .str y _ => y.cps.toList | _ => []) = prL ∧ (l.all fun v => match v with | .str _ _ => true | _ => false) = true
section
variable {prog : Program} {w : World} {A : Around} {E : Value → Shared → Prop} {s : Shared} {h₀ : Heap} {L : Addr} {m : Str → Option Value} {news : List (Addr × Obj)} {t u : Tok} {Q : Value → Shared → Prop}
theorem icat_l {W V : List Nat} (h1 : W.length ≤ 1000) (h2 : V.length ≤ 1000) (h : ∀ t' k, Q (.str ⟨(W ++ V).toArray⟩ t') { s with toks := k }) : wpAny (model prog w) A (inplaceOp .Add (.str ⟨W.toArray⟩ t) (.str ⟨V.toArray⟩ u)) Q E s := by
  refine SBL.iadd (hsz := ?_) (fun t' k => ?_)
  · have e : (⟨W.toArray⟩ : Str) ++ ⟨V.toArray⟩ = ⟨(W ++ V).toArray⟩ := Str.ext' (by rw [Str.cps_append]; simp)
    rw [e]; exact fun _ => h t' k
  · have e : (1000 : Nat) + 1000 ≤ sizeLine := by decide
    simp only [Str.length, List.size_toArray]; omega
theorem newList_ints {M : Model} {vals : List Value} {ns : List Int} (F : Fr h₀ L s.heap m) (N : News h₀ L s.heap news) (hi : IntsAre vals ns) (hn : ns.length ≤ 100)
    (h : ∀ l h' vs, IntsAre vs ns → Fr h₀ L h' m → News h₀ L h' ((l, listOf vs.toArray 0) :: news) → (∀ p ∈ news, p.1 < l) → Q (.ref l) { s with heap := h' }) : wpAny M A (newList vals) Q E s :=
  newList_K F N (fun l h' F' N' l1 => h l h' vals hi F' N' l1) (by have := hi.length; have e : (100 : Nat) ≤ sizeLine := by decide
                                                                   omega)
theorem newList_pairs {M : Model} {vals : List Value} (F : Fr h₀ L s.heap m) (N : News h₀ L s.heap news) (hi : PairL vals)
    (h : ∀ l h' vs, PairL vs → Fr h₀ L h' m → News h₀ L h' ((l, listOf vs.toArray 0) :: news) → (∀ p ∈ news, p.1 < l) → Q (.ref l) { s with heap := h' }) : wpAny M A (newList vals) Q E s :=
  newList_K F N (fun l h' F' N' l1 => h l h' vals hi F' N' l1) (by have := congrArg List.length hi.1; have e : (100 : Nat) ≤ sizeLine := by decide
                                                                   simp [prL] at this; omega)
end
theorem sty_pos {x : Int} (h : (x.fmod 192).fdiv 16 ≠ 0) : 0 ≤ (x.fmod 192).fdiv 16 - 1 ∧ (x.fmod 192).fdiv 16 - 1 < 11 := by
  have := sty_rng x; omega
section
variable {prog : Program} {w : World} {A : Around} {E : Value → Shared → Prop} {s : Shared} {u : Tok} {Q : Value → Shared → Prop} {value slice : PySem.Expr} {l : Addr} {vs : List Value} {x : Int}
theorem item_dbl (hl : s.heap.IsList l vs.toArray) (hi : IntsAre vs dblI) (h : ∀ t, Q (.int (dblI.getD (x.fmod 16).toNat 0) t) s)
    (hs : subscripted slice false (.ref l) (.int (x.fmod 16) u) = operate [.ref l, .int (x.fmod 16) u] (getItem (.ref l) (.int (x.fmod 16) u)) := by with_unfolding_all rfl) : wpAny (model prog w) A (subscriptTail value slice (.ref l) (.int (x.fmod 16) u)) Q E s := by
  have := pick_rng x
  have e : dblI.length = 16 := rfl
  exact item_anyK hl hi (by omega) (by omega) (by omega) h hs
theorem item_cap (hl : s.heap.IsList l vs.toArray) (hi : IntsAre vs capI) (hne : (x.fmod 192).fdiv 16 ≠ 0) (h : ∀ t, Q (.int (capI.getD ((x.fmod 192).fdiv 16 - 1).toNat 0) t) s)
    (hs : subscripted slice false (.ref l) (.int ((x.fmod 192).fdiv 16 - 1) u) = operate [.ref l, .int ((x.fmod 192).fdiv 16 - 1) u] (getItem (.ref l) (.int ((x.fmod 192).fdiv 16 - 1) u)) := by with_unfolding_all rfl) : wpAny (model prog w) A (subscriptTail value slice (.ref l) (.int ((x.fmod 192).fdiv 16 - 1) u)) Q E s := by
  have := sty_pos hne
  have e : capI.length = 11 := rfl
  exact item_anyK hl hi (by omega) (by omega) (by omega) h hs
theorem item_pair (hl : s.heap.IsList l vs.toArray) (hi : PairL vs) (h : ∀ t, Q (.str ⟨(pr (x.fmod 16)).toArray⟩ t) s)
    (hs : subscripted slice false (.ref l) (.int (x.fmod 16) u) = operate [.ref l, .int (x.fmod 16) u] (getItem (.ref l) (.int (x.fmod 16) u)) := by with_unfolding_all rfl) : wpAny (model prog w) A (subscriptTail value slice (.ref l) (.int (x.fmod 16) u)) Q E s := by
  have := pick_rng x
  exact item_strs (j := 0) hl (by omega) (by omega) (pr_item hi.1 hi.2) h hs
end
end Mine
end PartWB

noncomputable section PartWB2
theorem Mine.resetWB2 : True := by (w_top off); k_with_none; first | (walk1; done) | trivial
set_option maxRecDepth 100000
set_option linter.all false
namespace Mine
open PySem PySem.W PyProof.Rows
local macro_rules | `(tactic| ktr_rel) => `(tactic| first | exact al0 (by with_reducible assumption) | exact al1 (by with_reducible assumption) | exact al2 (by with_reducible assumption) | exact al3 (by with_reducible assumption) | exact al4 (by with_reducible assumption) | exact al5 (by with_reducible assumption) | exact al6 (by with_reducible assumption) | exact al7 (by with_reducible assumption))
local macro_rules | `(tactic| k_all) => `(tactic| ktr_rel)
local macro_rules | `(tactic| walk_at $s:str) => `(tactic| k_extra $s)
theorem wordWB2_0 : True := by k_with_none; trivial
theorem wordWB2_1 : True := by (k_with "UnrEnd" => ((k_dflt (refine' unrEnd_drp ?wqF ?wqN ?wqd ?wqoff ?_; (case wqF => k_asm); (case wqN => k_asm); (case wqd => (repeat (first | exact Drp.here | apply Drp.there))); (case wqoff => k_all))))); trivial
theorem wordWB2_2 : True := by (k_with "binaryOp Add ref ref" => ((k_here; k_dflt (refine' add_gone ?wqF ?wqN ?wqa ?wqb ?wqi ?wqj ?_; (case wqF => k_asm); (case wqN => k_asm); (case wqa => is_list); (case wqb => with_reducible assumption); (case wqi => (show IntsAre _ noI; with_reducible assumption)); (case wqj => exact IntsAre.ofCarried (by with_reducible assumption)); k_whole); intro D' h' gs' F' N' l1 hg'; (try k_lt l1)))); trivial
theorem wordWB2_3 : True := by (k_with "subscriptTail Name BinOp ref int" => ((k_here; (with_reducible show wpAny _ _ (subscriptTail _ _ (Value.ref _) (Value.int (Int.fmod _ 27) _)) _ _ _); k_dflt (refine' item_gone ?wqa ?wqb ?_ ?wqc; (case wqa => is_list); (case wqb => with_reducible assumption); (case wqc => with_unfolding_all rfl); k_whole); intro g' t' hgm'))); trivial
theorem wordWB2_4 : True := by (k_with "subscriptTail Name Name str int" => ((k_here; (with_reducible show wpAny _ _ (subscriptTail _ _ (Value.str _ _) (Value.int (Int.fmod _ 16) _)) _ _ _); k_dflt (refine' item_ltr ?_ ?wqc ?wqd; (case wqc => with_unfolding_all rfl); (case wqd => intro _; with_unfolding_all rfl); k_whole)))); trivial
theorem wordWB2_5 : True := by (k_with "subscriptTail Name Name ref int" => ((k_here; (with_reducible show wpAny _ _ (subscriptTail _ _ (Value.ref _) (Value.int (Int.fmod _ 16) _)) _ _ _); k_dflt (refine' item_dbl ?wqk1 ?wqk2 ?_ ?wqk6; (case wqk1 => is_list); (case wqk2 => with_reducible assumption); (case wqk6 => with_unfolding_all rfl); k_whole); intro _))); trivial
theorem wordWB2_6 : True := by (k_with "subscriptTail Name Name ref int" => ((k_here; (with_reducible show wpAny _ _ (subscriptTail _ _ (Value.ref _) (Value.int (Int.fmod _ 16) _)) _ _ _); k_dflt (refine' item_pair ?wqk1 ?wqk2 ?_ ?wqk6; (case wqk1 => is_list); (case wqk2 => with_reducible assumption); (case wqk6 => with_unfolding_all rfl); k_whole); intro _))); trivial
theorem wordWB2_7 : True := by (k_with "subscriptTail Name BinOp ref int" => ((k_here; (with_reducible show wpAny _ _ (subscriptTail _ _ (Value.ref _) (Value.int (_ - 1) _)) _ _ _); k_dflt (refine' item_cap ?wqk1 ?wqk2 ?wqk3 ?_ ?wqk6; (case wqk1 => is_list); (case wqk2 => with_reducible assumption); (case wqk3 => with_reducible assumption); (case wqk6 => with_unfolding_all rfl); k_whole); intro _))); trivial
theorem wordWB2_8 : True := by (k_with "call builtin:chr" => ((k_here; k_dflt (first | refine chr_gone (by with_reducible assumption) ?_ | refine chr_f ⟨Int.le_of_lt (dbl_rng (pick_rng _)).1, (dbl_rng (pick_rng _)).2.2⟩ ?_ | refine chr_f ⟨Int.le_of_lt (cap_rng (sty_pos (by with_reducible assumption)) (pick_rng _)).1, (cap_rng (sty_pos (by with_reducible assumption)) (pick_rng _)).2.2⟩ ?_)))); trivial
theorem wordWB2_9 : True := by (k_with "inplaceOp Add str str" => ((k_here; k_dflt (refine' icat_l ?wqa ?wqb ?_; (case wqa => with_reducible assumption); (case wqb => first | (show (1 : Nat) ≤ 1000; decide) | (rw [pr_len (pick_rng _)]; decide)); k_whole); intro _ _))); trivial
theorem wordWB2_10 : True := by (k_with "newList" => ((k_here; k_dflt (refine' newList_pairs ?wqF ?wqN ?wqi ?_; (case wqF => k_asm); (case wqN => k_asm); (case wqi => exact ⟨by kernel_rfl, by kernel_rfl⟩); k_whole); intro l' h' vs' hi' F' N' l1; (try k_lt l1)))); trivial
theorem wordWB2_11 : True := by (k_with "newList" => ((k_here; k_dflt (refine' newList_ints (ns := capI) ?wqF ?wqN ?wqi ?wqn ?_; (case wqF => k_asm); (case wqN => k_asm); (case wqi => (unfold capI; l_intsW)); (case wqn => decide); k_whole); intro l' h' vs' hi' F' N' l1; (try k_lt l1)))); trivial
theorem wordWB2_12 : True := by (k_with "newList" => ((k_here; k_dflt (refine' newList_ints (ns := dblI) ?wqF ?wqN ?wqi ?wqn ?_; (case wqF => k_asm); (case wqN => k_asm); (case wqi => (unfold dblI; l_intsW)); (case wqn => decide); k_whole); intro l' h' vs' hi' F' N' l1; (try k_lt l1)))); trivial
theorem wordWB2_13 : True := by (k_with "newList" => ((k_here; k_dflt (refine' newList_ints (ns := noI) ?wqF ?wqN ?wqi ?wqn ?_; (case wqF => k_asm); (case wqN => k_asm); (case wqi => (unfold noI; l_intsW)); (case wqn => decide); k_whole); intro l' h' vs' hi' F' N' l1; (try k_lt l1)))); trivial
theorem wordWB2_14 : True := by (k_with "pyIter ref" => ((k_here; (with_reducible show wpAny _ _ (pyIter _) (fun it s₂ => LoopAtV _ _ _ _ _ _ _ _ _ it s₂) _ _); k_dflt (refine' iter_z ?wqhh ?wqhr ?wqhz ?wqF ?wqN ?_; (case wqhh => with_unfolding_all rfl); (case wqhr => assumption); (case wqhz => assumption); (case wqF => k_asm); (case wqN => k_asm); k_whole); intro I' l1; (try k_lt l1)))); trivial
theorem place_rng {c z : Int} (hz : 2 ≤ z ∧ z ≤ 6) : 0 ≤ c.fmod z ∧ c.fmod z < z := ⟨fmod_lo _ (by omega), fmod_hi _ (by omega)⟩
noncomputable def BLoop (c z : Int) (i : Nat) (o3 o4 o5 o6 : Option Value) : Prop := ∃ (lf : Int) (tl : Tok) (W H T : List Nat) (tw th tt : Tok), o3 = some (.int lf tl) ∧ 0 ≤ lf ∧ o4 = some (.str ⟨List.toArray W⟩ tw) ∧ o5 = some (.str ⟨List.toArray H⟩ th) ∧ o6 = some (.str ⟨List.toArray T⟩ tt) ∧ BInv (c.fmod 2 = 1) ((c.fdiv 2).fmod z) i W H T
theorem BLoop.mk' {c z : Int} {i : Nat} {lf : Int} {tl : Tok} {W H T : List Nat} {tw th tt : Tok} (h0 : 0 ≤ lf) (b : BInv (c.fmod 2 = 1) ((c.fdiv 2).fmod z) i W H T) : BLoop c z i (some (.int lf tl)) (some (.str ⟨List.toArray W⟩ tw)) (some (.str ⟨List.toArray H⟩ th)) (some (.str ⟨List.toArray T⟩ tt)) := ⟨lf, tl, W, H, T, tw, th, tt, rfl, h0, rfl, rfl, rfl, b⟩
theorem BLoop.start {c z : Int} {lf : Int} {tl : Tok} {T : List Nat} {tw th tt : Tok} {o3 o4 o5 o6 : Option Value} (e3 : o3 = some (.int lf tl)) (h0 : 0 ≤ lf) (e4 : o4 = some (.str (Str.ofString "") tw)) (e5 : o5 = some (.str (Str.ofString "") th)) (e6 : o6 = some (.str ⟨List.toArray T⟩ tt)) (h1 : Hears T []) (h2 : T.length ≤ 1) (hz : 2 ≤ z ∧ z ≤ 6) : BLoop c z 0 o3 o4 o5 o6 :=
  ⟨lf, tl, [], [], T, tw, th, tt, e3, h0, e4.trans startS, e5.trans startS, e6, .start h1 h2 (place_rng hz).1⟩
theorem BLoop.all {c z : Int} {i : Nat} {C : Option Value → Option Value → Option Value → Option Value → Prop} (k : ∀ lf tl W H T tw th tt, 0 ≤ lf → BInv (c.fmod 2 = 1) ((c.fdiv 2).fmod z) i W H T → C (some (.int lf tl)) (some (.str ⟨List.toArray W⟩ tw)) (some (.str ⟨List.toArray H⟩ th)) (some (.str ⟨List.toArray T⟩ tt))) : ∀ o3 o4 o5 o6, BLoop c z i o3 o4 o5 o6 → C o3 o4 o5 o6 := by
  rintro _ _ _ _ ⟨lf, tl, W, H, T, tw, th, tt, rfl, h0, rfl, rfl, rfl, b⟩
  exact k _ _ _ _ _ _ _ _ h0 b
/-- the text that is typed ahead of the word, by one cut -/
noncomputable def TPost (s : Shared) (P : Heap → Prop) (f : Flow) (s₃ : Shared) : Prop := f = .next ∧ ∃ h tk, s₃ = { s with heap := h, toks := tk } ∧ P h
theorem TPost.intro {s : Shared} {P : Heap → Prop} {h : Heap} {tk : Nat} (hp : P h) : TPost s P .next { s with heap := h, toks := tk } := ⟨rfl, h, tk, rfl, hp⟩
noncomputable def typP (h₀ : Heap) (L : Addr) (m : Str → Option Value) (act : List (Addr × Obj)) (h : Heap) : Prop := ∃ (T : List Nat) (tt : Tok) (o : Option Value), Hears T [] ∧ T.length ≤ 1 ∧ o = some (.str ⟨List.toArray T⟩ tt) ∧ Fr h₀ L h (fun y => if y = Str.ofString "typed" then o else m y) ∧ News h₀ L h act
theorem cut_typed {M : Model} {A : Around} {st : Stmt} {env : Env} {Q : Flow → Shared → Prop} {E : Value → Shared → Prop} {hp : Heap} {gn : Array GenState} {dr : Drawn} {tk0 : Nat} {os : OsState} {h₀ : Heap} {L : Addr} {m : Str → Option Value} {act : List (Addr × Obj)} (F : Fr h₀ L hp m) (N : News h₀ L hp act)
    (h1 : wpAny M A (exec st env) (TPost ⟨hp, gn, dr, tk0, os⟩ (typP h₀ L m act)) E ⟨hp, gn, dr, tk0, os⟩)
    (h2 : ∀ T tt h tk, Hears T [] → T.length ≤ 1 → Fr h₀ L h (fun y => if y = Str.ofString "typed" then some (.str ⟨List.toArray T⟩ tt) else m y) → News h₀ L h act → Q .next ⟨h, gn, dr, tk, os⟩) : wpAny M A (exec st env) Q E ⟨hp, gn, dr, tk0, os⟩ :=
  wpAny_mono h1 (fun f s' ⟨e, h, tk, e2, T, tt, o, a1, a2, a3, a4, a5⟩ => by subst e; subst e2; subst a3; exact h2 T tt h tk a1 a2 a4 a5) (fun _ _ e => e)
theorem wordWB2_15 : True := by (k_with "exec Assign cons IfExp" => ((focus (k_here; (fail_if_success (with_reducible show wpAny _ _ _ (TPost _ _) _ _)); (with_reducible show wpAny _ _ (exec (Stmt.Assign [Expr.Name (Str.ofString "typed") _] _ _) _) _ _ _); k_dflt (refine' cut_typed ?wqF ?wqN ?_ ?_; (case wqF => k_asm); (case wqN => k_asm)); rotate_left; (intro T9 tt9 h9 tk9 hT9 hT9l F9 N9); rotate_right)))); trivial
theorem ltr32 {x : Int} : ltr (x.fmod 16) ≠ 32 := by
  have := letter_rng _ (ltr_mem (pick_rng x)); omega
theorem BInv.p1 {hm : Prop} {pl : Int} {i : Nat} {W H T : List Nat} {x : Int} (b : BInv hm pl i W H T) (hk : 0 + (i : Int) ≠ pl) : BInv hm pl (i + 1) (W ++ [ltr (x.fmod 16)]) (H ++ [ltr (x.fmod 16)]) (T ++ [ltr (x.fmod 16)]) :=
  b.plain (pick_rng x) (hear_ltr (pick_rng x)) ltr32 (by omega)
theorem BInv.p2 {hm : Prop} {pl : Int} {i : Nat} {W H T : List Nat} {x y : Int} (b : BInv hm pl i W H T) (hk : 0 + (i : Int) ≠ pl) (hy : y = 0 ∨ y ≠ 0) (h : y ≠ 0) (hr : 0 ≤ y ∧ y < 12) : BInv hm pl (i + 1) (W ++ [ltr (x.fmod 16)]) (H ++ [ltr (x.fmod 16)]) (T ++ [(capI.getD (y - 1).toNat 0 + (ltr (x.fmod 16) : Int) - 97).toNat]) := by
  refine b.plain (pick_rng x) (hear_cap (by omega) (pick_rng x)) ?_ (by omega)
  obtain ⟨h1, h2, _⟩ := cap_rng (a := y - 1) (by omega) (pick_rng x)
  omega
theorem BInv.p3 {hm : Prop} {pl : Int} {i : Nat} {W H T : List Nat} {x : Int} (b : BInv hm pl i W H T) (hk : 0 + (i : Int) = pl) (h1 : hm) : BInv hm pl (i + 1) (W ++ [ltr (x.fmod 16)]) (H ++ pr (x.fmod 16)) (T ++ [(dblI.getD (x.fmod 16).toNat 0).toNat]) := by
  refine b.twice (pick_rng x) (hear_dbl (pick_rng x)) ?_ (by omega) h1
  obtain ⟨h1, h2, _⟩ := dbl_rng (pick_rng x)
  omega
theorem BInv.p4 {hm : Prop} {pl : Int} {i : Nat} {W H T : List Nat} {x : Int} {v : Nat} (b : BInv hm pl i W H T) (hk : 0 + (i : Int) = pl) (h1 : ¬ hm) (hv : (v : Int) ∈ b1codes) : BInv hm pl (i + 1) (W ++ [ltr (x.fmod 16)]) H (T ++ [v]) :=
  b.lost (pick_rng x) hv (by omega) h1
theorem left_nn {c z : Int} (hc : 0 ≤ c) (hz : 2 ≤ z ∧ z ≤ 6) : 0 ≤ ((c.fdiv 2).fdiv z).fdiv 27 :=
  Int.fdiv_nonneg (Int.fdiv_nonneg (Int.fdiv_nonneg hc (by decide)) (by omega)) (by decide)
structure BRes (z : Int) (W H T : List Nat) : Prop where
  len : W.length = z.toNat
  lets : ∀ c ∈ W, c ∈ lettersL
  hear : Hears T H
  lenT : T.length ≤ 7
  lenH : H.length ≤ 7
  ins : Ins W H ∨ Ins H W
theorem BInv.res {hm : Prop} {c z : Int} {W H T : List Nat} (hz : 2 ≤ z ∧ z ≤ 6) (b : BInv hm (c.fmod z) z.toNat W H T) : BRes z W H T where
  len := b.len
  lets := b.lets
  hear := b.hear
  lenT := by have := b.lenT; omega
  lenH := by have := b.lenH; omega
  ins := by
    have h := place_rng (c := c) hz
    rcases Classical.em hm with e | e
    · exact .inl (b.ins (by omega) e)
    · exact .inr (b.del (by omega) e)
set_option maxHeartbeats 4000000 in
theorem block_ctr (w : World) (c z : Int) (tc tz : Tok) (hc : 0 ≤ c) (hc2 : c < 10 ^ 18) (hz : 2 ≤ z ∧ z ≤ 6) :
    Ctr w 155 [.int c tc, .int z tz] Any (fun v own => ∃ (D : Addr) (W H T : List Nat) (t1 t2 t3 : Tok), v = .ref D ∧ own = [(D, tupObj #[.str ⟨W.toArray⟩ t1, .str ⟨T.toArray⟩ t2, .str ⟨H.toArray⟩ t3] 0)] ∧ BRes z W H T) := by
  unfold Ctr
  k_fill
  intro dp un gd cn cs a ccd cl outer A₀ base h₀ L m news s loose mean mg mb Q E B F X N T hk hd hu hp hret
  refine wpAny_call ?_
  k_dflt cell_enter
  refine gen_post ?_
  intro Q9 hQ9
  k_steps
  · exact TPost.intro ⟨[_], _, _, .gone (by assumption), Nat.le_refl 1, rfl, by assumption, by assumption⟩
  · exact TPost.intro ⟨[], _, _, .nil, Nat.zero_le 1, startS, by assumption, by assumption⟩
  all_goals
    (try (rename NewPlain _ _ _ _ => z1; clear z1))
    (try (rename Heap.IsList _ _ _ => z1; clear z1))
    (try (rename IsRange _ _ _ _ _ _ _ _ => z1; clear z1))
    (try (rename IsRange _ _ _ _ _ _ _ _ => z1; clear z1))
    (try (rename CarriedAll _ _ => z1; clear z1))
    try dsimp only
    refine Mine.range7 (Str.ofString "pick") (Str.ofString "style") (Str.ofString "left") (Str.ofString "word") (Str.ofString "harmed") (Str.ofString "typed") (Str.ofString "k") (S := Unit) (fun _ => _)
      (fun i _ _ o3 o4 o5 o6 _ _ => BLoop c z i o3 o4 o5 o6) () rfl ?start ?zero ?succ
    case start => exact BLoop.start rfl (left_nn hc hz) rfl rfl rfl (by assumption) (by assumption) hz
    case zero =>
      intro o1 o2 o3 o4 o5 o6 o7 _ hB
      revert o3 o4 o5 o6
      refine BLoop.all ?_
      intro lf tl W H TT tw th tt h0 b
      k_steps
      refine hQ9 _ _ ?_
      try dsimp only
      k_steps
      rename (_ ∧ _ ∧ _ ∧ _ ∧ _ ∧ AllLt _ _) => l9
      rename News _ _ _ _ => N9
      exact hret _ [_] _ _ ⟨_, W, H, TT, _, _, _, rfl, rfl, b.res hz⟩ (by assumption) (News.sub N9 (sub2 (by k_mem) (by (repeat (first | exact fun _ h => h | refine sub_t7 ?_))))) (List.forall_mem_cons.mpr ⟨ktn_ltOf l9.2.2.2.2.2, fun _ h => nomatch h⟩)
    case succ =>
      intro k i o1 o2 o3 o4 o5 o6 o7 _ hi hB ih
      revert o3 o4 o5 o6
      refine BLoop.all ?_
      intro lf tl W H TT tw th tt h0 b
      have q1 : W.length ≤ 1000 := by have := b.len; omega
      have q2 : H.length ≤ 1000 := by have := b.lenH; omega
      have q3 : TT.length ≤ 1000 := by have := b.lenT; omega
      k_steps
      all_goals first
      | refine ih _ _ () (BLoop.mk' (Int.fdiv_nonneg h0 (by decide)) (b.p1 (by assumption))) (fun y e1 e2 e3 e4 e5 e6 e7 => ?_) (fun p hp => hp)
      | refine ih _ _ () (BLoop.mk' (Int.fdiv_nonneg h0 (by decide)) (b.p2 (by assumption) (Classical.em _) (by assumption) (sty_rng _))) (fun y e1 e2 e3 e4 e5 e6 e7 => ?_) (fun p hp => hp)
      | refine ih _ _ () (BLoop.mk' (Int.fdiv_nonneg h0 (by decide)) (b.p3 (by assumption) (by assumption))) (fun y e1 e2 e3 e4 e5 e6 e7 => ?_) (fun p hp => hp)
      | refine ih _ _ () (BLoop.mk' (Int.fdiv_nonneg h0 (by decide)) (b.p4 (by assumption) (by assumption) (by assumption))) (fun y e1 e2 e3 e4 e5 e6 e7 => ?_) (fun p hp => hp)
      all_goals ((repeat (refine (if_neg (by assumption)).trans ?_)); refine Eq.symm ?_; (repeat (refine (if_neg (by assumption)).trans ?_)); exact rfl)
end Mine
end PartWB2

noncomputable section PartWH
theorem Mine.resetWH : True := by (w_top off); k_with_none; first | (walk1; done) | trivial
set_option maxRecDepth 100000
set_option linter.all false
namespace Mine
open PySem PySem.W PyProof.Rows
section
variable {prog : Program} {w : World} {A : Around} {E : Value → Shared → Prop} {h₀ : Heap} {env : Env} {x : Str} {body : List Stmt} {Q : Flow → Shared → Prop} {s : Shared} {I : Addr}
theorem StrRest.sub {m : Str → Option Value} {news news2 : List (Addr × Obj)} (hs : ∀ p ∈ news, p ∈ news2) : ∀ {r : List Str}, StrRest prog w A E h₀ env x body Q s I r m news → StrRest prog w A E h₀ env x body Q s I r m news2
  | [], h => fun hh tk F N => h hh tk F (fun p hp => N p (hs p hp))
  | _ :: _, h => fun u it hh tk F N => h u it hh tk F (fun p hp => by
      rcases List.mem_cons.mp hp with e | e
      · exact N p (by rw [e]; exact .head _)
      · exact N p (.tail _ (hs p e)))
noncomputable abbrev sg (c : Nat) : Str := ⟨#[c]⟩
/-- a loop over a text, by a state over one name and the ledger -/
theorem str1 (n1 : Str) {m0 : Str → Option Value} {T : List Nat} {news : List (Addr × Obj)} {S : Type} (ld : S → List (Addr × Obj)) (Inv : List Nat → List Nat → S → Prop) (s0 : S) (hl : news = ld s0)
    (hI : Inv [] T s0)
    (zero : ∀ o1 st, Inv T [] st → StrRest prog w A E h₀ env x body Q s I [] (upd1 m0 n1 o1) (ld st))
    (succ : ∀ d c r o1 st, d ++ c :: r = T → Inv d (c :: r) st → (∀ (m' : Str → Option Value) n' st', Inv (d ++ [c]) r st' → (∀ y, y ≠ n1 → m' y = m0 y) → (∀ p ∈ ld st', p ∈ n') → StrRest prog w A E h₀ env x body Q s I (r.map sg) m' n') → StrRest prog w A E h₀ env x body Q s I (sg c :: r.map sg) (upd1 m0 n1 o1) (ld st)) :
    StrRest prog w A E h₀ env x body Q s I (T.map sg) m0 news := by
  have key : ∀ (r d : List Nat) o1 st, d ++ r = T → Inv d r st → StrRest prog w A E h₀ env x body Q s I (r.map sg) (upd1 m0 n1 o1) (ld st) := by
    intro r
    induction r with
    | nil =>
      intro d o1 st hd h
      rw [List.append_nil] at hd
      subst hd
      exact zero o1 st h
    | cons c r ih =>
      intro d o1 st hd h
      refine succ d c r o1 st hd h (fun m' n' st' h' e hs => ?_)
      have := Mine.StrRest.sub hs (ih (d ++ [c]) (m' n1) st' (by simpa using hd) h')
      rw [upd1_of e] at this
      exact this
  have := key T [] (m0 n1) s0 rfl hI
  rw [upd1_self] at this
  rw [hl]; exact this
end
theorem E15_strs : (E15.all fun e => match e.val with | .str _ _ => true | _ => false) = true := by decide +kernel
theorem b3_str {c : Int} {v : Value} (h : b3get c = some v) : ∃ x u, v = .str x u := by
  unfold b3get findBy at h
  rw [List.find?_toArray] at h
  obtain ⟨e, he, rfl⟩ := Option.map_eq_some_iff.mp h
  have hm := List.mem_of_find?_eq_some he
  have := List.all_eq_true.mp E15_strs e hm
  obtain ⟨a, b, v⟩ := e
  cases v with
  | str x u => exact ⟨x, u, rfl⟩
  | _ => cases this
section
variable {w : World} {act : List (Addr × Obj)} {dp un : Nat} {gd : Option (List Code)} {cn : Str} {cs : Scope} {a : Addr} {ccd : Value} {cl : List (Str × Addr)} {outer : List Env} {A₀ : Around} {base h₀ : Heap} {L : Addr} {m : Str → Option Value} {s : Shared}
    {loose : List Str} {mean : ExcName → Option Value} {mg mb : Str → Option Value} {Q E : Value → Shared → Prop} {c : Nat} {t : Tok}
theorem b1_use (B : Below A₀ base outer h₀) (F : Fr h₀ L s.heap m) (X : (KA w.params).In h₀) (N : News h₀ L s.heap act) (T : Top topProg loose mean mg mb h₀) (hk : cs.kind = .function) (hd : dp + 40 < recursionLimit) (hu : un + 400 < cLine) {b : Bool} (hb : decide ((c : Int) ∈ b1codes) = b)
    (hR : ∀ h' tk', Fr h₀ L h' m → News h₀ L h' act → Q (.bool b) { s with heap := h', toks := tk' }) :
    wpAny (model PySem.Challenge.rw_ul0025_01.row.prog w) (ktrTop dp un gd cn cs L a ccd cl outer) (call (.ref 88) [.str (sg c) t]) Q E s :=
  (b1_ctr w c t).use B F X N T hk hd hu (fun v own h' tk' ⟨e1, e2⟩ F' N' _ => by subst e1; subst e2; rw [hb]; exact hR h' tk' F' N')
theorem c11_use (B : Below A₀ base outer h₀) (F : Fr h₀ L s.heap m) (X : (KA w.params).In h₀) (N : News h₀ L s.heap act) (T : Top topProg loose mean mg mb h₀) (hk : cs.kind = .function) (hd : dp + 40 < recursionLimit) (hu : un + 400 < cLine) {b : Bool} (hb : decide (c = 32) = b)
    (hR : ∀ h' tk', Fr h₀ L h' m → News h₀ L h' act → Q (.bool b) { s with heap := h', toks := tk' }) :
    wpAny (model PySem.Challenge.rw_ul0025_01.row.prog w) (ktrTop dp un gd cn cs L a ccd cl outer) (call (.ref 141) [.str (sg c) t]) Q E s :=
  (c11_ctr w (sg c) t).use B F X N T hk hd hu (fun v own h' tk' ⟨e1, e2⟩ F' N' _ => by
    subst e1; subst e2
    have e : (sg c == Str.ofString " ") = decide (c = 32) := by
      have h2 : Str.ofString " " = sg 32 := by decide +kernel
      rw [h2]
      by_cases hc : c = 32
      · subst hc; simp
      · have : sg c ≠ sg 32 := fun h => hc (by injection h with h; simpa using h)
        simp [hc]
    rw [e, hb]; exact hR h' tk' F' N')
theorem b3_use (B : Below A₀ base outer h₀) (F : Fr h₀ L s.heap m) (X : (KA w.params).In h₀) (N : News h₀ L s.heap act) (T : Top topProg loose mean mg mb h₀) (hk : cs.kind = .function) (hd : dp + 40 < recursionLimit) (hu : un + 400 < cLine) (hb : decide ((c : Int) ∈ b1codes) = false)
    (hR : ∀ t' h' tk', Fr h₀ L h' m → News h₀ L h' act → Q (.str ⟨(hear1 c).toArray⟩ t') { s with heap := h', toks := tk' }) :
    wpAny (model PySem.Challenge.rw_ul0025_01.row.prog w) (ktrTop dp un gd cn cs L a ccd cl outer) (call (.ref 134) [.str (sg c) t]) Q E s := by
  have hn : ¬ (c : Int) ∈ b1codes := of_decide_eq_false hb
  cases hv : b3get c with
  | none =>
    have e : hear1 c = (Txt.lower ⟨#[c]⟩).cps.toList := by unfold hear1; rw [if_neg hn, hv]
    exact (b3_none w c t hv).use B F X N T hk hd hu (fun v own h' tk' ⟨⟨u, e1⟩, e2⟩ F' N' _ => by
      subst e1; subst e2
      have := hR u h' tk' F' N'
      rw [e] at this
      exact this)
  | some v =>
    obtain ⟨x, u, rfl⟩ := b3_str hv
    have e : hear1 c = x.cps.toList := by unfold hear1; rw [if_neg hn, hv]
    exact (b3_some w c t x u hv).use B F X N T hk hd hu (fun v own h' tk' ⟨e1, e2⟩ F' N' _ => by
      subst e1; subst e2
      have := hR u h' tk' F' N'
      rw [e] at this
      exact this)
end
inductive TxsAre : List Value → List (List Nat) → Prop
  | nil : TxsAre [] []
  | cons (g : List Nat) (t : Tok) {vs : List Value} {gs : List (List Nat)} : TxsAre vs gs → TxsAre (.str ⟨g.toArray⟩ t :: vs) (g :: gs)
theorem TxsAre.append {vs ws : List Value} {gs hs : List (List Nat)} (h : TxsAre vs gs) (k : TxsAre ws hs) : TxsAre (vs ++ ws) (gs ++ hs) := by
  induction h with
  | nil => exact k
  | cons g t _ ih => exact .cons g t ih
theorem TxsAre.length {vs : List Value} {gs : List (List Nat)} (h : TxsAre vs gs) : vs.length = gs.length := by
  induction h with
  | nil => rfl
  | cons g t _ ih => simp [ih]
/-- the groups: those that are closed, and the open one -/
noncomputable def hearStep (st : List (List Nat) × List Nat) (c : Nat) : List (List Nat) × List Nat := if (c : Int) ∈ b1codes then st else if c = 32 then (st.1 ++ [st.2], []) else (st.1, st.2 ++ hear1 c)
theorem seq_last (n : Nat) : seqIndex? (-1) (n + 1) = some n := by
  unfold seqIndex?
  simp only [show ((-1 : Int) < 0) by decide, if_true]
  have h1 : (-1 : Int) + ((n + 1 : Nat) : Int) = n := by omega
  rw [h1]
  have h2 : (decide (0 ≤ (n : Int)) && decide ((n : Int) < ((n + 1 : Nat) : Int))) = true := by
    rw [Bool.and_eq_true, decide_eq_true_eq, decide_eq_true_eq]; omega
  rw [if_pos h2, Int.toNat_natCast]
theorem setL_last (x v : Value) : ∀ vs : List Value, ki_setL (vs ++ [x]) vs.length v = some (vs ++ [v])
  | [] => rfl
  | a :: vs => by
    simp only [List.cons_append, List.length_cons, ki_setL, setL_last x v vs]
section
variable {prog : Program} {w : World} {A : Around} {E : Value → Shared → Prop} {s : Shared} {h₀ : Heap} {L : Addr} {m : Str → Option Value} {news news' : List (Addr × Obj)} {l : Addr} {vs : List Value} {x v : Value} {k : Nat} {u : Tok}
theorem get_last {Q : Value → Shared → Prop} (hl : s.heap.IsList l (vs ++ [x]).toArray) (h : Q x s) : wpAny (model prog w) A (getItem (.ref l) (.int (-1) u)) Q E s :=
  kde_getNeg hl (by decide) (by decide) (j := vs.length) (by rw [List.length_append]; exact seq_last _) (by simp) h
theorem set_last {Q : Unit → Shared → Prop} (F : Fr h₀ L s.heap m) (N : News h₀ L s.heap news) (U : Upd l (listOf (vs ++ [x]).toArray k) (listOf (vs ++ [v]).toArray k) news news')
    (h : ∀ h', Fr h₀ L h' m → News h₀ L h' news' → Q () { s with heap := h' }) : wpAny (model prog w) A (setItem (.ref l) (.int (-1) u) v) Q E s :=
  ki_setNeg F N (by decide) (by decide) (j := vs.length) (by rw [List.size_toArray, List.length_append]; exact seq_last _) (setL_last x v vs) U h
theorem app_last {Q : Value → Shared → Prop} (F : Fr h₀ L s.heap m) (N : News h₀ L s.heap news) (hb : vs.length ≤ 1000) (U : Upd l (listOf vs.toArray k) (listOf (vs ++ [v]).toArray (k + 1)) news news')
    (h : ∀ h', Fr h₀ L h' m → News h₀ L h' news' → Q .none { s with heap := h' }) : wpAny (model prog w) A (call (.builtin "list.append") [.ref l, v]) Q E s := by
  refine append_K (hsz := ?_) F N (by rw [List.push_toArray]; exact U) h
  have e : (1000 : Nat) ≤ sizeLine := by decide
  rw [List.size_toArray]; omega
end
theorem E15_short : (E15.all fun e => match e.val with | .str x _ => Nat.ble x.cps.size 8 | _ => false) = true := by decide +kernel
theorem hear1_len (c : Nat) : (hear1 c).length ≤ 8 := by
  unfold hear1
  split
  · exact Nat.zero_le _
  · split
    · rename_i x u hv
      unfold b3get findBy at hv
      rw [List.find?_toArray] at hv
      obtain ⟨e, he, e2⟩ := Option.map_eq_some_iff.mp hv
      have := List.all_eq_true.mp E15_short e (List.mem_of_find?_eq_some he)
      rw [e2] at this
      have := Nat.le_of_ble_eq_true this
      simpa using this
    · have := len_lower (⟨#[c]⟩ : Str)
      have e : (⟨#[c]⟩ : Str).length = 1 := rfl
      rw [e] at this
      have e2 : (Txt.lower ⟨#[c]⟩).cps.toList.length = (Txt.lower ⟨#[c]⟩).length := Array.length_toList
      omega
noncomputable def hearG (T : List Nat) : List (List Nat) := (T.foldl hearStep ([], [])).1 ++ [(T.foldl hearStep ([], [])).2]
theorem step_skip {st : List (List Nat) × List Nat} {c : Nat} {d : List Nat} {i : List (List Nat) × List Nat} (h : st = d.foldl hearStep i) (hb : decide ((c : Int) ∈ b1codes) = true) : st = (d ++ [c]).foldl hearStep i := by
  rw [List.foldl_append, ← h]; simp only [List.foldl_cons, List.foldl_nil, hearStep, if_pos (of_decide_eq_true hb)]
theorem step_cut {st : List (List Nat) × List Nat} {c : Nat} {d : List Nat} {i : List (List Nat) × List Nat} (h : st = d.foldl hearStep i) (hb : decide ((c : Int) ∈ b1codes) = false) (hc : decide (c = 32) = true) : (st.1 ++ [st.2], []) = (d ++ [c]).foldl hearStep i := by
  rw [List.foldl_append, ← h]; simp only [List.foldl_cons, List.foldl_nil, hearStep, if_neg (of_decide_eq_false hb), if_pos (of_decide_eq_true hc)]
theorem step_say {st : List (List Nat) × List Nat} {c : Nat} {d : List Nat} {i : List (List Nat) × List Nat} (h : st = d.foldl hearStep i) (hb : decide ((c : Int) ∈ b1codes) = false) (hc : decide (c = 32) = false) : (st.1, st.2 ++ hear1 c) = (d ++ [c]).foldl hearStep i := by
  rw [List.foldl_append, ← h]; simp only [List.foldl_cons, List.foldl_nil, hearStep, if_neg (of_decide_eq_false hb), if_neg (of_decide_eq_false hc)]
end Mine
end PartWH

noncomputable section PartWH2
theorem Mine.resetWH2 : True := by (w_top off); k_with_none; first | (walk1; done) | trivial
set_option maxRecDepth 100000
set_option linter.all false
namespace Mine
open PySem PySem.W PyProof.Rows
local macro_rules | `(tactic| ktr_rel) => `(tactic| first | exact al0 (by with_reducible assumption) | exact al1 (by with_reducible assumption) | exact al2 (by with_reducible assumption) | exact al3 (by with_reducible assumption) | exact al4 (by with_reducible assumption) | exact al5 (by with_reducible assumption) | exact al6 (by with_reducible assumption) | exact al7 (by with_reducible assumption))
local macro_rules | `(tactic| k_all) => `(tactic| ktr_rel)
local macro_rules | `(tactic| walk_at $s:str) => `(tactic| k_extra $s)
theorem wordWH2_0 : True := by k_with_none; trivial
theorem wordWH2_1 : True := by (k_with "UnrEnd" => ((k_dflt (refine' unrEnd_drp ?wqF ?wqN ?wqd ?wqoff ?_; (case wqF => k_asm); (case wqN => k_asm); (case wqd => (repeat (first | exact Drp.here | apply Drp.there))); (case wqoff => k_all))))); trivial
theorem wordWH2_2 : True := by (k_with "pyIter str" => ((k_here; (with_reducible show wpAny _ _ (pyIter _) (fun it s₂ => LoopAtV _ _ _ _ _ _ _ _ _ it s₂) _ _); k_dflt (refine' iter_strUnr ?wqhh ?wqF ?wqN ?wqhx ?_; (case wqhh => with_unfolding_all rfl); (case wqF => k_asm); (case wqN => k_asm); (case wqhx => exact rfl); k_whole); intro I' l1; (try k_lt l1)))); trivial
theorem wordWH2_3 : True := by (k_with "call ref" => ((k_here; k_dflt (refine' b1_use ?wqB ?wqF ?wqX ?wqN ?wqT ?wqkk ?wqhd ?wqhu ?wqq1 ?_; (case wqB => k_asm); (case wqF => k_asm); (case wqX => k_asm); (case wqN => k_asm); (case wqT => k_asm); (case wqkk => first | exact rfl | assumption); (case wqhd => exact room_sub (by assumption) (by decide)); (case wqhu => exact units_400 (by assumption) (by decide)); (case wqq1 => with_reducible assumption)); intro h9 tk9 F9 N9))); trivial
theorem wordWH2_4 : True := by (k_with "call ref" => ((k_here; k_dflt (refine' c11_use ?wqB ?wqF ?wqX ?wqN ?wqT ?wqkk ?wqhd ?wqhu ?wqq1 ?_; (case wqB => k_asm); (case wqF => k_asm); (case wqX => k_asm); (case wqN => k_asm); (case wqT => k_asm); (case wqkk => first | exact rfl | assumption); (case wqhd => exact room_sub (by assumption) (by decide)); (case wqhu => exact units_400 (by assumption) (by decide)); (case wqq1 => with_reducible assumption)); intro h9 tk9 F9 N9))); trivial
theorem wordWH2_5 : True := by (k_with "call ref" => ((k_here; k_dflt (refine' b3_use ?wqB ?wqF ?wqX ?wqN ?wqT ?wqkk ?wqhd ?wqhu ?wqq1 ?_; (case wqB => k_asm); (case wqF => k_asm); (case wqX => k_asm); (case wqN => k_asm); (case wqT => k_asm); (case wqkk => first | exact rfl | assumption); (case wqhd => exact room_sub (by assumption) (by decide)); (case wqhu => exact units_400 (by assumption) (by decide)); (case wqq1 => with_reducible assumption)); intro t9 h9 tk9 F9 N9))); trivial
theorem wordWH2_6 : True := by (k_with "exec For Name Name cons nil" => ((k_here; (rename Fr _ _ _ _ => lF'); (with_unfolding_all refine' For_invVF lF' ?wqk1 ?wqk2 ?_; (case wqk1 => exact rfl); (case wqk2 => exact rfl); k_whole)))); trivial
theorem wordWH2_7 : True := by (k_with "call builtin:list.append" => ((k_here; k_dflt (refine' app_last ?wqF ?wqN ?wqb ?wqU ?_; (case wqF => k_asm); (case wqN => k_asm); (case wqb => with_reducible assumption); (case wqU => k_upd); k_whole); intro h' F' N'))); trivial
theorem wordWH2_8 : True := by (k_with "getItem ref int" => ((k_here; (with_reducible show wpAny _ _ (getItem (Value.ref _) (Value.int (-1) _)) _ _ _); k_dflt (refine' get_last ?wqa ?_; (case wqa => is_list); k_whole)))); trivial
theorem wordWH2_9 : True := by (k_with "setItem ref int" => ((k_here; (with_reducible show wpAny _ _ (setItem (Value.ref _) (Value.int (-1) _) _) _ _ _); k_dflt (refine' set_last ?wqF ?wqN ?wqU ?_; (case wqF => k_asm); (case wqN => k_asm); (case wqU => k_upd); k_whole); intro h' F' N'))); trivial
theorem wordWH2_10 : True := by (k_with "inplaceOp Add str str" => ((k_here; k_dflt (refine' icat_l ?wqa ?wqb ?_; (case wqa => with_reducible assumption); (case wqb => with_reducible assumption); k_whole); intro _ _))); trivial
set_option maxHeartbeats 4000000 in
theorem heard_use {w : World} {T : List Nat} {tt : Tok} (hT : T.length ≤ 50) {news : List (Addr × Obj)} {dp un : Nat} {gd : Option (List Code)} {cn : Str} {cs : Scope} {a : Addr} {ccd : Value} {cl : List (Str × Addr)} {outer : List Env} {A₀ : Around} {base h₀ : Heap} {L : Addr} {m : Str → Option Value} {s : Shared} {loose : List Str} {mean : ExcName → Option Value} {mg mb : Str → Option Value} {Q E : Value → Shared → Prop} (B : Below A₀ base outer h₀) (F : Fr h₀ L s.heap m) (X : (KA w.params).In h₀) (N : News h₀ L s.heap news) (TT : Top topProg loose mean mg mb h₀) (hk : cs.kind = .function) (hd : dp + (41 + 1) < recursionLimit) (hu : un + 16 * (41 + 1) < cLine)
    (hR : ∀ D ws k h' tk', TxsAre ws (hearG T) → Fr h₀ L h' m → News h₀ L h' ((D, listOf ws.toArray k) :: news) → (∀ q ∈ news, q.1 < D) → Q (.ref D) { s with heap := h', toks := tk' }) :
    wpAny (model PySem.Challenge.rw_ul0025_01.row.prog w) (ktrTop dp un gd cn cs L a ccd cl outer) (call (.ref 162) [.str ⟨T.toArray⟩ tt]) Q E s := by
  revert X; k_fill; intro X
  refine wpAny_call ?_
  k_dflt cell_enter
  k_steps
  rename_i tk9 l9 h91 l19 h9 N9
  refine str1 (T := T) (Str.ofString "sign") (S := List Value × List Nat × Tok × Nat) (fun st => (l9, listOf (st.1 ++ [Value.str ⟨st.2.1.toArray⟩ st.2.2.1]).toArray st.2.2.2) :: news)
      (fun d r st => ∃ gs : List (List Nat), TxsAre st.1 gs ∧ (gs, st.2.1) = d.foldl hearStep ([], []) ∧ st.1.length ≤ d.length ∧ st.2.1.length ≤ 8 * d.length) ([], [], tk9, 0) ?l ?start ?zero ?succ
  case l => rw [ofString_nil]; rfl
  case start => exact ⟨[], .nil, rfl, Nat.le_refl _, Nat.le_refl _⟩
  case zero =>
    rintro o1 ⟨vs, g, tg, kk⟩ ⟨gs, hS, hf, hl1, hl2⟩
    have hW : TxsAre (vs ++ [Value.str ⟨g.toArray⟩ tg]) (hearG T) := by
      unfold hearG
      rw [← hf]
      exact hS.append (.cons g tg .nil)
    k_steps
    exact hR _ _ _ _ _ hW (by assumption) (by assumption) l19
  case succ =>
    rintro d c r o1 ⟨vs, g, tg, kk⟩ hd ⟨gs, hS, hf, hl1, hl2⟩ ih
    dsimp only at hS hf hl1 hl2 ⊢
    have hdl : d.length + 1 ≤ 50 := by
      have := congrArg List.length hd
      rw [List.length_append, List.length_cons] at this
      omega
    have q1 : g.length ≤ 1000 := by omega
    have q2 : (hear1 c).length ≤ 1000 := Nat.le_trans (hear1_len c) (by decide)
    have q3 : (vs ++ [Value.str ⟨g.toArray⟩ tg]).length ≤ 1000 := by rw [List.length_append, List.length_singleton]; omega
    cases hb : decide ((c : Int) ∈ b1codes) with
    | true =>
      k_steps
      refine ih _ _ (vs, g, tg, kk) ⟨gs, hS, step_skip hf hb, ?_, ?_⟩ (fun y e1 => ?_) (fun p hp => hp)
      · rw [List.length_append]; exact Nat.le_succ_of_le hl1
      · rw [List.length_append, List.length_singleton]; show g.length ≤ _; omega
      · ((repeat (refine (if_neg (by assumption)).trans ?_)); refine Eq.symm ?_; (repeat (refine (if_neg (by assumption)).trans ?_)); exact rfl)
    | false =>
      cases hc : decide (c = 32) with
      | true =>
        k_steps
        rw [ofString_nil]
        refine ih _ _ (vs ++ [Value.str ⟨g.toArray⟩ tg], [], _, kk + 1) ⟨gs ++ [g], hS.append (.cons g tg .nil), step_cut hf hb hc, ?a, Nat.zero_le _⟩ (fun y e1 => ?b) (fun p hp => hp)
        case a => rw [List.length_append, List.length_append]; exact Nat.succ_le_succ hl1
        case b => ((repeat (refine (if_neg (by assumption)).trans ?_)); refine Eq.symm ?_; (repeat (refine (if_neg (by assumption)).trans ?_)); exact rfl)
      | false =>
        k_steps
        refine ih _ _ (vs, g ++ hear1 c, _, kk) ⟨gs, hS, step_say hf hb hc, ?a, ?b⟩ (fun y e1 => ?c) (fun p hp => hp)
        case a => rw [List.length_append]; exact Nat.le_succ_of_le hl1
        case b =>
          have := hear1_len c
          show (g ++ hear1 c).length ≤ _
          rw [List.length_append, List.length_append, List.length_singleton]; omega
        case c => ((repeat (refine (if_neg (by assumption)).trans ?_)); refine Eq.symm ?_; (repeat (refine (if_neg (by assumption)).trans ?_)); exact rfl)
end Mine
end PartWH2

noncomputable section PartWC
theorem Mine.resetWC : True := by (w_top off); k_with_none; first | (walk1; done) | trivial
set_option maxRecDepth 100000
set_option linter.all false
namespace Mine
open PySem PySem.W PyProof.Rows
section
variable {prog : Program} {w : World} {A : Around} {E : Value → Shared → Prop} {s : Shared} {h₀ : Heap} {L : Addr} {m : Str → Option Value} {env : Env}
noncomputable abbrev LCRest := @LCg.CompRest
/-- the turns of a block over a text: each gives an int -/
theorem rest_txt {elt : Expr} {x : Str} {scope : Scope} {cl : List (Str × Addr)} {T : List Nat} {tx : Str} (hT : tx.cps = T.toArray) (f : Nat → Int) {Fin : List Value → List (Addr × Obj) → Prop} {news : List (Addr × Obj)}
    (step : ∀ (c : Nat) (u : Tok) I oI C oC D m₂ h tk ys (Qr E' : Value → Shared → Prop), c ∈ T → LCg.NsObj oC m₂ → m₂ x = some (.str (sg c) u) → Fr h₀ L h m → News h₀ L h ((I, oI) :: (C, oC) :: (D, LCg.lst ys) :: news) →
      (∀ t h' tk', Fr h₀ L h' m → News h₀ L h' ((I, oI) :: (C, oC) :: (D, LCg.lst ys) :: news) → Qr (.int (f c) t) { s with heap := h', toks := tk' }) →
      wpAny (model prog w) A (eval elt (compEnvC scope cl C env)) Qr E' { s with heap := h, toks := tk })
    (fin : ∀ ys, IntsAre ys (T.map f) → Fin ys news) :
    LCg.CompRest prog w A h₀ L m env elt x scope cl s (fun _ => True) (SignAt tx) Fin tx.cps.size 0 [] news := by
  have key : ∀ (k i : Nat) ys, i + k = T.length → IntsAre ys ((T.take i).map f) → LCg.CompRest prog w A h₀ L m env elt x scope cl s (fun _ => True) (SignAt tx) Fin k i ys news := by
    intro k
    induction k with
    | zero =>
      intro i ys hi h
      have : T.take i = T := List.take_of_length_le (by omega)
      rw [this] at h
      exact fin ys h
    | succ k ih =>
      intro i ys hi h
      refine LCg.CompRest.succ (fun v I oI C oC D m₂ hh tk E' hP hC hx F N off ne => ?_)
      obtain ⟨c, u, hc, rfl⟩ := hP
      have hlt : i < T.length := by omega
      have hc' : T[i] = c := by
        rw [hT] at hc
        simpa [List.getElem?_eq_getElem hlt] using hc
      have hm : c ∈ T := hc' ▸ List.getElem_mem hlt
      refine step c u I oI C oC D m₂ hh tk ys _ E' hm hC hx F N (fun t h' tk' F' N' => LCg.CompEnd.intro F' N' news (fun _ h => h) off trivial ?_)
      refine ih (i + 1) _ (by omega) ?_
      rw [List.take_succ_eq_append_getElem hlt, List.map_append, hc']
      exact IntsAre.append h (.cons _ _ .nil)
  have := key T.length 0 [] (by omega) (by simpa using IntsAre.nil)
  rw [hT, List.size_toArray]
  exact this
noncomputable def TxtSrc (prog : Program) (w : World) (A : Around) (h₀ : Heap) (L : Addr) (m : Str → Option Value) (env : Env) (elt : Expr) (x : Str) (scope : Scope) (cl : List (Str × Addr)) (Q : Value → Shared → Prop) (xv : Value) (s₁ : Shared) : Prop :=
  ∃ (T : List Nat) (tt : Tok) (f : Nat → Int) (news : List (Addr × Obj)), xv = .str ⟨T.toArray⟩ tt ∧ A.handled = none ∧ Fr h₀ L s₁.heap m ∧ News h₀ L s₁.heap news ∧ (∀ c ∈ T, c < 128) ∧ T.length ≤ 1000 ∧
    (∀ (s : Shared) (c : Nat) (u : Tok) I oI C oC D m₂ h tk ys (Qr E' : Value → Shared → Prop), c ∈ T → LCg.NsObj oC m₂ → m₂ x = some (.str (sg c) u) → Fr h₀ L h m → News h₀ L h ((I, oI) :: (C, oC) :: (D, LCg.lst ys) :: news) →
      (∀ t h' tk', Fr h₀ L h' m → News h₀ L h' ((I, oI) :: (C, oC) :: (D, LCg.lst ys) :: news) → Qr (.int (f c) t) { s with heap := h', toks := tk' }) →
      wpAny (model prog w) A (eval elt (compEnvC scope cl C env)) Qr E' { s with heap := h, toks := tk }) ∧
    (∀ D h tk vs, IntsAre vs (T.map f) → Fr h₀ L h m → News h₀ L h ((D, LCg.lst vs) :: news) → (∀ p ∈ news, p.1 ≠ D) → Q (.ref D) { s₁ with heap := h, toks := tk })
theorem listcomp_txt {elt iter : Expr} {x : Str} {px : Pos} {scope : Scope} {cl : List (Str × Addr)} {pos : Pos} {Q : Value → Shared → Prop} (F₀ : Fr h₀ L s.heap m)
    (hclos : closureFor scope env = pure cl) (hcell : ∀ y ∈ scope.names, y.2 ≠ .cell) (hkind : scope.kind = .function)
    (hnames : ∀ y ∈ scope.names, y.2 = .local → scope.names.lookup y.1 = some .local) (hx : scope.names.lookup x = some .local)
    (h : wpAny (model prog w) A (eval iter env) (TxtSrc prog w A h₀ L m env elt x scope cl Q) E s)
    (hs : ∀ x, foldedSetIterable iter env x = pure x := by intro _; rfl) :
    wpAny (model prog w) A (eval (.ListComp elt [⟨.Name x px, iter, [], 0⟩] scope pos) env) Q E s := by
  rw [eval_ListComp]
  refine wpAny_comprehension_free (use := none) rfl hs hclos hkind hnames (wpAny_mono h (fun xv s₁ h₁ => ?_) fun _ _ e => e)
  obtain ⟨T, tt, f, news, rfl, hh, F, N, hasc, hlen, step, fin⟩ := h₁
  have ha : (⟨T.toArray⟩ : Str).cps.all (· < 128) = true := by
    show T.toArray.all _ = true
    rw [List.all_toArray, List.all_eq_true]
    intro c hc
    exact decide_eq_true (hasc c hc)
  have e1 : (1000 : Nat) ≤ sizeLine := by decide
  refine wpAny_pyIter_ascii ha ?_
  refine LCg.block_U (Fin := LCg.FinE h₀ L m { s₁ with heap := s₁.heap.push { cls := .type "str_ascii_iterator", data := .fields #[.str ⟨T.toArray⟩ tt, .int 0 0] } } Q) (S := fun _ => True) (Walks.strAscii hh s₁.heap.objs.size ⟨T.toArray⟩ tt) (by show T.toArray.size ≤ _; rw [List.size_toArray]; omega) (fun i h st => by obtain ⟨o, e, _⟩ := st; exact ⟨o, e⟩)
    (fun i h h' o nw st e e' _ _ _ => by obtain ⟨o', q, r⟩ := st; rw [e] at q; cases q; exact ⟨o, e', r⟩) hcell hkind hx ⟨_, Heap.get?_push_size _ rfl, rfl, rfl⟩ (fun b hb => ?_)
    (F.keeps fun _ _ e => Heap.get?_push_of_some _ e) (N.grown fun _ _ e => Heap.get?_push_of_some _ e) (Nat.ne_of_lt F.ns.lt) (next_is_new F) (fun p hp => Nat.ne_of_lt (Heap.lt_size (N p hp).1)) trivial
    (rest_txt rfl f (step _) (fun ys hI D h tk F' N' o1 => fin D h tk ys hI F' N' (fun p hp => ?_))) ?_
  · rw [List.mem_singleton.mp hb]
    show s₁.heap.objs.size < (s₁.heap.push _).objs.size
    rw [Heap.size_push]; exact Nat.lt_succ_self _
  · intro e
    have : ∀ {l : List (Addr × Obj)}, LCg.Off1 D l → ∀ p ∈ l, p.1 ≠ D := by
      intro l
      induction l with
      | nil => intro _ p hp; nomatch hp
      | cons a l ih =>
        intro h p hp
        rcases List.mem_cons.mp hp with rfl | hp
        · exact h.1
        · exact ih h.2 p hp
    exact this o1 p hp e
  · intro D C h tk m' ys news' F' N' o1 hn hC₀ hD₀ hCL hDL hCD offC fin
    refine ⟨m', hn, fun h'' hs'' => fin D h'' tk (F'.change hs'' hCL hC₀) (fun p hp => ?_) o1⟩
    refine ⟨hs''.extBut _ _ ?_ (N' p hp).1, (N' p hp).2⟩
    rcases List.mem_cons.mp hp with rfl | hp
    · exact Ne.symm hCD
    · exact offC p hp
end
end Mine
end PartWC

noncomputable section PartWS
theorem Mine.resetWS : True := by (w_top off); k_with_none; first | (walk1; done) | trivial
set_option maxRecDepth 100000
set_option linter.all false
namespace Mine
open PySem PySem.W PyProof.Rows
section
variable {prog : Program} {w : World} {A : Around} {E : Value → Shared → Prop} {s : Shared} {t u : Tok} {Q : Value → Shared → Prop}
theorem len_W {W : List Nat} (hW : W.length ≤ 1000) (h : ∀ t' k, Q (.int W.length t') { s with toks := k }) : wpAny (model prog w) A (call (.builtin "len") [.str ⟨W.toArray⟩ t]) Q E s := by
  refine P.len_str (x := ⟨W.toArray⟩) ?_ ?_
  · have : (⟨W.toArray⟩ : Str).length = W.length := by simp [Str.length]
    rw [this]; omega
  · have : (⟨W.toArray⟩ : Str).length = W.length := by simp [Str.length]
    rw [this]; exact h _ _
theorem item_W {value slice : PySem.Expr} {W : List Nat} {i : Int} (hW : W.length ≤ 1000) (h0 : 0 ≤ i) (h1 : i < W.length) (h : ∀ t' k, Q (.str (sg (W.getD i.toNat 0)) t') { s with toks := k })
    (hs : subscripted slice false (.str ⟨W.toArray⟩ t) (.int i u) = operate [.str ⟨W.toArray⟩ t, .int i u] (getItem (.str ⟨W.toArray⟩ t) (.int i u)) := by with_unfolding_all rfl)
    (ht : ∀ r, letTemporaryGo value (.str ⟨W.toArray⟩ t) r = pure () := by intro _; with_unfolding_all rfl) :
    wpAny (model prog w) A (subscriptTail value slice (.str ⟨W.toArray⟩ t) (.int i u)) Q E s := by
  have hl : (⟨W.toArray⟩ : Str).length = W.length := by simp [Str.length]
  refine KXi.item (n := W.length) hl (by omega) h1 (by omega) (fun _ => ?_) hs ht
  have e : Txt.item ⟨W.toArray⟩ i = sg (W.getD i.toNat 0) := by
    unfold Txt.item Txt.charAt
    have : seqIndex? i (⟨W.toArray⟩ : Str).length = some i.toNat := by
      rw [hl]
      unfold seqIndex?
      rw [if_neg (by omega : ¬ i < 0)]
      have : (decide (0 ≤ i) && decide (i < (W.length : Int))) = true := by rw [Bool.and_eq_true, decide_eq_true_eq, decide_eq_true_eq]; exact ⟨h0, h1⟩
      rw [if_pos this]
    rw [this]
    show sg (((W.toArray)[i.toNat]?).getD 0) = _
    rw [List.getElem?_toArray, List.getD_eq_getElem?_getD]
  rw [e]; exact h _ _
/-- one step: 1 where the word falls (or rises) -/
noncomputable def fallV (tu : Int) (a b : Nat) : Int := if tu * (b2i (decide (b < a)) - b2i (decide (a < b))) > 0 then tu * (b2i (decide (b < a)) - b2i (decide (a < b))) else 0
noncomputable def stp (tu : Int) (W : List Nat) (k : Nat) : Int := if k = 0 then 0 else fallV tu (W.getD (k - 1) 0) (W.getD k 0)
noncomputable def steps (tu : Int) (W : List Nat) (j : Nat) : List Int := (List.range j).map (stp tu W)
theorem fall_01 {tu : Int} (h : tu = 1 ∨ tu = -1) (a b : Nat) : fallV tu a b = 0 ∨ fallV tu a b = 1 := by
  unfold fallV
  rcases h with rfl | rfl <;> by_cases h1 : b < a <;> by_cases h2 : a < b <;> simp [h1, h2, b2i] <;> omega
theorem stp_01 {tu : Int} (h : tu = 1 ∨ tu = -1) (W : List Nat) (k : Nat) : stp tu W k = 0 ∨ stp tu W k = 1 := by
  unfold stp
  split
  · exact .inl rfl
  · exact fall_01 h _ _
theorem steps_succ (tu : Int) (W : List Nat) (j : Nat) : steps tu W (j + 1) = steps tu W j ++ [stp tu W j] := by
  unfold steps; rw [List.range_succ, List.map_append]; rfl
theorem stp_at {tu : Int} {W : List Nat} {i : Nat} : (if tu * (b2i (decide (W.getD (1 + (i : Int)).toNat 0 < W.getD (1 + (i : Int) - 1).toNat 0)) - b2i (decide (W.getD (1 + (i : Int) - 1).toNat 0 < W.getD (1 + (i : Int)).toNat 0))) > 0 then tu * (b2i (decide (W.getD (1 + (i : Int)).toNat 0 < W.getD (1 + (i : Int) - 1).toNat 0)) - b2i (decide (W.getD (1 + (i : Int) - 1).toNat 0 < W.getD (1 + (i : Int)).toNat 0))) else 0) = stp tu W (i + 1) := by
  have e1 : (1 + (i : Int)).toNat = i + 1 := by omega
  have e2 : (1 + (i : Int) - 1).toNat = i := by omega
  rw [e1, e2]; rfl
theorem steps_len (tu : Int) (W : List Nat) (j : Nat) : (steps tu W j).length = j := by unfold steps; simp
theorem steps_mem {tu : Int} (h : tu = 1 ∨ tu = -1) {W : List Nat} {j : Nat} {n : Int} (hn : 5 ≤ n ∧ n ≤ 12) : ∀ x ∈ steps tu W j, 0 ≤ x ∧ x < 2 ^ n.toNat := by
  intro x hx
  obtain ⟨k, _, rfl⟩ := List.mem_map.mp hx
  have := pow_bnd hn
  rcases stp_01 h W k with e | e <;> rw [e] <;> omega
theorem pow_w {n : Int} (hn : 5 ≤ n ∧ n ≤ 12) (h : ∀ t' k, Q (.int (2 ^ n.toNat) t') { s with toks := k }) : wpAny (model prog w) A (binaryOp .Pow (.int 2 t) (.int n u)) Q E s := by
  refine AutoIntOps.pow_4 (by omega) (by simp; omega) (by decide) (by decide) ?_ (h _ _)
  have : Builtin.Int.intBits 2 = 2 := by decide +kernel
  rw [this]
  have e := dis512 hn
  rcases e with rfl | rfl | rfl | rfl | rfl | rfl | rfl | rfl <;> decide +kernel
theorem iter_n {h₀ : Heap} {m : Str → Option Value} {news : List (Addr × Obj)} {env : Env} {x : Str} {body : List Stmt} {QF : Flow → Shared → Prop} {r : Addr} {a b : Int} {t₀ u₀ v₀ : Tok} (hh : A.handled = none) (hr : IsRange s.heap r a b 1 t₀ u₀ v₀) (hz : (a = 0 ∨ a = 1) ∧ a ≤ b ∧ b ≤ 8) (F : Fr h₀ env.locals s.heap m) (N : News h₀ env.locals s.heap news)
    (rest : ∀ I : Addr, (∀ p ∈ news, p.1 < I) → RangeRest prog w A E h₀ env x body QF s I a (b - a).toNat (b - a).toNat 0 m news) :
    wpAny (model prog w) A (pyIter (.ref r)) (fun it s₂ => LoopAtV prog w A h₀ env x body QF E it s₂) E s := by
  refine iter_rangeUnr hh hr ?_ ?_ F N rest
  · have hb := dis08 (Int.le_trans (by rcases hz.1 with e | e <;> rw [e] <;> decide) hz.2.1) hz.2.2
    rcases hz.1 with rfl | rfl <;> rcases hb with rfl | rfl | rfl | rfl | rfl | rfl | rfl | rfl | rfl <;> decide
  · unfold Builtin.Range.rangeSize
    simp only [show (1 : Int) > 0 by decide, if_true]
    split <;> simp <;> omega
end
section
variable {w : World} {act : List (Addr × Obj)} {dp un : Nat} {gd : Option (List Code)} {cn : Str} {cs : Scope} {a : Addr} {ccd : Value} {cl : List (Str × Addr)} {outer : List Env} {A₀ : Around} {base h₀ : Heap} {L : Addr} {m : Str → Option Value} {s : Shared}
    {loose : List Str} {mean : ExcName → Option Value} {mg mb : Str → Option Value} {Q E : Value → Shared → Prop} {x y : Nat} {t u : Tok}
theorem coll_use (B : Below A₀ base outer h₀) (F : Fr h₀ L s.heap m) (X : (KA w.params).In h₀) (N : News h₀ L s.heap act) (T : Top topProg loose mean mg mb h₀) (hk : cs.kind = .function) (hd : dp + 40 < recursionLimit) (hu : un + 400 < cLine)
    (hR : ∀ tk h' tk', Fr h₀ L h' m → News h₀ L h' act → Q (.int (b2i (decide (y < x)) - b2i (decide (x < y))) tk) { s with heap := h', toks := tk' }) :
    wpAny (model PySem.Challenge.rw_ul0025_01.row.prog w) (ktrTop dp un gd cn cs L a ccd cl outer) (call (.ref 63) [.str (sg x) t, .str (sg y) u]) Q E s :=
  (coll_ctr w (sg x) (sg y) t u).use B F X N T hk hd hu (fun v own h' tk' ⟨⟨tk, e1⟩, e2⟩ F' N' _ => by
    subst e1; subst e2
    have h1 : ∀ p q : Nat, decide ((sg p).cps.toList < (sg q).cps.toList) = decide (p < q) := by
      intro p q
      have : ((sg p).cps.toList < (sg q).cps.toList) ↔ p < q := by
        show [p] < [q] ↔ _
        constructor
        · intro h
          cases h with
          | rel h => exact h
          | cons h => cases h
        · intro h; exact .rel h
      exact decide_eq_decide.mpr this
    have := hR tk h' tk' F' N'
    rw [h1, h1]; exact this)
end
local macro_rules | `(tactic| tb_start) => `(tactic| ((repeat (apply Cx.cons)); exact Cx.nil))
local macro_rules | `(tactic| tb_rel) => `(tactic| first | exact List.forall_mem_nil _ | (refine' List.forall_mem_cons.mpr ⟨⟨?a1, ?a2⟩, ?b⟩; (case a1 | a2 => k_ne); (case b => tb_rel)))
end Mine
end PartWS

noncomputable section PartWS2
theorem Mine.resetWS2 : True := by (w_top off); k_with_none; first | (walk1; done) | trivial
set_option maxRecDepth 100000
set_option linter.all false
namespace Mine
open PySem PySem.W PyProof.Rows
theorem off_two {b : Addr} {news zn act : List (Addr × Obj)} (hz : TabZ news zn) (hs : ∀ p ∈ zn, p ∈ act) (h : ∀ p ∈ act, p.1 ≠ b) : @Ne Nat b 30 ∧ @Ne Nat b 37 := by
  obtain ⟨Y, X, hY, hX, rfl, _⟩ := hz
  have h30 : ∃ o, ((30 : Addr), o) ∈ Y := by
    rcases hY.2 with e | ⟨c', oc, vs, t, e, _⟩
    · exact ⟨_, by rw [e]; exact .head _⟩
    · exact ⟨_, by rw [e]; exact .head _⟩
  have h37 : ∃ o, ((37 : Addr), o) ∈ X := by
    rcases hX.2 with e | ⟨c', oc, vs, t, e, _⟩
    · exact ⟨_, by rw [e]; exact .head _⟩
    · exact ⟨_, by rw [e]; exact .head _⟩
  obtain ⟨o, h30⟩ := h30
  obtain ⟨o', h37⟩ := h37
  exact ⟨fun e => h _ (hs _ (mem_app.mpr (.inl h30))) e.symm, fun e => h _ (hs _ (mem_app.mpr (.inr (mem_app.mpr (.inl h37))))) e.symm⟩
theorem d2i_bnd {W : List Nat} (hW : W.length ≤ 6) (hl : ∀ c ∈ W, 97 ≤ c ∧ c < 123) : (W.map fun (c : Nat) => (c : Int) - 97).length ≤ 6 ∧ ∀ x ∈ (W.map fun (c : Nat) => (c : Int) - 97), 0 ≤ x ∧ x < 2 ^ Int.toNat 5 := by
  refine ⟨by simpa using hW, fun x hx => ?_⟩
  obtain ⟨c, hc, rfl⟩ := List.mem_map.mp hx
  have := hl c hc
  have e : (2 : Int) ^ Int.toNat 5 = 32 := by decide
  rw [e]; omega
theorem dval_lt6 {b : Int} (hb : 0 < b) {l : List Int} (h : ∀ x ∈ l, 0 ≤ x ∧ x < b) (hl : l.length ≤ 6) : 0 ≤ dval b l ∧ dval b l < b ^ 6 := by
  obtain ⟨h1, h2⟩ := dval_bound (Int.le_of_lt hb) h
  refine ⟨h1, Int.lt_of_lt_of_le h2 ?_⟩
  obtain ⟨b', rfl⟩ : ∃ b' : Nat, b = b' := ⟨b.toNat, by omega⟩
  exact_mod_cast Nat.pow_le_pow_right (by omega) hl
theorem div_lt6 {x y z : Int} (hx : 0 ≤ x ∧ x < z) (hy : 0 < y) : 0 ≤ x / y ∧ x / y < z := ⟨Int.ediv_nonneg hx.1 (Int.le_of_lt hy), Int.lt_of_le_of_lt (Int.ediv_le_self _ hx.1) hx.2⟩
section
variable {w : World} {act zn pre news : List (Addr × Obj)} {dp un : Nat} {gd : Option (List Code)} {cn : Str} {cs : Scope} {a : Addr} {ccd : Value} {cl : List (Str × Addr)} {outer : List Env} {A₀ : Around} {base h₀ : Heap} {L : Addr} {m : Str → Option Value} {s : Shared} {loose : List Str} {mean : ExcName → Option Value} {mg mb : Str → Option Value} {Q E : Value → Shared → Prop}
theorem idm_use (B : Below A₀ base outer h₀) (F : Fr h₀ L s.heap m) (X : (KA w.params).In h₀) (N : News h₀ L s.heap act) (T : Top topProg loose mean mg mb h₀) (hk : cs.kind = .function) (cx : Cx zn act pre) (hz : TabZ news zn) (hp : Off pre) (C1 : CodeHd base 34 30) (C2 : CodeHd base 41 37) {x y n : Int} {tx ty : Tok} (hy : y = 2 ^ n.toNat - 1) (hn : 5 ≤ n ∧ n ≤ 12) (hx : 0 ≤ x ∧ x < (2 ^ n.toNat) ^ 6) (hd : dp + 70 < recursionLimit) (hu : un + 16 * 70 < cLine)
    (hR : ∀ d t1 t2 zn' h' tk', @LT.lt Nat _ 37 d → TabZ news zn' → Fr h₀ L h' m → News h₀ L h' ((d, tupObj #[.int (x / y) t1, .int (x % y) t2] 0) :: (pre ++ zn')) → Q (.ref d) { s with heap := h', toks := tk' }) :
    wpAny (model PySem.Challenge.rw_ul0025_01.row.prog w) (ktrTop dp un gd cn cs L a ccd cl outer) (call (.ref 56) [.int x tx, .int y ty]) Q E s := by
  subst hy
  exact CtrZ.use B F X N cx hz hp (idm_z w x n tx ty _ hn hx.1 hx.2) T C1 C2 hk hd hu (by
    rintro v own zn' h' tk' ⟨d, t1, t2, rfl, rfl, g⟩ hz' F' N'
    exact hR d t1 t2 zn' h' tk' g hz' F' N')
end
local macro_rules | `(tactic| tb_start) => `(tactic| ((repeat (apply Cx.cons)); exact Cx.nil))
local macro_rules | `(tactic| tb_rel) => `(tactic| first | exact List.forall_mem_nil _ | (refine' List.forall_mem_cons.mpr ⟨⟨?a1, ?a2⟩, ?b⟩; (case a1 | a2 => first | with_reducible assumption | k_ne); (case b => tb_rel)))
local macro_rules | `(tactic| ktr_rel) => `(tactic| first | exact al0 (by with_reducible assumption) | exact al1 (by with_reducible assumption) | exact al2 (by with_reducible assumption) | exact al3 (by with_reducible assumption) | exact al4 (by with_reducible assumption) | exact al5 (by with_reducible assumption) | exact al6 (by with_reducible assumption) | exact al7 (by with_reducible assumption))
local macro_rules | `(tactic| k_all) => `(tactic| ktr_rel)
local macro_rules | `(tactic| k_room) => `(tactic| ktr_room)
local macro_rules | `(tactic| walk_at $s:str) => `(tactic| k_extra $s)
theorem wordWS2_0 : True := by k_with_none; trivial
theorem wordWS2_1 : True := by (k_with "UnrEnd" => ((k_dflt (refine' unrEnd_drp ?wqF ?wqN ?wqd ?wqoff ?_; (case wqF => k_asm); (case wqN => k_asm); (case wqd => (repeat (first | exact Drp.here | apply Drp.there))); (case wqoff => k_all))))); trivial
theorem wordWS2_2 : True := by (k_with "eval ListComp" => ((k_here; (with_reducible show wpAny _ _ (eval (PySem.Expr.ListComp (PySem.Expr.BinOp _ _ _ _) _ _ _) _) _ _ _); k_dflt (refine listcomp_txt (F₀ := by k_asm) (by with_unfolding_all rfl) (by decide) (by rfl) (by decide) (by rfl) ?_)))); trivial
theorem TxtSrc.intro {prog : Program} {w : World} {A : Around} {h₀ : Heap} {L : Addr} {m : Str → Option Value} {env : Env} {elt : PySem.Expr} {x : Str} {scope : Scope} {cl : List (Str × Addr)} {Q : Value → Shared → Prop} {s₁ : Shared} {T : List Nat} {tt : Tok} (f : Nat → Int) {news : List (Addr × Obj)} (hh : A.handled = none) (F : Fr h₀ L s₁.heap m) (N : News h₀ L s₁.heap news) (hl : ∀ c ∈ T, 97 ≤ c ∧ c < 123) (hlen : T.length ≤ 1000)
    (step : ∀ (s : Shared) (c : Nat) (u : Tok) I oI C oC D m₂ h tk ys (Qr E' : Value → Shared → Prop), c ∈ T → LCg.NsObj oC m₂ → m₂ x = some (.str (sg c) u) → Fr h₀ L h m → News h₀ L h ((I, oI) :: (C, oC) :: (D, LCg.lst ys) :: news) →
      (∀ t h' tk', Fr h₀ L h' m → News h₀ L h' ((I, oI) :: (C, oC) :: (D, LCg.lst ys) :: news) → Qr (.int (f c) t) { s with heap := h', toks := tk' }) →
      wpAny (model prog w) A (eval elt (compEnvC scope cl C env)) Qr E' { s with heap := h, toks := tk })
    (fin : ∀ D h tk vs, IntsAre vs (T.map f) → Fr h₀ L h m → News h₀ L h ((D, LCg.lst vs) :: news) → (∀ p ∈ news, p.1 ≠ D) → Q (.ref D) { s₁ with heap := h, toks := tk }) :
    TxtSrc prog w A h₀ L m env elt x scope cl Q (.str ⟨T.toArray⟩ tt) s₁ :=
  ⟨T, tt, f, news, rfl, hh, F, N, fun c hc => Nat.lt_trans (hl c hc).2 (by decide), hlen, step, fin⟩
theorem wordWS2_3 : True := by (k_with "TxtSrc" => ((k_dflt (refine' TxtSrc.intro (fun (c : Nat) => (c : Int) - 97) ?wqhh ?wqF ?wqN ?wqhl ?wqlen ?wqst ?wqfi; (case wqhh => with_unfolding_all rfl); (case wqF => k_asm); (case wqN => k_asm); (case wqhl => with_reducible assumption); (case wqlen => omega)); (case' wqst => (intro s9 c9 u9 I9 oI9 C9 oC9 D9 m9 h9 tk9 ys9 Qr9 E9 hc9 hC9 hx9 F9 N9 hq9)); (case' wqfi => (intro D9 h9 tk9 vs9 hI9 F9 N9 o9; (try (obtain ⟨q91, q92⟩ := off_two (by with_reducible assumption) (by (repeat (first | exact fun _ h => h | refine sub_t7 ?_))) o9))))))); trivial
theorem hy31 : (31 : Int) = 2 ^ Int.toNat 5 - 1 := by decide
theorem h5 : (5 : Int) ≤ 5 ∧ (5 : Int) ≤ 12 := by decide
theorem wordWS2_4 : True := by (k_with "call ref" => ((k_here; k_dflt (refine' d2i_use ?wqB ?wqF ?wqX ?wqN ?wqT ?wqkk ?wqcx ?wqhz ?wqhp ?wqC1 ?wqC2 ?wqhm ?wqq1 ?wqq2 ?wqq3 ?wqq4 ?wqhd ?wqhu ?_; (case wqB => k_asm); (case wqF => k_asm); (case wqX => k_asm); (case wqN => k_asm); (case wqT => k_asm); (case wqC1 => kn_code); (case wqC2 => kn_code); (case wqkk => first | exact rfl | assumption); (case wqhd => exact room_sub (by assumption) (by decide)); (case wqhu => exact units_sub (by assumption) (by decide)); (case wqcx => tb_start); (case wqhz => assumption); (case wqhp => tb_rel); (case wqhm => k_mem); (case wqq1 => with_reducible assumption); (case wqq2 => with_reducible assumption); (case wqq3 => first | with_reducible assumption | exact h5); (case wqq4 => with_reducible assumption)); intro t9 zn9 h9 tk9 hz9 F9 N9; (try simp only [List.cons_append, List.nil_append] at N9)))); trivial
theorem wordWS2_5 : True := by (k_with "call ref" => ((k_here; k_dflt (refine' idm_use ?wqB ?wqF ?wqX ?wqN ?wqT ?wqkk ?wqcx ?wqhz ?wqhp ?wqC1 ?wqC2 ?wqq1 ?wqq2 ?wqq3 ?wqhd ?wqhu ?_; (case wqB => k_asm); (case wqF => k_asm); (case wqX => k_asm); (case wqN => k_asm); (case wqT => k_asm); (case wqC1 => kn_code); (case wqC2 => kn_code); (case wqkk => first | exact rfl | assumption); (case wqhd => exact room_sub (by assumption) (by decide)); (case wqhu => exact units_sub (by assumption) (by decide)); (case wqcx => tb_start); (case wqhz => assumption); (case wqhp => tb_rel); (case wqq1 => first | exact hy31 | exact rfl); (case wqq2 => first | with_reducible assumption | exact h5); (case wqq3 => with_reducible assumption)); intro d9 t9 u9 zn9 h9 tk9 g9 hz9 F9 N9; (try simp only [List.cons_append, List.nil_append] at N9)))); trivial
theorem wordWS2_6 : True := by (k_with "call ref" => ((k_here; k_dflt (refine' coll_use ?wqB ?wqF ?wqX ?wqN ?wqT ?wqkk ?wqhd ?wqhu ?_; (case wqB => k_asm); (case wqF => k_asm); (case wqX => k_asm); (case wqN => k_asm); (case wqT => k_asm); (case wqkk => first | exact rfl | assumption); (case wqhd => exact room_sub (by assumption) (by decide)); (case wqhu => exact units_400 (by assumption) (by decide))); intro t9 h9 tk9 F9 N9))); trivial
theorem wordWS2_7 : True := by (k_with "call builtin:len" => ((k_here; (with_reducible show wpAny _ _ (call (Value.builtin "len") [Value.str ⟨List.toArray _⟩ _]) _ _ _); k_dflt (refine' len_W ?wqh ?_; (case wqh => omega); k_whole); intro _ _))); trivial
theorem wordWS2_8 : True := by (k_with "binaryOp Pow int int" => ((k_here; k_dflt (refine' pow_w ?wqh ?_; (case wqh => with_reducible assumption); k_whole); intro _ _))); trivial
theorem wordWS2_9 : True := by (k_with "pyIter ref" => ((k_here; (with_reducible show wpAny _ _ (pyIter _) (fun it s₂ => LoopAtV _ _ _ _ _ _ _ _ _ it s₂) _ _); k_dflt (refine' iter_n ?wqhh ?wqhr ?wqhz ?wqF ?wqN ?_; (case wqhh => with_unfolding_all rfl); (case wqhr => assumption); (case wqhz => exact ⟨.inr rfl, by omega, by omega⟩); (case wqF => k_asm); (case wqN => k_asm); k_whole); intro I' l1; (try k_lt l1)))); trivial
theorem wordWS2_10 : True := by (k_with "subscriptTail Name Name str int" => ((k_here; k_dflt (refine' item_W ?wqa ?wqb ?wqc ?_ ?wqd ?wqe; (case wqa => omega); (case wqb => omega); (case wqc => omega); (case wqd => with_unfolding_all rfl); (case wqe => intro _; with_unfolding_all rfl); k_whole); intro _ _))); trivial
theorem wordWS2_11 : True := by (k_with "subscriptTail Name BinOp str int" => ((k_here; k_dflt (refine' item_W ?wqa ?wqb ?wqc ?_ ?wqd ?wqe; (case wqa => omega); (case wqb => omega); (case wqc => omega); (case wqd => with_unfolding_all rfl); (case wqe => intro _; with_unfolding_all rfl); k_whole); intro _ _))); trivial
theorem wordWS2_12 : True := by (k_with "call builtin:list.append" => ((k_here; k_dflt (refine' app_last ?wqF ?wqN ?wqb ?wqU ?_; (case wqF => k_asm); (case wqN => k_asm); (case wqb => with_reducible assumption); (case wqU => k_upd); k_whole); intro h' F' N'))); trivial
theorem wordWS2_13 : True := by (k_with "call type:range" => ((k_here; k_dflt (refine' range2_rows ?wqF ?wqN ?_; (case wqF => k_asm); (case wqN => k_asm); k_whole); intro _ _ _ _ _ _ _ _ _))); trivial
noncomputable def sentN (W : List Nat) : Int := dval (2 ^ Int.toNat 5) (W.map fun (c : Nat) => (c : Int) - 97)
noncomputable def sentP (tu n : Int) (W : List Nat) : Int := dval (2 ^ n.toNat) (steps tu W W.length)
set_option maxHeartbeats 4000000 in
theorem sent_z (w : World) (W : List Nat) (hW : 2 ≤ W.length ∧ W.length ≤ 6) (hl : ∀ c ∈ W, 97 ≤ c ∧ c < 123) (n : Int) (hn : 5 ≤ n ∧ n ≤ 12) (tu : Int) (htu : tu = 1 ∨ tu = -1) (tw tn tt : Tok) (news : List (Addr × Obj)) :
    CtrZ w 167 [.str ⟨W.toArray⟩ tw, .int n tn, .int tu tt] 100 news (fun v own => ∃ D t1 t2, v = .ref D ∧ own = [(D, tupObj #[.int (sentN W % 31) t1, .int (sentP tu n W / (2 ^ n.toNat - 1) % (2 ^ n.toNat - 1)) t2] 0)] ∧ @LT.lt Nat _ 37 D) := by
  have f1 := (d2i_bnd hW.2 hl).1
  have f2 := (d2i_bnd hW.2 hl).2
  have x1 := dval_lt6 (b := 2 ^ Int.toNat 5) (by decide) f2 f1
  have g1 : (steps tu W W.length).length ≤ 6 := by rw [steps_len]; exact hW.2
  have g2 := steps_mem htu (W := W) (j := W.length) hn
  have hb := pow_bnd hn
  have x2 := dval_lt6 (b := 2 ^ n.toNat) (by omega) g2 g1
  have x3 := div_lt6 (y := 2 ^ n.toNat - 1) x2 (by omega)
  intro zn hz
  unfold CtrN
  k_fill
  intro dp un gd cn cs a ccd cl outer A₀ base h₀ L m s loose mean mg mb Q E B F X N T C1 C2 hk hd hu hret
  refine wpAny_call ?_
  k_dflt cell_enter
  k_steps
  · rename_i h9a tk9a t9a zn9a h9b tk9b hz9a hxz tkz hxa tka l9 hxb l1b hxc lF9 N9 tb kb hxd tkd ta ua va R9 F9 N9b k9
    clear R9 k9
    refine range1 (Str.ofString "k") (S := List Value × Nat) (fun st => (l9, listOf st.1.toArray st.2) :: (d9, _) :: (D9, LCg.lst vs9) :: zn9)
      (fun i _ st => IntsAre st.1 (steps tu W (i + 1))) ([Value.int 0 _], 0) rfl ?start ?zero ?succ
    case start => exact .cons 0 _ .nil
    case zero =>
      rintro o1 ⟨vs, kk⟩ hI
      have e : ((W.length : Int) - 1).toNat + 1 = W.length := by omega
      rw [e] at hI
      dsimp only at hI ⊢
      k_steps
      rename News _ _ _ _ => N9
      refine hret _ _ _ _ ⟨[_], _, by assumption, ⟨_, _, _, rfl, rfl, ltN ?_⟩, rfl⟩ (by assumption) (News.sub N9 (sub2 (by k_mem) (by (repeat (first | exact fun _ h => h | refine sub_t7 ?_)))))
      omega
    case succ =>
      rintro k i o1 ⟨vs, kk⟩ hi hI ih
      dsimp only at hI ⊢
      have q1 : vs.length ≤ 1000 := by
        have := hI.length
        rw [steps_len] at this
        omega
      k_steps
      rw [stp_at]
      refine ih _ _ (vs ++ [Value.int (stp tu W (i + 1)) _], kk + 1) ?_ (fun y e1 => ?_) (fun p hp => hp)
      · show IntsAre _ _
        rw [steps_succ]
        exact hI.append (.cons _ _ .nil)
      · ((repeat (refine (if_neg (by assumption)).trans ?_)); refine Eq.symm ?_; (repeat (refine (if_neg (by assumption)).trans ?_)); exact rfl)
  · exact hq9 _ _ _ (by assumption) (by assumption)
end Mine
end PartWS2

noncomputable section PartWF1
theorem Mine.resetWF1 : True := by (w_top off); k_with_none; first | (walk1; done) | trivial
set_option maxRecDepth 100000
set_option linter.all false
namespace Mine
open PySem PySem.W PyProof.Rows
section
variable {prog : Program} {w : World} {A : Around} {E : Value → Shared → Prop} {s : Shared} {h₀ : Heap} {env : Env}
noncomputable abbrev lst0 (vs : List Value) (k : Nat) : Obj := { cls := .type "list", data := .seq vs.toArray k }
noncomputable def CPost {S : Type} (h₀ : Heap) (L : Addr) (m0 : Str → Option Value) (n1 n2 : Str) (s : Shared) (ld : S → List (Addr × Obj)) (tl : List (Addr × Obj)) (J : S → Prop) (f : Flow) (s₃ : Shared) : Prop :=
  f = .next ∧ ∃ h' tk' m' st', s₃ = { s with heap := h', toks := tk' } ∧ Fr h₀ L h' m' ∧ (∀ y, y ≠ n1 → y ≠ n2 → m' y = m0 y) ∧ News h₀ L h' (ld st' ++ tl) ∧ J st'
theorem CPost.intro {S : Type} {h₀ : Heap} {L : Addr} {m0 m' : Str → Option Value} {n1 n2 : Str} {s : Shared} {ld : S → List (Addr × Obj)} {tl : List (Addr × Obj)} {J : S → Prop} {h' : Heap} {tk' : Nat} (st' : S) (F : Fr h₀ L h' m') (hm : ∀ y, y ≠ n1 → y ≠ n2 → m' y = m0 y) (N : News h₀ L h' (ld st' ++ tl)) (hJ : J st') :
    CPost h₀ L m0 n1 n2 s ld tl J .next { s with heap := h', toks := tk' } := ⟨rfl, h', tk', m', st', rfl, F, hm, N, hJ⟩
/-- a loop over a list whose name is a cell's, by a state -/
theorem for_cell {x : Str} {px pos : Pos} {iter : PySem.Expr} {body : List Stmt} {Q : Flow → Shared → Prop} {t : Addr} {vs : List Value} {k : Nat} {news : List (Addr × Obj)} {S : Type} (ld : S → List (Addr × Obj)) (addrs : List Addr) (had : ∀ st, (ld st).map (·.1) = addrs) (Inv : Nat → S → Prop) (s0 : S) (n1 n2 : Str) {m0 : Str → Option Value}
    (hh : A.handled = none) (F : Fr h₀ env.locals s.heap m0) (N : News h₀ env.locals s.heap (ld s0 ++ (t, lst0 vs k) :: news)) (ht : t ∉ addrs) (hn : ∀ q ∈ news, q.1 ∉ addrs)
    (hiter : ∀ Q' : Value → Shared → Prop, Q' (.ref t) s → wpAny (model prog w) A (eval iter env) Q' E s) (hI : Inv 0 s0)
    (turn : ∀ i v o1 o2 st tl h tk, vs[i]? = some v → Inv i st → Fr h₀ env.locals h (upd2 m0 n1 n2 o1 o2) → News h₀ env.locals h (ld st ++ tl) → (∀ q ∈ tl, q.1 ∉ addrs) →
      wpAny (model prog w) A (storeName env x v) (fun _ s₂ => wpAny (model prog w) A (execs body env) (CPost h₀ env.locals m0 n1 n2 s ld tl (Inv (i + 1))) E s₂) E { s with heap := h, toks := tk })
    (fin : ∀ o1 o2 st h tk, Inv vs.length st → Fr h₀ env.locals h (upd2 m0 n1 n2 o1 o2) → News h₀ env.locals h (ld st ++ (t, lst0 vs k) :: news) → Q .next { s with heap := h, toks := tk })
    (hs : ∀ x, foldedSetIterable iter env x = pure x) (hE : PassesOwn (model prog w) A env E) :
    wpAny (model prog w) A (exec (.For (.Name x px) iter body [] pos) env) Q E s := by
  have hm : (t, lst0 vs k) ∈ ld s0 ++ (t, lst0 vs k) :: news := List.mem_append.mpr (.inr (.head _))
  have hl : s.heap.IsList t vs.toArray := ⟨_, (N _ hm).1, rfl, _, rfl⟩
  refine For_unrF (h₀ := h₀) F (hiter _ ?_) hs hE
  refine Iter_list_unr hh hl F N (N _ hm).2.1 ?_
  have hadr : ∀ b ∈ addrs, b < s.heap.objs.size := by
    intro b hb
    rw [← had s0] at hb
    obtain ⟨p, hp, rfl⟩ := List.mem_map.mp hb
    exact Heap.lt_size (N p (List.mem_append.mpr (.inl hp))).1
  have key : ∀ (j i : Nat) (m : Str → Option Value) st, i + j = vs.length → Inv i st → (∀ y, y ≠ n1 → y ≠ n2 → m y = m0 y) →
      Unr prog w A E h₀ env (.Name x px) body Q (fun i v => vs.toArray[i]? = some v) [s.heap.objs.size, t] { s with heap := s.heap.push { cls := .type "list_iterator", data := .fields #[.ref t, .int 0 0] } } j i m (ld st ++ (t, lst0 vs k) :: news) := by
    intro j
    induction j with
    | zero =>
      intro i m st hi hI hm'
      refine Unr.zero (fun h' tk F' N' => ?_)
      have e : i = vs.length := by omega
      subst e
      have F2 : Fr h₀ env.locals h' (upd2 m0 n1 n2 (m n1) (m n2)) := by rw [upd2_of hm']; exact F'
      exact fin _ _ st h' tk hI F2 N'
    | succ j ih =>
      intro i m st hi hI hm'
      refine Unr.succ (fun v h₁ tk₁ own hv hown F' N' => ?_)
      have F2 : Fr h₀ env.locals h₁ (upd2 m0 n1 n2 (m n1) (m n2)) := by rw [upd2_of hm']; exact F'
      have hv' : vs[i]? = some v := by simpa using hv
      have hoff : ∀ q ∈ own ++ (t, lst0 vs k) :: news, q.1 ∉ addrs := by
        intro q hq
        rcases List.mem_append.mp hq with hq | hq
        · have := hown q hq
          rcases List.mem_cons.mp this with e | e
          · intro hb
            exact absurd (hadr _ hb) (by rw [e]; exact Nat.lt_irrefl _)
          · rw [List.mem_singleton.mp e]; exact ht
        · rcases List.mem_cons.mp hq with rfl | hq
          · exact ht
          · exact hn q hq
      have N2 : News h₀ env.locals h₁ (ld st ++ (own ++ (t, lst0 vs k) :: news)) := fun p hp => N' p (by
        simp only [List.mem_append] at hp ⊢
        rcases hp with h | h | h
        · exact .inr (.inl h)
        · exact .inl h
        · exact .inr (.inr h))
      refine wpAny_assign_Name (wpAny_mono (turn i v _ _ st _ h₁ tk₁ hv' hI F2 N2 hoff) (fun _ s₂ h₂ => wpAny_mono h₂ (fun f s₃ h₃ => ?_) fun _ _ e => e) fun _ _ e => e)
      obtain ⟨rfl, h', tk', m', st', rfl, F3, hm3, N3, hI3⟩ := h₃
      refine LoopStep3.next ⟨rfl, h', tk', m', ld st' ++ (t, lst0 vs k) :: news, rfl, F3, fun p hp => N3 p ?_, ?_, ih (i + 1) m' st' (by omega) hI3 hm3⟩
      · simp only [List.mem_append] at hp ⊢
        rcases hp with h | h | h
        · exact .inr (.inl h)
        · exact .inl h
        · exact .inr (.inr h)
      · rw [List.map_append, List.map_append, had, had]
  have := key vs.length 0 m0 s0 (by omega) hI (fun _ _ _ => rfl)
  rw [List.size_toArray]
  exact this
end
section
variable {prog : Program} {w : World} {A : Around} {E : Value → Shared → Prop} {s s₁ : Shared} {h₀ : Heap} {L : Addr} {m : Str → Option Value} {env : Env}
/-- a block over a range: each turn gives a text -/
theorem src_rng {elt : PySem.Expr} {x : Str} {scope : Scope} {cl : List (Str × Addr)} {Fin : Shared → List Value → List (Addr × Obj) → Prop} {r : Addr} {a b : Int} {t u v : Tok} {news : List (Addr × Obj)} (f : Nat → List Nat)
    (hh : A.handled = none) (F : Fr h₀ L s₁.heap m) (N : News h₀ L s₁.heap news) (hr : IsRange s₁.heap r a b 1 t u v) (hz : (a = 0 ∨ a = 1) ∧ a ≤ b ∧ b ≤ 8)
    (step : ∀ (s : Shared) (i : Nat) (u : Tok) I oI C oC D m₂ h tk ys (Qr E' : Value → Shared → Prop), i < (b - a).toNat → LCg.NsObj oC m₂ → m₂ x = some (.int (a + (i : Int)) u) → Fr h₀ L h m → News h₀ L h ((I, oI) :: (C, oC) :: (D, LCg.lst ys) :: news) →
      (∀ t h' tk', Fr h₀ L h' m → News h₀ L h' ((I, oI) :: (C, oC) :: (D, LCg.lst ys) :: news) → Qr (.str ⟨(f i).toArray⟩ t) { s with heap := h', toks := tk' }) →
      wpAny (model prog w) A (eval elt (compEnvC scope cl C env)) Qr E' { s with heap := h, toks := tk })
    (fin : ∀ g vs, TxsAre vs ((List.range (b - a).toNat).map f) → Fin { s₁ with heap := g } vs news) :
    LCg.CompSrc prog w A h₀ L m env elt x scope cl Fin (.ref r) s₁ := by
  have hb := dis08 (Int.le_trans (by rcases hz.1 with e | e <;> rw [e] <;> decide) hz.2.1) hz.2.2
  refine LCg.CompSrc.range (n := (b - a).toNat) hh F N hr ?_ ?_ ?_ (fun g => ?_)
  · rcases hz.1 with rfl | rfl <;> rcases hb with rfl | rfl | rfl | rfl | rfl | rfl | rfl | rfl | rfl <;> decide
  · unfold Builtin.Range.rangeSize
    simp only [show (1 : Int) > 0 by decide, if_true]
    split <;> simp <;> omega
  · have : (1000 : Nat) ≤ sizeLine := by decide
    omega
  · have key : ∀ (k i : Nat) ys, i + k = (b - a).toNat → TxsAre ys ((List.range i).map f) → LCg.CompRest prog w A h₀ L m env elt x scope cl { s₁ with heap := g } (fun _ => True) (fun i v => ∃ t, v = .int (a + (i : Int)) t) (Fin { s₁ with heap := g }) k i ys news := by
      intro k
      induction k with
      | zero =>
        intro i ys hi h
        have e : i = (b - a).toNat := by omega
        subst e
        exact fin g ys h
      | succ k ih =>
        intro i ys hi h
        refine LCg.CompRest.succ (fun v I oI C oC D m₂ hh tk E' hP hC hx F N off ne => ?_)
        obtain ⟨u, rfl⟩ := hP
        refine step _ i u I oI C oC D m₂ hh tk ys _ E' (by omega) hC hx F N (fun t h' tk' F' N' => LCg.CompEnd.intro F' N' news (fun _ h => h) off trivial ?_)
        refine ih (i + 1) _ (by omega) ?_
        rw [List.range_succ, List.map_append]
        exact h.append (.cons _ _ .nil)
    exact key _ 0 [] (by omega) .nil
/-- a block over a range with a test: the range's own ints -/
theorem src_rngT {ct elt : PySem.Expr} {x : Str} {scope : Scope} {cl : List (Str × Addr)} {Fin : Shared → List Value → List (Addr × Obj) → Prop} {r : Addr} {a b : Int} {t u v : Tok} {news : List (Addr × Obj)} (p : Nat → Bool)
    (hh : A.handled = none) (F : Fr h₀ L s₁.heap m) (N : News h₀ L s₁.heap news) (hr : IsRange s₁.heap r a b 1 t u v) (hz : (a = 0 ∨ a = 1) ∧ a ≤ b ∧ b ≤ 8)
    (step : ∀ (s : Shared) (i : Nat) (u : Tok) I oI C oC D m₂ h tk ys (Qr : Bool → Shared → Prop) (E' : Value → Shared → Prop), i < (b - a).toNat → LCg.NsObj oC m₂ → m₂ x = some (.int (a + (i : Int)) u) → Fr h₀ L h m → News h₀ L h ((I, oI) :: (C, oC) :: (D, LCg.lst ys) :: news) →
      (∀ h' tk', Fr h₀ L h' m → News h₀ L h' ((I, oI) :: (C, oC) :: (D, LCg.lst ys) :: news) → Qr (p i) { s with heap := h', toks := tk' }) →
      wpAny (model prog w) A (isTrue ct (compEnvC scope cl C env) (eval ct (compEnvC scope cl C env))) Qr E' { s with heap := h, toks := tk })
    (step2 : ∀ (s : Shared) (i : Nat) (u : Tok) I oI C oC D m₂ h tk ys (Qr E' : Value → Shared → Prop), i < (b - a).toNat → LCg.NsObj oC m₂ → m₂ x = some (.int (a + (i : Int)) u) → Fr h₀ L h m → News h₀ L h ((I, oI) :: (C, oC) :: (D, LCg.lst ys) :: news) →
      (∀ t h' tk', Fr h₀ L h' m → News h₀ L h' ((I, oI) :: (C, oC) :: (D, LCg.lst ys) :: news) → Qr (.int (a + (i : Int)) t) { s with heap := h', toks := tk' }) →
      wpAny (model prog w) A (eval elt (compEnvC scope cl C env)) Qr E' { s with heap := h, toks := tk })
    (fin : ∀ g vs, IntsAre vs (((List.range (b - a).toNat).filter p).map fun (i : Nat) => a + (i : Int)) → Fin { s₁ with heap := g } vs news) :
    LCt.CompSrcT prog w A h₀ L m env ct elt x scope cl Fin (.ref r) s₁ := by
  have hb := dis08 (Int.le_trans (by rcases hz.1 with e | e <;> rw [e] <;> decide) hz.2.1) hz.2.2
  refine LCt.CompSrcT.range (n := (b - a).toNat) hh F N hr ?_ ?_ ?_ (fun g => ?_)
  · rcases hz.1 with rfl | rfl <;> rcases hb with rfl | rfl | rfl | rfl | rfl | rfl | rfl | rfl | rfl <;> decide
  · unfold Builtin.Range.rangeSize
    simp only [show (1 : Int) > 0 by decide, if_true]
    split <;> simp <;> omega
  · have : (1000 : Nat) ≤ sizeLine := by decide
    omega
  · have key : ∀ (k i : Nat) ys, i + k = (b - a).toNat → IntsAre ys (((List.range i).filter p).map fun (i : Nat) => a + (i : Int)) → LCt.CompRestT prog w A h₀ L m env ct elt x scope cl { s₁ with heap := g } (fun _ => True) (fun i v => ∃ t, v = .int (a + (i : Int)) t) (Fin { s₁ with heap := g }) k i ys news := by
      intro k
      induction k with
      | zero =>
        intro i ys hi h
        have e : i = (b - a).toNat := by omega
        subst e
        exact fin g ys h
      | succ k ih =>
        intro i ys hi h
        refine LCt.CompRestT.succ (fun v I oI C oC D m₂ hh tk E' hP hC hx F N off ne => ?_)
        obtain ⟨u, rfl⟩ := hP
        refine step _ i u I oI C oC D m₂ hh tk ys _ E' (by omega) hC hx F N (fun h' tk' F' N' => ?_)
        cases hp : p i with
        | true =>
          rw [if_pos rfl]
          refine step2 _ i u I oI C oC D m₂ h' tk' ys _ E' (by omega) hC hx F' N' (fun t h2 tk2 F2 N2 => LCg.CompEnd.intro F2 N2 news (fun _ h => h) off trivial ?_)
          refine ih (i + 1) _ (by omega) ?_
          rw [List.range_succ, List.filter_append, List.map_append]
          simp only [List.filter_cons, hp, if_true, List.filter_nil, List.map_cons, List.map_nil]
          exact h.append (.cons _ _ .nil)
        | false =>
          rw [if_neg Bool.false_ne_true]
          refine LCg.CompEnd.intro F' N' news (fun _ h => h) off trivial ?_
          refine ih (i + 1) _ (by omega) ?_
          rw [List.range_succ, List.filter_append, List.map_append]
          simp only [List.filter_cons, hp, List.filter_nil, List.map_nil, List.append_nil, Bool.false_eq_true, if_false]
          exact h
    exact key _ 0 [] (by omega) .nil
theorem sl_to {H : List Nat} {j : Int} (h : 0 ≤ j ∧ j ≤ H.length) : Txt.slice ⟨H.toArray⟩ none (some j) = ⟨(H.take j.toNat).toArray⟩ := by
  have := slice_closes_toL (x := ⟨H.toArray⟩) h.1 (by simpa [Str.length] using h.2)
  simpa using this
theorem sl_from {H : List Nat} {i : Int} (h : 0 ≤ i ∧ i ≤ H.length) : Txt.slice ⟨H.toArray⟩ (some i) none = ⟨(H.drop i.toNat).toArray⟩ := by
  have := slice_from_eq (x := ⟨H.toArray⟩) (b := H.length) h.1 (by simpa [Str.length] using h.2) (by simp [Str.length])
  rw [this]
  have e : ((H.length : Int) - i).toNat = H.length - i.toNat := by
    obtain ⟨i, rfl⟩ := Int.eq_ofNat_of_zero_le h.1
    rw [Int.toNat_sub, Int.toNat_natCast]
  rw [e]
  have : ((⟨H.toArray⟩ : Str).cps.toList.drop i.toNat).take (H.length - i.toNat) = H.drop i.toNat := by
    show (H.drop i.toNat).take _ = _
    exact List.take_of_length_le (by simp)
  rw [this]
end
end Mine
end PartWF1

noncomputable section PartWF3
theorem Mine.resetWF3 : True := by (w_top off); k_with_none; first | (walk1; done) | trivial
set_option maxRecDepth 100000
set_option linter.all false
namespace Mine
open PySem PySem.W PyProof.Rows
section
variable {prog : Program} {w : World} {A : Around} {E : Value → Shared → Prop} {s : Shared} {h₀ : Heap} {L : Addr} {m : Str → Option Value} {news : List (Addr × Obj)} {value slice : PySem.Expr} {H : List Nat} {t u : Tok} {j : Int} {Q : Value → Shared → Prop}
theorem cut_to (hH : H.length ≤ 1000) (hj : 0 ≤ j ∧ j ≤ H.length) (hF : Fr h₀ L s.heap m) (hN : News h₀ L s.heap news) (h : ∀ h' t' k, Fr h₀ L h' m → News h₀ L h' news → Q (.str ⟨(H.take j.toNat).toArray⟩ t') { s with heap := h', toks := k })
    (hs : subscripted slice false (.str ⟨H.toArray⟩ t) (.ref s.heap.objs.size) = operate [.ref s.heap.objs.size, .str ⟨H.toArray⟩ t] (getItem (.str ⟨H.toArray⟩ t) (.ref s.heap.objs.size)) := by with_unfolding_all rfl)
    (ht : ∀ r, letTemporaryGo value (.str ⟨H.toArray⟩ t) r = pure () := by intro _; with_unfolding_all rfl) :
    wpAny (model prog w) A (subscriptTail value slice (.str ⟨H.toArray⟩ t) (.ref s.heap.objs.size)) Q E { s with heap := s.heap.push { cls := .type "slice", data := .fields #[.none, .int j u, .none] } } :=
  slice_strN_ns (hsz := by have e : (1000 : Nat) ≤ sizeLine := by decide
                           simp only [Str.length, List.size_toArray]; omega) hF hN (fun h' t' k a b => by rw [sl_to hj]; exact h h' t' k a b) hs ht
theorem cut_from (hH : H.length ≤ 1000) (hj : 0 ≤ j ∧ j ≤ H.length) (hF : Fr h₀ L s.heap m) (hN : News h₀ L s.heap news) (h : ∀ h' t' k, Fr h₀ L h' m → News h₀ L h' news → Q (.str ⟨(H.drop j.toNat).toArray⟩ t') { s with heap := h', toks := k })
    (hs : subscripted slice false (.str ⟨H.toArray⟩ t) (.ref s.heap.objs.size) = operate [.ref s.heap.objs.size, .str ⟨H.toArray⟩ t] (getItem (.str ⟨H.toArray⟩ t) (.ref s.heap.objs.size)) := by with_unfolding_all rfl)
    (ht : ∀ r, letTemporaryGo value (.str ⟨H.toArray⟩ t) r = pure () := by intro _; with_unfolding_all rfl) :
    wpAny (model prog w) A (subscriptTail value slice (.str ⟨H.toArray⟩ t) (.ref s.heap.objs.size)) Q E { s with heap := s.heap.push { cls := .type "slice", data := .fields #[.int j u, .none, .none] } } :=
  slice_strN_sn (hsz := by have e : (1000 : Nat) ≤ sizeLine := by decide
                           simp only [Str.length, List.size_toArray]; omega) hF hN (fun h' t' k a b => by rw [sl_from hj]; exact h h' t' k a b) hs ht
end
noncomputable def FPar (f : Nat → List Nat) (short : Bool) : Prop := True
noncomputable def sumC (W : List Nat) : Int := (W.map fun (c : Nat) => (c : Int) - 97).sum
noncomputable def tryS (H : List Nat) (lk : Nat) (i : Nat) : List Nat := (H.take (0 + (i : Int)).toNat ++ [lk]) ++ H.drop (0 + (i : Int)).toNat
noncomputable def tryL (H : List Nat) (i : Nat) : List Nat := H.take (0 + (i : Int)).toNat ++ H.drop (0 + (i : Int) + 1).toNat
noncomputable def stepT (tu : Int) (W : List Nat) (i : Nat) : Bool := decide (tu * ((W.getD (1 + (i : Int) - 1).toNat 0 : Int) - (W.getD (1 + (i : Int)).toNat 0 : Int)) > 0)
noncomputable def stepS (tu : Int) (W : List Nat) : Int := (((List.range ((W.length : Int) - 1).toNat).filter (stepT tu W)).map fun (i : Nat) => (1 : Int) + (i : Int)).sum
noncomputable abbrev good (lt pl z tu : Int) (W : List Nat) : Prop := (sumC W).fmod 31 = lt ∧ (stepS tu W - pl).fmod z = 0
noncomputable def fstep (lt pl z tu : Int) (fs : List (List Nat)) (W : List Nat) : List (List Nat) := if good lt pl z tu W ∧ W ∉ fs then fs ++ [W] else fs
noncomputable def PPar (p : Nat → Bool) : Prop := True
theorem txs_strs : ∀ {vs : List Value} {gs : List (List Nat)}, TxsAre vs gs → StrsAre vs (gs.map fun g => (⟨g.toArray⟩ : Str))
  | _, _, .nil => .nil
  | _, _, .cons g t h => .cons _ t (txs_strs h)
theorem txs_get : ∀ {vs : List Value} {gs : List (List Nat)}, TxsAre vs gs → ∀ {i : Nat} {v : Value}, vs[i]? = some v → ∃ t W, gs[i]? = some W ∧ v = .str ⟨W.toArray⟩ t
  | _, _, .nil, i, v, h => by simp at h
  | _, _, .cons g t hs, 0, v, h => ⟨t, g, rfl, by simpa using h.symm⟩
  | _, _, .cons g t hs, i + 1, v, h => by simpa using txs_get hs (i := i) (by simpa using h)
theorem tryS_ok {H : List Nat} {lk : Nat} {z : Int} (hH : (H.length : Int) = z - 1) (hl : ∀ c ∈ H, c < 128) (hk : lk < 128) : ∀ W ∈ (List.range (z - 0).toNat).map (tryS H lk), (W.length : Int) = z ∧ ∀ c ∈ W, c < 128 := by
  intro W hW
  obtain ⟨i, hi, rfl⟩ := List.mem_map.mp hW
  have := List.mem_range.mp hi
  unfold tryS
  refine ⟨?_, fun c hc => ?_⟩
  · simp only [List.length_append, List.length_take, List.length_drop, List.length_singleton]; omega
  · rcases List.mem_append.mp hc with hc | hc
    · rcases List.mem_append.mp hc with hc | hc
      · exact hl c (List.mem_of_mem_take hc)
      · rw [List.mem_singleton.mp hc]; exact hk
    · exact hl c (List.mem_of_mem_drop hc)
theorem tryL_ok {H : List Nat} {z : Int} (hH : (H.length : Int) = z + 1) (hl : ∀ c ∈ H, c < 128) : ∀ W ∈ (List.range ((H.length : Int) - 0).toNat).map (tryL H), (W.length : Int) = z ∧ ∀ c ∈ W, c < 128 := by
  intro W hW
  obtain ⟨i, hi, rfl⟩ := List.mem_map.mp hW
  have := List.mem_range.mp hi
  unfold tryL
  refine ⟨?_, fun c hc => ?_⟩
  · rw [Int.sub_zero, Int.toNat_natCast] at this
    rw [List.length_append, List.length_take, List.length_drop, show (0 + (i : Int)).toNat = i by omega, show (0 + (i : Int) + 1).toNat = i + 1 by omega, Nat.min_eq_left (Nat.le_of_lt this)]; omega
  · rcases List.mem_append.mp hc with hc | hc
    · exact hl c (List.mem_of_mem_take hc)
    · exact hl c (List.mem_of_mem_drop hc)
theorem take_get {α : Type} {l : List α} {i : Nat} {x : α} (h : l[i]? = some x) : l.take (i + 1) = l.take i ++ [x] := by
  obtain ⟨hi, e⟩ := List.getElem?_eq_some_iff.mp h
  rw [List.take_succ_eq_append_getElem hi, e]
section
variable {prog : Program} {w : World} {A : Around} {E : Value → Shared → Prop} {s : Shared} {Q : Value → Shared → Prop}
theorem notin_txs {l : Addr} {vs : List Value} {gs : List (List Nat)} {W : List Nat} {t : Tok} {b : Bool} (hl : s.heap.IsList l vs.toArray) (hi : TxsAre vs gs) (hb : decide (W ∉ gs) = b) (h : Q (.bool b) s) : wpAny (model prog w) A (compareOp .NotIn (.str ⟨W.toArray⟩ t) (.ref l)) Q E s := by
  refine notin_list_strs hl (txs_strs hi) ?_
  have e : (!((gs.map fun g => (⟨g.toArray⟩ : Str)).any (· == ⟨W.toArray⟩))) = b := by
    rw [← hb]
    by_cases hm : W ∈ gs
    · have : ((gs.map fun g => (⟨g.toArray⟩ : Str)).any (· == ⟨W.toArray⟩)) = true := List.any_eq_true.mpr ⟨_, List.mem_map.mpr ⟨W, hm, rfl⟩, by simp⟩
      rw [this]; simp [hm]
    · have : ((gs.map fun g => (⟨g.toArray⟩ : Str)).any (· == ⟨W.toArray⟩)) = false := by
        rw [List.any_eq_false]
        intro x hx
        obtain ⟨g, hg, rfl⟩ := List.mem_map.mp hx
        intro he
        have : g = W := by simpa using he
        exact hm (this ▸ hg)
      rw [this]; simp [hm]
  rw [e]; exact h
end
section
variable {prog : Program} {w : World} {A : Around} {s₁ : Shared} {h₀ : Heap} {L : Addr} {m : Str → Option Value} {env : Env}
theorem src_rngTP {ct elt : PySem.Expr} {x : Str} {scope : Scope} {cl : List (Str × Addr)} {Fin : Shared → List Value → List (Addr × Obj) → Prop} {r : Addr} {a b : Int} {t u v : Tok} {news : List (Addr × Obj)} {p : Nat → Bool} (hp : PPar p)
    (hh : A.handled = none) (F : Fr h₀ L s₁.heap m) (N : News h₀ L s₁.heap news) (hr : IsRange s₁.heap r a b 1 t u v) (hz : (a = 0 ∨ a = 1) ∧ a ≤ b ∧ b ≤ 8)
    (step : ∀ (s : Shared) (i : Nat) (u : Tok) I oI C oC D m₂ h tk ys (Qr : Bool → Shared → Prop) (E' : Value → Shared → Prop), i < (b - a).toNat → LCg.NsObj oC m₂ → m₂ x = some (.int (a + (i : Int)) u) → Fr h₀ L h m → News h₀ L h ((I, oI) :: (C, oC) :: (D, LCg.lst ys) :: news) →
      (∀ h' tk', Fr h₀ L h' m → News h₀ L h' ((I, oI) :: (C, oC) :: (D, LCg.lst ys) :: news) → Qr (p i) { s with heap := h', toks := tk' }) →
      wpAny (model prog w) A (isTrue ct (compEnvC scope cl C env) (eval ct (compEnvC scope cl C env))) Qr E' { s with heap := h, toks := tk })
    (step2 : ∀ (s : Shared) (i : Nat) (u : Tok) I oI C oC D m₂ h tk ys (Qr E' : Value → Shared → Prop), i < (b - a).toNat → LCg.NsObj oC m₂ → m₂ x = some (.int (a + (i : Int)) u) → Fr h₀ L h m → News h₀ L h ((I, oI) :: (C, oC) :: (D, LCg.lst ys) :: news) →
      (∀ t h' tk', Fr h₀ L h' m → News h₀ L h' ((I, oI) :: (C, oC) :: (D, LCg.lst ys) :: news) → Qr (.int (a + (i : Int)) t) { s with heap := h', toks := tk' }) →
      wpAny (model prog w) A (eval elt (compEnvC scope cl C env)) Qr E' { s with heap := h, toks := tk })
    (fin : ∀ g vs, IntsAre vs (((List.range (b - a).toNat).filter p).map fun (i : Nat) => a + (i : Int)) → Fin { s₁ with heap := g } vs news) :
    LCt.CompSrcT prog w A h₀ L m env ct elt x scope cl Fin (.ref r) s₁ := src_rngT p hh F N hr hz step step2 fin
end
theorem lack_rng {x : Int} : 0 ≤ 97 + x.fmod 31 ∧ 97 + x.fmod 31 ≤ 0x10FFFF := by
  have := fmod_lo x (n := 31) (by decide)
  have := fmod_hi x (n := 31) (by decide)
  omega
theorem off_tl {D : Addr} : ∀ {l : List (Addr × Obj)}, LCg.Off1 D l → ∀ p ∈ l, p.1 ≠ D := by
  intro l
  induction l with
  | nil => intro _ p hp; nomatch hp
  | cons a l ih =>
    intro h p hp
    rcases List.mem_cons.mp hp with rfl | hp
    · exact h.1
    · exact ih h.2 p hp
theorem off1_of {D : Addr} : ∀ {l : List (Addr × Obj)}, (∀ p ∈ l, p.1 ≠ D) → LCg.Off1 D l
  | [], _ => trivial
  | _ :: _, h => ⟨h _ (.head _), off1_of fun p hp => h p (.tail _ hp)⟩
theorem TxtSrc.intro2 {prog : Program} {w : World} {A : Around} {h₀ : Heap} {L : Addr} {m : Str → Option Value} {env : Env} {elt : PySem.Expr} {x : Str} {scope : Scope} {cl : List (Str × Addr)} {Q : Value → Shared → Prop} {s₁ : Shared} {T : List Nat} {tt : Tok} (f : Nat → Int) {news : List (Addr × Obj)} (hh : A.handled = none) (F : Fr h₀ L s₁.heap m) (N : News h₀ L s₁.heap news) (hl : ∀ c ∈ T, c < 128) (hlen : T.length ≤ 1000)
    (step : ∀ (s : Shared) (c : Nat) (u : Tok) I oI C oC D m₂ h tk ys (Qr E' : Value → Shared → Prop), c ∈ T → LCg.NsObj oC m₂ → m₂ x = some (.str (sg c) u) → Fr h₀ L h m → News h₀ L h ((I, oI) :: (C, oC) :: (D, LCg.lst ys) :: news) →
      (∀ t h' tk', Fr h₀ L h' m → News h₀ L h' ((I, oI) :: (C, oC) :: (D, LCg.lst ys) :: news) → Qr (.int (f c) t) { s with heap := h', toks := tk' }) →
      wpAny (model prog w) A (eval elt (compEnvC scope cl C env)) Qr E' { s with heap := h, toks := tk })
    (fin : ∀ D h tk vs, IntsAre vs (T.map f) → Fr h₀ L h m → News h₀ L h ((D, LCg.lst vs) :: news) → LCg.Off1 D news → Q (.ref D) { s₁ with heap := h, toks := tk }) :
    TxtSrc prog w A h₀ L m env elt x scope cl Q (.str ⟨T.toArray⟩ tt) s₁ := ⟨T, tt, f, news, rfl, hh, F, N, hl, hlen, step, fun D h tk vs a b c d => fin D h tk vs a b c (off1_of d)⟩
section
variable {prog : Program} {w : World} {A : Around} {s₁ : Shared} {h₀ : Heap} {L : Addr} {m : Str → Option Value} {env : Env}
theorem src_rngP {elt : PySem.Expr} {x : Str} {scope : Scope} {cl : List (Str × Addr)} {Fin : Shared → List Value → List (Addr × Obj) → Prop} {r : Addr} {a b : Int} {t u v : Tok} {news : List (Addr × Obj)} (bb : Bool) {f : Nat → List Nat} (hf : FPar f bb)
    (hh : A.handled = none) (F : Fr h₀ L s₁.heap m) (N : News h₀ L s₁.heap news) (hr : IsRange s₁.heap r a b 1 t u v) (hz : (a = 0 ∨ a = 1) ∧ a ≤ b ∧ b ≤ 8)
    (step : ∀ (s : Shared) (i : Nat) (u : Tok) I oI C oC D m₂ h tk ys (Qr E' : Value → Shared → Prop), i < (b - a).toNat → LCg.NsObj oC m₂ → m₂ x = some (.int (a + (i : Int)) u) → Fr h₀ L h m → News h₀ L h ((I, oI) :: (C, oC) :: (D, LCg.lst ys) :: news) →
      (∀ t h' tk', Fr h₀ L h' m → News h₀ L h' ((I, oI) :: (C, oC) :: (D, LCg.lst ys) :: news) → Qr (.str ⟨(f i).toArray⟩ t) { s with heap := h', toks := tk' }) →
      wpAny (model prog w) A (eval elt (compEnvC scope cl C env)) Qr E' { s with heap := h, toks := tk })
    (fin : ∀ g vs, TxsAre vs ((List.range (b - a).toNat).map f) → Fin { s₁ with heap := g } vs news) :
    LCg.CompSrc prog w A h₀ L m env elt x scope cl Fin (.ref r) s₁ := src_rng f hh F N hr hz step fin
end
theorem lenS {n : Nat} {z : Int} (h : (n : Int) = z - 1 ∨ (n : Int) = z + 1) (ht : (n : Int) < z) : (n : Int) = z - 1 := by omega
theorem lenL {n : Nat} {z : Int} (h : (n : Int) = z - 1 ∨ (n : Int) = z + 1) (ht : ¬ (n : Int) < z) : (n : Int) = z + 1 := by omega
theorem len8S {α : Type} {z : Int} {f : Nat → α} (hz : 2 ≤ z ∧ z ≤ 6) : ((List.range (z - 0).toNat).map f).length ≤ 8 := by rw [List.length_map, List.length_range]; omega
theorem len8L {α : Type} {n : Nat} {z : Int} {f : Nat → α} (hz : 2 ≤ z ∧ z ≤ 6) (h : (n : Int) = z + 1) : ((List.range ((n : Int) - 0).toNat).map f).length ≤ 8 := by rw [List.length_map, List.length_range]; omega
section
variable {x y : Nat} {P P2 P3 P4 P5 R : Prop}
theorem zn0 (h : x ≠ y ∧ R) : x ≠ y := h.1
theorem zs0 (h : x ≠ y ∧ R) : y ≠ x := Ne.symm h.1
theorem zl0 (h : x < y ∧ R) : x ≠ y := Nat.ne_of_lt h.1
theorem zg0 (h : x < y ∧ R) : y ≠ x := Nat.ne_of_gt h.1
theorem zn1 (h : P ∧ x ≠ y ∧ R) : x ≠ y := h.2.1
theorem zs1 (h : P ∧ x ≠ y ∧ R) : y ≠ x := Ne.symm h.2.1
theorem zl1 (h : P ∧ x < y ∧ R) : x ≠ y := Nat.ne_of_lt h.2.1
theorem zg1 (h : P ∧ x < y ∧ R) : y ≠ x := Nat.ne_of_gt h.2.1
theorem zn2 (h : P ∧ P2 ∧ x ≠ y ∧ R) : x ≠ y := h.2.2.1
theorem zs2 (h : P ∧ P2 ∧ x ≠ y ∧ R) : y ≠ x := Ne.symm h.2.2.1
theorem zl2 (h : P ∧ P2 ∧ x < y ∧ R) : x ≠ y := Nat.ne_of_lt h.2.2.1
theorem zg2 (h : P ∧ P2 ∧ x < y ∧ R) : y ≠ x := Nat.ne_of_gt h.2.2.1
theorem zn3 (h : P ∧ P2 ∧ P3 ∧ x ≠ y ∧ R) : x ≠ y := h.2.2.2.1
theorem zs3 (h : P ∧ P2 ∧ P3 ∧ x ≠ y ∧ R) : y ≠ x := Ne.symm h.2.2.2.1
theorem zl3 (h : P ∧ P2 ∧ P3 ∧ x < y ∧ R) : x ≠ y := Nat.ne_of_lt h.2.2.2.1
theorem zg3 (h : P ∧ P2 ∧ P3 ∧ x < y ∧ R) : y ≠ x := Nat.ne_of_gt h.2.2.2.1
theorem zn4 (h : P ∧ P2 ∧ P3 ∧ P4 ∧ x ≠ y ∧ R) : x ≠ y := h.2.2.2.2.1
theorem zs4 (h : P ∧ P2 ∧ P3 ∧ P4 ∧ x ≠ y ∧ R) : y ≠ x := Ne.symm h.2.2.2.2.1
theorem zl4 (h : P ∧ P2 ∧ P3 ∧ P4 ∧ x < y ∧ R) : x ≠ y := Nat.ne_of_lt h.2.2.2.2.1
theorem zg4 (h : P ∧ P2 ∧ P3 ∧ P4 ∧ x < y ∧ R) : y ≠ x := Nat.ne_of_gt h.2.2.2.2.1
theorem zn5 (h : P ∧ P2 ∧ P3 ∧ P4 ∧ P5 ∧ x ≠ y ∧ R) : x ≠ y := h.2.2.2.2.2.1
theorem zs5 (h : P ∧ P2 ∧ P3 ∧ P4 ∧ P5 ∧ x ≠ y ∧ R) : y ≠ x := Ne.symm h.2.2.2.2.2.1
theorem zl5 (h : P ∧ P2 ∧ P3 ∧ P4 ∧ P5 ∧ x < y ∧ R) : x ≠ y := Nat.ne_of_lt h.2.2.2.2.2.1
theorem zg5 (h : P ∧ P2 ∧ P3 ∧ P4 ∧ P5 ∧ x < y ∧ R) : y ≠ x := Nat.ne_of_gt h.2.2.2.2.2.1
end
local macro_rules | `(tactic| k_ne) => `(tactic| (refine neN ?_; (try dsimp only); first | with_reducible assumption | exact Ne.symm (by with_reducible assumption) | exact zn0 (by with_reducible assumption) | exact zn1 (by with_reducible assumption) | exact zn2 (by with_reducible assumption) | exact zn3 (by with_reducible assumption) | exact zn4 (by with_reducible assumption) | exact zn5 (by with_reducible assumption) | exact zs0 (by with_reducible assumption) | exact zs1 (by with_reducible assumption) | exact zs2 (by with_reducible assumption) | exact zs3 (by with_reducible assumption) | exact zs4 (by with_reducible assumption) | exact zs5 (by with_reducible assumption) | exact zl0 (by with_reducible assumption) | exact zl1 (by with_reducible assumption) | exact zl2 (by with_reducible assumption) | exact zl3 (by with_reducible assumption) | exact zl4 (by with_reducible assumption) | exact zl5 (by with_reducible assumption) | exact zg0 (by with_reducible assumption) | exact zg1 (by with_reducible assumption) | exact zg2 (by with_reducible assumption) | exact zg3 (by with_reducible assumption) | exact zg4 (by with_reducible assumption) | exact zg5 (by with_reducible assumption)))
local macro_rules | `(tactic| k_room) => `(tactic| ktr_room)
local macro_rules | `(tactic| k_enter) => `(tactic| (refine' code_defC ?k1 ?k2 ?k3 ?k4 ?k5 ?kA ?kF ?kK ?k6 ?k7 ?k8 ?k9 ?kB ?kD ?_ ?c2 ?c3 ?c4; (case kA | kF => exact rfl); (case kK => assumption); (case k1 | k2 | k3 | k4 | k5 => k_asm); (case k6 | k7 => k_is); (case k8 => ktr_room); (case k9 => first | exact BindsTo.of_eq rfl | exact binds_K (by k_in) rfl (by k_is) rfl rfl rfl | fail "k_enter: no rule for these arguments"); (case kB => exact rfl); (case kD => decide +kernel); (case c2 | c3 | c4 => exact rfl); k_whole; intro g' L' h' tk' cells' FG' F' N' Y' B' X' T' l1; (try k_lt l1); k_cells Y'; (try simp only [List.cons_append, List.nil_append] at N'); (try dsimp only); (try k_lift B'); (try k_fold)))
local macro_rules | `(tactic| ktr_rel) => `(tactic| first | exact al0 (by with_reducible assumption) | exact al1 (by with_reducible assumption) | exact al2 (by with_reducible assumption) | exact al3 (by with_reducible assumption) | exact al4 (by with_reducible assumption) | exact al5 (by with_reducible assumption) | exact al6 (by with_reducible assumption) | exact al7 (by with_reducible assumption))
local macro_rules | `(tactic| k_all) => `(tactic| ktr_rel)
local macro_rules | `(tactic| k_all) => `(tactic| with_reducible assumption)
local macro_rules | `(tactic| k_all) => `(tactic| (refine ne_of_bnd (by with_reducible assumption) ?_; omega))
local macro_rules | `(tactic| k_all) => `(tactic| exact off_tl (by with_reducible assumption))
local macro_rules | `(tactic| walk_at $s:str) => `(tactic| k_extra $s)
theorem wordWF3_0 : True := by k_with_none; trivial
theorem wordWF3_1 : True := by (k_with "eval ListComp" => ((k_here; (with_reducible show wpAny _ _ (eval (PySem.Expr.ListComp (PySem.Expr.BinOp _ _ _ _) _ _ _) _) _ _ _); k_dflt (refine listcomp_txt (F₀ := by k_asm) (by with_unfolding_all rfl) (by decide) (by rfl) (by decide) (by rfl) ?_)))); trivial
theorem wordWF3_2 : True := by (k_with "call builtin:len" => ((k_here; (with_reducible show wpAny _ _ (call (Value.builtin "len") [Value.str ⟨List.toArray _⟩ _]) _ _ _); k_dflt (refine' len_W ?wqh ?_; (case wqh => omega); k_whole); intro _ _))); trivial
theorem wordWF3_3 : True := by (k_with "call type:range" => ((k_here; k_dflt (refine' range2_rows ?wqF ?wqN ?_; (case wqF => k_asm); (case wqN => k_asm); k_whole); intro _ _ _ _ _ _ _ _ _))); trivial
theorem wordWF3_4 : True := by (k_with "call type:range" => ((k_here; k_dflt (refine' range1_rows ?wqF ?wqN ?_; (case wqF => k_asm); (case wqN => k_asm); k_whole); intro _ _ _ _ _ _ _ _ _))); trivial
theorem wordWF3_5 : True := by (k_with "TxtSrc" => ((focus (k_dflt (refine' TxtSrc.intro2 (fun (c : Nat) => (c : Int) - 97) ?wqhh ?wqF ?wqN ?wqhl ?wqlen ?_ ?_; (case wqhh => with_unfolding_all rfl); (case wqF => k_asm); (case wqN => k_asm); (case wqhl => with_reducible assumption); (case wqlen => omega)); (intro s9 c9 u9 I9 oI9 C9 oC9 D9 m9 h9 tk9 ys9 Qr9 E9 hc9 hC9 hx9 F9 N9 hq9); rotate_left; (intro D9 h9 tk9 vs9 hI9 F9 N9 o9; (try simp only [LCg.Off1, and_true] at o9)); rotate_right)))); trivial
theorem wordWF3_6 : True := by (k_with "call builtin:chr" => ((k_here; k_dflt (refine chr_f lack_rng ?_)))); trivial
theorem wordWF3_7 : True := by (k_with "subscriptTail Name Slice str ref" => ((k_here; (with_reducible show wpAny _ _ (subscriptTail _ (PySem.Expr.Slice none (some _) none _) (Value.str _ _) (Value.ref _)) _ _ _); k_dflt (refine' cut_to (s := ⟨_, _, _, _, _⟩) ?wqz ?wqj ?wqF ?wqN ?_ ?wqhs ?wqht; (case wqhs => with_unfolding_all rfl); (case wqht => intro _; with_unfolding_all rfl); (case wqz => omega); (case wqj => omega); (case wqF => k_asm); (case wqN => k_asm); k_whole); intro h' t' k' F' N'))); trivial
theorem wordWF3_8 : True := by (k_with "subscriptTail Name Slice str ref" => ((k_here; (with_reducible show wpAny _ _ (subscriptTail _ (PySem.Expr.Slice (some _) none none _) (Value.str _ _) (Value.ref _)) _ _ _); k_dflt (refine' cut_from (s := ⟨_, _, _, _, _⟩) ?wqz ?wqj ?wqF ?wqN ?_ ?wqhs ?wqht; (case wqhs => with_unfolding_all rfl); (case wqht => intro _; with_unfolding_all rfl); (case wqz => omega); (case wqj => omega); (case wqF => k_asm); (case wqN => k_asm); k_whole); intro h' t' k' F' N'))); trivial
theorem wordWF3_9 : True := by (k_with "binaryOp Add str str" => ((k_here; k_dflt (refine' cat_l ?wqa ?wqb ?_; (case wqa => (simp only [List.length_append, List.length_take, List.length_drop, List.length_singleton]; omega)); (case wqb => (simp only [List.length_append, List.length_take, List.length_drop, List.length_singleton]; omega)); k_whole); intro _ _))); trivial
theorem wordWF3_10 : True := by (k_with "CompSrc" => ((focus (k_dflt (refine' src_rngP false ?wqhf ?wqhh ?wqF ?wqN ?wqhr ?wqhz ?_ ?_; (case wqhh => with_unfolding_all rfl); (case wqF => k_asm); (case wqN => k_asm); (case wqhr => assumption); (case wqhz => exact ⟨.inl rfl, by omega, by omega⟩); (case wqhf => with_reducible assumption)); (intro s9 c9 u9 I9 oI9 C9 oC9 D9 m9 h9 tk9 ys9 Qr9 E9 hc9 hC9 hx9 F9 N9 hq9); rotate_left; (intro g9 vs9 hX9); rotate_right)))); trivial
theorem wordWF3_11 : True := by (k_with "CompSrc" => ((focus ((with_reducible show LCg.CompSrc _ _ _ _ _ _ _ (PySem.Expr.BinOp (PySem.Expr.BinOp _ _ _ _) _ _ _) _ _ _ _ _ _); k_dflt (refine' src_rngP true ?wqhf ?wqhh ?wqF ?wqN ?wqhr ?wqhz ?_ ?_; (case wqhh => with_unfolding_all rfl); (case wqF => k_asm); (case wqN => k_asm); (case wqhr => assumption); (case wqhz => exact ⟨.inl rfl, by omega, by omega⟩); (case wqhf => with_reducible assumption)); (intro s9 c9 u9 I9 oI9 C9 oC9 D9 m9 h9 tk9 ys9 Qr9 E9 hc9 hC9 hx9 F9 N9 hq9); rotate_left; (intro g9 vs9 hX9); rotate_right)))); trivial
theorem wordWF3_12 : True := by (k_with "exec Assign cons ListComp" => ((k_here; k_dflt (refine LCg.Assign_ListComp_U (F₀ := by k_asm) (by rfl) (by with_unfolding_all rfl) (by with_unfolding_all rfl) (by decide) (by rfl) (by decide) (by rfl) (by rfl) (by rfl) ?_)))); trivial
theorem wordWF3_13 : True := by (k_with "eval ListComp" => ((k_here; (with_reducible show wpAny _ _ (eval (PySem.Expr.ListComp (PySem.Expr.Name _ _) _ _ _) _) _ _ _); k_dflt (refine LCt.ListComp_T (F₀ := by k_asm) (by with_unfolding_all rfl) (by decide) (by rfl) (by decide) (by rfl) ?_)))); trivial
theorem wordWF3_14 : True := by (k_with "CompSrcT" => ((focus (k_dflt (refine' src_rngTP ?wqhf ?wqhh ?wqF ?wqN ?wqhr ?wqhz ?_ ?_ ?_; (case wqhh => with_unfolding_all rfl); (case wqF => k_asm); (case wqN => k_asm); (case wqhr => assumption); (case wqhz => exact ⟨.inr rfl, by omega, by omega⟩); (case wqhf => with_reducible assumption)); (intro s9 c9 u9 I9 oI9 C9 oC9 D9 m9 h9 tk9 ys9 Qr9 E9 hc9 hC9 hx9 F9 N9 hq9); rotate_left; (intro s9 c9 u9 I9 oI9 C9 oC9 D9 m9 h9 tk9 ys9 Qr9 E9 hc9 hC9 hx9 F9 N9 hq9); rotate_left; (intro g9 vs9 hI9); rotate_left)))); trivial
theorem wordWF3_15 : True := by (k_with "compareOp NotIn str ref" => ((k_here; k_dflt (refine' notin_txs ?wqa ?wqb ?wqc ?_; (case wqa => is_list); (case wqb => with_reducible assumption); (case wqc => with_reducible assumption); k_whole)))); trivial
theorem wordWF3_16 : True := by (k_with "subscriptTail Name Name str int" => ((k_here; k_dflt (refine' item_W ?wqa ?wqb ?wqc ?_ ?wqd ?wqe; (case wqa => omega); (case wqb => omega); (case wqc => omega); (case wqd => with_unfolding_all rfl); (case wqe => intro _; with_unfolding_all rfl); k_whole); intro _ _))); trivial
theorem wordWF3_17 : True := by (k_with "subscriptTail Name BinOp str int" => ((k_here; k_dflt (refine' item_W ?wqa ?wqb ?wqc ?_ ?wqd ?wqe; (case wqa => omega); (case wqb => omega); (case wqc => omega); (case wqd => with_unfolding_all rfl); (case wqe => intro _; with_unfolding_all rfl); k_whole); intro _ _))); trivial
theorem wordWF3_18 : True := by (k_with "call builtin:list.append" => ((k_here; k_dflt (refine' app_last ?wqF ?wqN ?wqb ?wqU ?_; (case wqF => k_asm); (case wqN => k_asm); (case wqb => with_reducible assumption); (case wqU => k_upd); k_whole); intro h' F' N'))); trivial
theorem tu_bits {tu : Int} (h : tu = 1 ∨ tu = -1) : Builtin.Int.intBits tu ≤ 64 := by
  rcases h with rfl | rfl <;> decide +kernel
section
variable {lt pl z tu : Int} {fs : List (List Nat)} {W : List Nat}
theorem fstep_yes (h1 : ((W.map fun (c : Nat) => (c : Int) - 97).sum).fmod 31 = lt) (h2 : ((((List.range ((W.length : Int) - 1).toNat).filter (stepT tu W)).map fun (i : Nat) => (1 : Int) + (i : Int)).sum - pl).fmod z = 0) (hb : decide (W ∉ fs) = true) : fstep lt pl z tu fs W = fs ++ [W] :=
  if_pos ⟨⟨h1, h2⟩, of_decide_eq_true hb⟩
theorem fstep_n1 (h1 : ((W.map fun (c : Nat) => (c : Int) - 97).sum).fmod 31 ≠ lt) : fstep lt pl z tu fs W = fs := if_neg fun h => h1 h.1.1
theorem fstep_n2 (h2 : ((((List.range ((W.length : Int) - 1).toNat).filter (stepT tu W)).map fun (i : Nat) => (1 : Int) + (i : Int)).sum - pl).fmod z ≠ 0) : fstep lt pl z tu fs W = fs := if_neg fun h => h2 h.1.2
theorem fstep_n3 (hb : decide (W ∉ fs) = false) : fstep lt pl z tu fs W = fs := if_neg fun h => (of_decide_eq_false hb) h.2
end
noncomputable def TuOk (tu : Int) : Prop := tu = 1 ∨ tu = -1
theorem mul_t {prog : Program} {w : World} {A : Around} {E : Value → Shared → Prop} {s : Shared} {Q : Value → Shared → Prop} {tu x : Int} {t u : Tok} (h : TuOk tu) (hq : Q (.int (tu * x) s.toks) { s with toks := s.toks + 1 }) :
    wpAny (model prog w) A (binaryOp .Mult (.int tu t) (.int x u)) Q E s := P.mul_int (hm := IntMulOk.of_left (tu_bits h)) hq
theorem wordWF3_19 : True := by (k_with "binaryOp Mult int int" => ((k_here; k_dflt (refine' mul_t ?wqh ?_; (case wqh => assumption); k_whole)))); trivial
theorem nm3 {D a b c : Nat} (h1 : D ≠ a) (h2 : D ≠ b) (h3 : D ≠ c) : (D : Addr) ∉ ([a, b, c] : List Addr) := by
  intro hm
  rcases List.mem_cons.mp hm with e | hm
  · exact h1 e
  · rcases List.mem_cons.mp hm with e | hm
    · exact h2 e
    · exact h3 (List.mem_singleton.mp hm)
theorem nm_tl {l : List (Addr × Obj)} {L : Nat} (h : ∀ p ∈ l, p.1 < L) {a b c : Nat} (ha : L ≤ a) (hb : L ≤ b) (hc : L ≤ c) : ∀ q ∈ l, q.1 ∉ ([a, b, c] : List Addr) :=
  fun q hq => nm3 (Nat.ne_of_lt (Nat.lt_of_lt_of_le (h q hq) ha)) (Nat.ne_of_lt (Nat.lt_of_lt_of_le (h q hq) hb)) (Nat.ne_of_lt (Nat.lt_of_lt_of_le (h q hq) hc))
theorem off3 {l : List (Addr × Obj)} {a b c : Nat} (h : ∀ q ∈ l, q.1 ∉ ([a, b, c] : List Addr)) : (∀ q ∈ l, q.1 ≠ (a : Addr)) ∧ (∀ q ∈ l, q.1 ≠ (b : Addr)) ∧ (∀ q ∈ l, q.1 ≠ (c : Addr)) :=
  ⟨fun q hq e => h q hq (by rw [e]; exact .head _), fun q hq e => h q hq (by rw [e]; exact .tail _ (.head _)), fun q hq e => h q hq (by rw [e]; exact .tail _ (.tail _ (.head _)))⟩
theorem lt_tl {l : List (Addr × Obj)} {L D : Nat} (h : ∀ p ∈ l, p.1 < L) (hD : L ≤ D) : ∀ q ∈ l, q.1 < (D : Addr) := fun q hq => Nat.lt_of_lt_of_le (h q hq) hD
theorem lk_lt {x : Int} : (97 + x.fmod 31).toNat < 128 := by
  have := fmod_lo x (n := 31) (by decide)
  have := fmod_hi x (n := 31) (by decide)
  omega
noncomputable def lackOf (lt : Int) (H : List Nat) : Nat := (97 + (lt - (H.map fun (c : Nat) => (c : Int) - 97).sum).fmod 31).toNat
noncomputable def triesOf (z lt : Int) (H : List Nat) : List (List Nat) := if (H.length : Int) < z then (List.range (z - 0).toNat).map (tryS H (lackOf lt H)) else (List.range ((H.length : Int) - 0).toNat).map (tryL H)
noncomputable def foundOf (z lt pl tu : Int) (H : List Nat) : List (List Nat) := (triesOf z lt H).foldl (fstep lt pl z tu) []
set_option maxHeartbeats 4000000 in
theorem found_ctr (w : World) (H : List Nat) (z lt pl tu : Int) (th tz tl tp tt : Tok) (hz : 2 ≤ z ∧ z ≤ 6) (hH : (H.length : Int) = z - 1 ∨ (H.length : Int) = z + 1) (hl : ∀ c ∈ H, c < 128) (htu : tu = 1 ∨ tu = -1) :
    Ctr w 172 [.str ⟨H.toArray⟩ th, .int z tz, .int lt tl, .int pl tp, .int tu tt] Any (fun v own => ∃ D ws k, v = .ref D ∧ own = [(D, listOf ws.toArray k)] ∧ TxsAre ws (foundOf z lt pl tu H)) := by
  have fS : FPar (tryS H (97 + (lt - (H.map fun (c : Nat) => (c : Int) - 97).sum).fmod 31).toNat) true := trivial
  have fL : FPar (tryL H) false := trivial
  have hTU : TuOk tu := htu
  unfold Ctr
  k_fill
  intro dp un gd cn cs a ccd cl outer A₀ base h₀ L m news s loose mean mg mb Q E B F X N T hk hd hu hp hret
  refine wpAny_call ?_
  k_dflt k_enter
  rename_i g1 L1 h1 tk1 FG1 F1 B1 X1 T1 l1 o1 o2 o3 o4 d1 d2 d3 d4 N1
  k_steps
  case' _ => skip
  all_goals first
  | (rename (∀ _ _ _, Fr _ _ _ _ → News _ _ _ _ → _) => hq9; exact hq9 _ _ _ (by assumption) (by assumption))
  | skip
  all_goals
    rename_i D9 hxa tkx o1x l9 hxb l1x hxc F9 N9
    first
    | (have ht : (↑H.length : Int) < z := by assumption
       have hH' : (H.length : Int) = z - 1 := lenS hH ht
       have hok := tryS_ok hH' hl (lk_lt (x := lt - (H.map fun (c : Nat) => (c : Int) - 97).sum))
       have hfd : foundOf z lt pl tu H = ((List.range (z - 0).toNat).map (tryS H (97 + (lt - (H.map fun (c : Nat) => (c : Int) - 97).sum).fmod 31).toNat)).foldl (fstep lt pl z tu) [] := by unfold foundOf triesOf; rw [if_pos ht]; rfl
       have hln : ((List.range (z - 0).toNat).map (tryS H (97 + (lt - (H.map fun (c : Nat) => (c : Int) - 97).sum).fmod 31).toNat)).length ≤ 8 := len8S hz
       revert hX9 hok hfd hln
       generalize (List.range (z - 0).toNat).map (tryS H (97 + (lt - (H.map fun (c : Nat) => (c : Int) - 97).sum).fmod 31).toNat) = tr
       intro hX9 hok hfd hln)
    | (have ht : ¬ (↑H.length : Int) < z := by assumption
       have hH' : (H.length : Int) = z + 1 := lenL hH ht
       have hok := tryL_ok hH' hl
       have hfd : foundOf z lt pl tu H = ((List.range ((H.length : Int) - 0).toNat).map (tryL H)).foldl (fstep lt pl z tu) [] := by unfold foundOf triesOf; rw [if_neg ht]
       have hln : ((List.range ((H.length : Int) - 0).toNat).map (tryL H)).length ≤ 8 := len8L hz hH'
       revert hX9 hok hfd hln
       generalize (List.range ((H.length : Int) - 0).toNat).map (tryL H) = tr
       intro hX9 hok hfd hln)
    refine for_cell (S := List Value × Nat × Obj) (fun st => [(l9, lst0 st.1 st.2.1), (L1 + 1 + 1 + 1 + 1, st.2.2), (L1 + 1 + 1, o3)]) [l9, L1 + 1 + 1 + 1 + 1, L1 + 1 + 1] (fun _ => rfl)
      (fun i st => TxsAre st.1 ((tr.take i).foldl (fstep lt pl z tu) []) ∧ st.1.length ≤ i ∧ ∃ vo, st.2.2.data = .cell vo) ([], 0, o1) (Str.ofString "total") (Str.ofString "stepped") (t := D9) (vs := vs9) (k := vs9.length) (news := news)
      (by with_unfolding_all rfl) F9 (News.sub N9 (sub2 (by k_mem) (sub2 (by k_mem) (sub2 (by k_mem) (sub2 (by k_mem) (by (repeat (first | exact fun _ h => h | refine sub_t7 ?_)))))))) (nm3 (by omega) (by omega) (by omega)) (nm_tl l1 (by omega) (by omega) (by omega)) ?_ ⟨.nil, Nat.le_refl 0, _, d1⟩ ?_ ?_ (fun _ => rfl) (by passes_own)
    · intro Q' hq
      k_steps
      exact hq
    · intro i v o1' o2' st tl h tk hv hI FF NN off
      obtain ⟨ws, kk, ow⟩ := st
      obtain ⟨tv, W, hW, rfl⟩ := txs_get hX9 hv
      obtain ⟨hWl, hWc⟩ := hok W (List.mem_of_getElem? hW)
      obtain ⟨f1, f2, f3⟩ := off3 off
      obtain ⟨hT, hwl, vo, hvo⟩ := hI
      dsimp only at hT hwl hvo NN
      simp only [List.cons_append, List.nil_append] at NN
      have hP : PPar (stepT tu W) := trivial
      have hTU : TuOk tu := by assumption
      have hil := (List.getElem?_eq_some_iff.mp hW).1
      have q3 : ws.length ≤ 1000 := by omega
      have htk := take_get hW
      generalize hfs : (tr.take i).foldl (fstep lt pl z tu) [] = fs at hT
      have hst : (tr.take (i + 1)).foldl (fstep lt pl z tu) [] = fstep lt pl z tu fs W := by rw [htk, List.foldl_append, hfs]; rfl
      clear F9 N9 hret hX9
      change Fr g1 L1 h _ at FF
      change News g1 L1 h _ at NN
      obtain ⟨bb, hb⟩ : ∃ b, decide (W ∉ fs) = b := ⟨_, rfl⟩
      all_goals k_steps
      all_goals first
      | (rename (∀ _ _ _, Fr _ _ _ _ → News _ _ _ _ → _) => hq9; exact hq9 _ _ _ (by assumption) (by assumption))
      | (rename (∀ _ _, Fr _ _ _ _ → News _ _ _ _ → _) => hq9; exact hq9 _ _ (by assumption) (by assumption))
      | skip
      all_goals (rename News _ _ _ _ => N9)
      all_goals first
      | (refine CPost.intro (ws ++ [Value.str ⟨W.toArray⟩ _], kk + 1, _) (by assumption) (fun y e1 e2 => ?_) (News.sub N9 (sub2 (by k_mem) (sub2 (by k_mem) (sub2 (by k_mem) (by (repeat (first | exact fun _ h => h | refine sub_t7 ?_)))))))
          ⟨by rw [hst, fstep_yes (by with_reducible assumption) (by with_reducible assumption) (by rw [hb]; assumption)]; exact hT.append (.cons _ _ .nil), by rw [List.length_append]; exact Nat.succ_le_succ hwl, _, by assumption⟩
         ((repeat (refine (if_neg (by assumption)).trans ?_)); refine Eq.symm ?_; (repeat (refine (if_neg (by assumption)).trans ?_)); exact rfl))
      | (refine CPost.intro (ws, kk, _) (by assumption) (fun y e1 e2 => ?_) (News.sub N9 (sub2 (by k_mem) (sub2 (by k_mem) (sub2 (by k_mem) (by (repeat (first | exact fun _ h => h | refine sub_t7 ?_)))))))
          ⟨by rw [hst]; first | (rw [fstep_n3 (by rw [hb]; assumption)]; exact hT) | (rw [fstep_n1 (by with_reducible assumption)]; exact hT) | (rw [fstep_n2 (by with_reducible assumption)]; exact hT), Nat.le_succ_of_le hwl, _, by assumption⟩
         ((repeat (refine (if_neg (by assumption)).trans ?_)); refine Eq.symm ?_; (repeat (refine (if_neg (by assumption)).trans ?_)); exact rfl))
    · intro o1' o2' st h tk hI FF NN
      obtain ⟨ws, kk, ow⟩ := st
      obtain ⟨hT, hwl, _⟩ := hI
      dsimp only at hT hwl NN
      simp only [List.cons_append, List.nil_append] at NN
      have hlen : (tr.take vs9.length).foldl (fstep lt pl z tu) [] = foundOf z lt pl tu H := by
        rw [hfd, hX9.length, List.take_length]
      rw [hlen] at hT
      clear F9 N9
      k_steps
      rename News _ _ _ _ => N9
      exact hret _ [_] _ _ ⟨_, _, _, rfl, rfl, hT⟩ (by assumption) (News.sub N9 (sub2 (by k_mem) (by (repeat (first | exact fun _ h => h | refine sub_t7 ?_))))) (List.forall_mem_cons.mpr ⟨lt_tl l1 (by omega), fun _ h => nomatch h⟩)
end Mine
end PartWF3

noncomputable section PartWG1
theorem Mine.resetWG1 : True := by (w_top off); k_with_none; first | (walk1; done) | trivial
set_option maxRecDepth 100000
set_option linter.all false
namespace Mine
open PySem PySem.W PyProof.Rows
/-- the end of a call that may have made generators -/
noncomputable def GoodB (c : ClaimW) (cl : Str → Option Addr) (mean : ExcName → Option Value) (args : List WData) (s₁ : Shared) (res : Result) (s' : Shared) : Prop :=
  (∃ v d as, res = .ok (.ret v) ∧ (∀ cls, c.raises args cls = false) ∧ ReadsW c.records cl s'.heap v d as ∧ c.post args d args = true ∧ (c.unshared = true → as.Nodup ∧ ∀ a ∈ as, s₁.heap.get? a = none)) ∧
  (∀ b o, s₁.heap.get? b = some o → s'.heap.get? b = some o) ∧ s'.os = s₁.os ∧ AllBare s'.gens
theorem my_post {M : Model} {A : Around} {cd : Code} {s s₁ : Shared} {cw : ClaimW} {cl : Str → Option Addr} {mean : ExcName → Option Value} {args : List WData} {tabs : List (Addr × Addr)} (hT : TabsAt tabs s₁.heap)
    (h : codeAny M A cd (fun r s' => GoodB cw cl mean args { s₁ with heap := ghostOf s₁.heap tabs } r s' ∧ GrownAll tabs s'.heap) s) : codeAny M A cd (GoodWG cw cl mean args s₁) s :=
  codeAny_mono h fun r s' ⟨⟨⟨v, d, as, r1, r2, r3, r4, r5⟩, hk, hos, hg⟩, hgr⟩ => by
    have keep : ∀ b o, b ∉ tabs.map (·.2) → s₁.heap.get? b = some o → s'.heap.get? b = some o := fun b o hb e => hk b o (ghost_ne e hb)
    have grown : ∀ b o, b ∈ tabs.map (·.2) → s₁.heap.get? b = some o → isCodeTable s₁.heap b ∧ o = tabObj #[] ∧ ∃ ps, s'.heap.get? b = some (tabObj ps) := fun b o hb e => by
      obtain ⟨q, hq, rfl⟩ := List.mem_map.mp hb
      have e2 := (hT q hq).2
      rw [e] at e2
      exact ⟨((hT q hq).1.tab (hT q hq).2).isCodeTable, Option.some.inj e2, hgr.get q hq⟩
    refine ⟨.inl ⟨v, d, as, r1, r2, r3, r4, fun q => ⟨(r5 q).1, fun a ha => ?_⟩⟩, ⟨fun b o e => ?_, fun b o e => ?_⟩, hos, hg⟩
    · cases q1 : s₁.heap.get? a with
      | none => rfl
      | some o =>
        by_cases hb : a ∈ tabs.map (·.2)
        · obtain ⟨_, _, ps, hP⟩ := grown a o hb q1
          exact absurd ha (readsW_apart hP rfl r3)
        · have e3 := (r5 q).2 a ha
          rw [show (ghostOf s₁.heap tabs).get? a = some o from ghost_ne q1 hb] at e3
          cases e3
    · by_cases hb : b ∈ tabs.map (·.2)
      · obtain ⟨ht, rfl, ps, hP⟩ := grown b o hb e
        exact .inr (.inl ⟨ht, rfl, #[], ps, rfl, by rw [Array.empty_append]; exact hP⟩)
      · exact .inl (keep b o hb e)
    · by_cases hb : b ∈ tabs.map (·.2)
      · obtain ⟨_, _, ps, hP⟩ := grown b o hb e
        exact ⟨_, hP⟩
      · exact ⟨o, keep b o hb e⟩
end Mine
end PartWG1

noncomputable section PartWG2
theorem Mine.resetWG2 : True := by (w_top off); k_with_none; first | (walk1; done) | trivial
set_option maxRecDepth 100000
set_option linter.all false
namespace Mine
open PySem PySem.W PyProof.Rows
section
variable {M : Model} {A : Around} {R : GenEnd} {Y : Protocol} {n : Nat} {s₀ : Shared} {c : Code} {fs : List Frame} {s : Shared} {env : Env} {β : Type}
  {K : β → Sem Fin} {H : Value → Sem Fin} {gd : Bool → Bool} {lv : List Value → List Value}
theorem seg_bw {α : Type} {m : Sem α} {f : α → Sem β} (h : wpAny M (A.over c fs) m (fun a s' => Seg M A R Y n s₀ c ((f a).wrap K H gd lv) fs s') (fun x s' => Seg M A R Y n s₀ c (H x) fs s') s) :
    Seg M A R Y n s₀ c ((m >>= f).wrap K H gd lv) fs s := by
  rw [Sem.bind_eq_wrap', Sem.wrap_wrap]
  exact seg_wrap h
noncomputable abbrev ownErr (env : Env) (r : Result) : Sem Flow := (match r with | .ok f => (.pure f : Sem Flow) | .error e => .raise e).onRaise fun (x : Value) => do
  if (← field x 1) == Value.none then unsupported "frame.own-activation:exception-without-traceback"
  setFlight x env.frame
end
section
variable {M : Model} {A : Around} {R : GenEnd} {Y : Protocol} {n : Nat} {s₀ : Shared} {c : Code} {fs : List Frame} {s : Shared} {env : Env}
  {K : Flow → Sem Fin} {H : Value → Sem Fin} {gd : Bool → Bool} {lv : List Value → List Value}
theorem seg_If {test : PySem.Expr} {body orelse : List Stmt} {pos : Pos}
    (h : wpAny M (A.over c fs) (isTrue test env (eval test env)) (fun b s' => Seg M A R Y n s₀ c ((if b = true then execs body env else execs orelse env).wrap K H gd lv) fs s') (fun x s' => Seg M A R Y n s₀ c (H x) fs s') s) :
    Seg M A R Y n s₀ c ((exec (.If test body orelse pos) env).wrap K H gd lv) fs s := by
  rw [exec_If]
  exact seg_bw (wpAny_standAt (seg_bw h))
theorem seg_For {target iter : PySem.Expr} {body : List Stmt} {pos : Pos} (hs : ∀ x, foldedSetIterable iter env x = pure x)
    (h : wpAny M (A.over c fs) (eval iter env) (fun x s₁ => wpAny M (A.over c fs) (pyIter x) (fun it s₂ => ∀ p, Seg M A R Y n s₀ (.forLoop target it body [] env) (M.den (.forLoop target it body [] env))
        (.ret (fun r => (ownErr env r).wrap K H gd lv) none (gd false) (lv []) c p [] :: fs) s₂) (fun x s' => Seg M A R Y n s₀ c (H x) fs s') s₁) (fun x s' => Seg M A R Y n s₀ c (H x) fs s') s) :
    Seg M A R Y n s₀ c ((exec (.For target iter body [] pos) env).wrap K H gd lv) fs s := by
  rw [exec_For]
  refine seg_bw (wpAny_standAt (seg_bw (wpAny_mono h (fun x s₁ h₁ => ?_) fun _ _ e => e)))
  refine seg_bw (wpAny_of_eq (hs x) (seg_bw (wpAny_standAt (seg_bw (wpAny_holding (wpAny_mono h₁ (fun it s₂ h₂ => ?_) fun _ _ e => e))))))
  exact seg_call h₂
end
section
variable {prog : Program} {w : World} {A : Around} {R : GenEnd} {Y : Protocol} {n : Nat} {s₀ : Shared} {fs : List Frame} {s : Shared} {env : Env}
noncomputable abbrev loopErr (env : Env) (e : Value) : Sem Fin := (do noteFrame e env; theTreesLotGoes e : Sem Unit).wrap (fun _ => .raise e) .raise id id
noncomputable abbrev turnEnd (target : PySem.Expr) (it : Value) (body : List Stmt) (env : Env) (f : Flow) : Sem Fin := match f with
  | .next | .cont => .pure (.again (.forLoop target it body [] env))
  | .brk => .pure (.done .next)
  | .ret v => .pure (.done (.ret v))
theorem seg_forLoop {target : PySem.Expr} {it : Value} {body : List Stmt} (ht : ∀ v, letOwnedTupleGo target it v = pure ())
    (h : wpAny (model prog w) (A.over (.forLoop target it body [] env) fs) (pyNext it) (fun r s' => match r with
        | none => Seg (model prog w) A R Y n s₀ (.forLoop target it body [] env) (.pure (.again (.block [] env))) fs s'
        | some v => wpAny (model prog w) (A.over (.forLoop target it body [] env) fs) (assign target env v) (fun _ s'' => Seg (model prog w) A R Y n s₀ (.forLoop target it body [] env)
            ((execs body env).wrap (turnEnd target it body env) (loopErr env) id id) fs s'') (fun x s'' => Seg (model prog w) A R Y n s₀ (.forLoop target it body [] env) (loopErr env x) fs s'') s')
      (fun x s' => Seg (model prog w) A R Y n s₀ (.forLoop target it body [] env) (loopErr env x) fs s') s) :
    Seg (model prog w) A R Y n s₀ (.forLoop target it body [] env) ((model prog w).den (.forLoop target it body [] env)) fs s := by
  show Seg _ A R Y n s₀ _ ((forTurn target it body [] env).onRaise (fun x => do noteFrame x env; theTreesLotGoes x)) fs s
  rw [Sem.onRaise_eq_wrap]
  have eH : (fun e => ((do noteFrame e env; theTreesLotGoes e : Sem Unit).bind fun _ => (.raise e : Sem Fin))) = loopErr env := by
    funext e; rw [Sem.bind_eq_wrap]
  rw [eH]
  unfold forTurn
  refine seg_bw (wpAny_standAt (seg_bw (wpAny_onRaise (wpAny_mono h (fun r s' h' => ?_) fun _ _ h' => wpAny_standAt h'))))
  cases r with
  | none => exact h'
  | some v =>
    refine seg_bw (wpAny_of_eq (ht v) (seg_bw (wpAny_mono h' (fun _ s'' h'' => ?_) fun _ _ e => e)))
    rw [Sem.bind_eq_wrap', Sem.wrap_wrap]
    rw [Sem.wrap_congr (execs body env) _ _ (K' := turnEnd target it body env) (H' := loopErr env) (fun f => by cases f <;> rfl) (fun e => by rfl)]
    exact h''
theorem seg_block (h : Seg (model prog w) A R Y n s₀ (.block [] env) (.pure (.done .next)) fs s) : Seg (model prog w) A R Y n s₀ (.block [] env) ((model prog w).den (.block [] env)) fs s := h
theorem seg_Return {pos : Pos} {K : Flow → Sem Fin} {H : Value → Sem Fin} {gd : Bool → Bool} {lv : List Value → List Value} {c : Code} (h : Seg (model prog w) A R Y n s₀ c (K (.ret .none)) fs s) : Seg (model prog w) A R Y n s₀ c ((exec (.Return none pos) env).wrap K H gd lv) fs s := by
  rw [exec_Return_none]
  exact seg_bw (wpAny_standAt h)
end
end Mine
end PartWG2

noncomputable section PartWG3
theorem Mine.resetWG3 : True := by (w_top off); k_with_none; first | (walk1; done) | trivial
set_option maxRecDepth 100000
set_option linter.all false
namespace Mine
open PySem PySem.W PyProof.Rows
section
variable {prog : Program} {w : World} {A : Around} {E : Value → Shared → Prop} {s : Shared} {h₀ : Heap} {L : Addr} {m : Str → Option Value} {news : List (Addr × Obj)}
/-- a call of a generator function: a frame's names and a generator object more -/
theorem code_gen {K : Frag} {R : Result → Shared → Prop} {name qual : Str} {params : Arguments} {body : List Stmt} {scope : Scope} {dV kV doc pm cdv ct oc : Value} {an od : Option Addr} {osl : Array (Option Value)} {f : Addr} {args : Args} {binds : List (Str × Value)}
    (F : Fr h₀ L s.heap m) (X₀ : K.In h₀) (N : News h₀ L s.heap news) (hlim : h₀.NoLimit)
    (ho : K.lookup f = some ⟨oc, od, .func (fnOf name qual params body scope dV kV doc pm an cdv ct), osl⟩) (hcd : codeIn K cdv qual = true) (hroom : A.depth < recursionLimit)
    (hbind : BindsTo s (fnOf name qual params body scope dV kV doc pm an cdv ct) args binds) (hloc : ∀ y ∈ binds, scope.names.lookup y.1 = some .local)
    (h : ∀ Lg a oG oA h₁ tk, Fr h₀ L h₁ m → News h₀ L h₁ ((a, oA) :: (Lg, oG) :: news) → LCg.NsObj oG (fun y => binds.reverse.lookup y) → h₁.IsGen a s.gens.size → (∀ p ∈ news, p.1 < Lg) → @LT.lt Nat _ Lg a → @LE.le Nat _ h₀.objs.size Lg →
      R (.ok (.ret (.ref a))) { s with gens := s.gens.push (.fresh (.func body (envOf qual scope Lg f cdv))), heap := h₁, toks := tk })
    (hco : scope.isCoroutine = false := by rfl) (hgen : scope.isGenerator = true := by rfl) (hk : scope.kind = .function := by rfl)
    (hcell : ∀ x ∈ scope.names, x.2 ≠ .cell := by decide) : codeAny (model prog w) A (.call (.ref f) args) R s := by
  have X := X₀.keeps F.keep
  have hof := X _ _ ho
  refine codeAny_call_generator hroom hof rfl hco hgen rfl (codeRec_of X hcd) ?_
  refine hbind _ _ _ _ ?_
  refine wpAny_newFunctionEnv hcell hloc (fun h' hn hs => ?_) hk
  have keep : ∀ b o, s.heap.get? b = some o → h'.get? b = some o := fun b o e => hs.extBut b o (Nat.ne_of_lt (Heap.lt_size e)) (Heap.get?_push_of_some _ e)
  refine ⟨hlim.keeps fun b o e => keep b o (F.keep b o e), ?_⟩
  obtain ⟨oG, eG, nG⟩ := LCg.ns_obj hn
  have hsz : s.heap.objs.size < h'.objs.size := Heap.lt_size eG
  have F' : Fr h₀ L h' m := F.keeps keep
  have N' : News h₀ L h' ((s.heap.objs.size, oG) :: news) := fun p hp => by
    rcases List.mem_cons.mp hp with rfl | hp
    · exact ⟨eG, Nat.ne_of_gt F.ns.lt, Heap.get?_none_of_le (Nat.le_of_lt (Nat.lt_of_le_of_lt F.above F.ns.lt))⟩
    · exact ⟨keep _ _ (N p hp).1, (N p hp).2⟩
  refine h s.heap.objs.size h'.objs.size oG _ _ _ (F'.push _) (N'.push F' _) nG ⟨_, _, _, Heap.get?_push_size _ rfl, rfl, rfl, rfl⟩ (fun p hp => Heap.lt_size (N p hp).1) hsz (Nat.le_of_lt (Nat.lt_of_le_of_lt F.above F.ns.lt))
/-- the next item of a generator function's generator -/
theorem gen_next {a : Addr} {g n : Nat} {gs : GenState} {P : Nat → Shared → Shared → Prop} {Y : Protocol} {Q : Option Value → Shared → Prop} (hh : A.handled = none)
    (hl : s.heap.NoLimit) (hroom : A.depth < recursionLimit) (hg : s.heap.IsGen a g) (hgs : s.gens[g]? = some gs)
    (hgo : gs.Goes (model prog w) A.in1 (fun n s₀ r s₁ => r = .ok (.ret .none) ∧ P n s₀ s₁) Y n (.send .none) (s.setGen g .running))
    (hY : ∀ v s₁ gs', gs'.bare = true → Y (n - 1) (s.setGen g .running) v s₁ (fun r' s'' => match n with
        | 0 => False
        | m + 1 => gs'.Goes (model prog w) A.in1 (fun n s₀ r s₁ => r = .ok (.ret .none) ∧ P n s₀ s₁) Y m r' s'') → Q (some v) (s₁.setGen g gs'))
    (hP : ∀ s₁, P n (s.setGen g .running) s₁ → ∀ h', (∀ b o, s₁.heap.get? b = some o → h'.get? b = some o) → Q none { s₁.setGen g .finished with heap := h' }) :
    wpAny (model prog w) A (pyNext (.ref a)) Q E s := by
  unfold pyNext
  refine wpAny_bind (wpAny_attempt (wpAny_callSpecial?_slot (name := Str.ofString "__next__") hg.typeIs slot_gen_next
    (wpAny_call_entry slot_gen_next hg.typeIs entry_gen_next ?_ (args_gen_next _))))
  show wpAny _ A.in1 (Builtin.Generator.genWake (.ref a) (.send .none)) _ _ s
  unfold Builtin.Generator.genWake
  refine wpAny_bind (wpAny_holding (wpAny_genNumber hg (wpAny_bind (wpAny_genState hgs ?_))))
  cases gs with
  | running => exact hgo.elim
  | finished => exact hgo.elim
  | _ =>
    refine wpAny_bind (wpAny_roomToWake hl hroom ?_)
    show wpAny _ A.in1 (.resume g (.send .none) [] _) _ _ s
    refine wpAny_resumeQ hgs hgo (fun x s₁ hx => ?_) (fun v s₁ gs' hb hv => ?_)
    · obtain ⟨rfl, hp⟩ := hx
      show wpAny _ A.in1 (newExc (.type "StopIteration") [] >>= _) _ _ _
      refine wpAny_bind ?_
      simp only [newExc, newTuple]
      refine wpAny_bind (wpAny_newObj_type ?_ (by size_fits))
      refine wpAny_bind (m := firstArgMember _ _) (wpAny_of_eq (a := Value.none) (by first | rfl | (simp only [firstArgMember]; rfl)) ?_)
      refine wpAny_newObj_type ?_ (by size_fits)
      simp only [raiseNew]
      refine wpAny_bind (wpAny_bind (wpAny_handled ?_))
      rw [show A.in1.handled = none from hh]
      refine wpAny_throw ?_
      refine wpAny_bind (wpAny_isInstance (T := "StopIteration") (b := true) ⟨_, Heap.get?_push_size _ rfl, rfl⟩ isSubtype_stop ?_)
      exact wpAny_pure (hP s₁ hp _ fun b o hb => Heap.get?_push_of_some _ (Heap.get?_push_of_some _ hb))
    · exact wpAny_pure ⟨v, rfl, wpAny_pure (hY v s₁ gs' hb hv)⟩
end
end Mine
end PartWG3

noncomputable section PartWG4
theorem Mine.resetWG4 : True := by (w_top off); k_with_none; first | (walk1; done) | trivial
set_option maxRecDepth 100000
set_option linter.all false
namespace Mine
open PySem PySem.W PyProof.Rows
noncomputable def IsIt (o : Obj) : Prop := o.cls = .type "list_iterator" ∧ ∃ fs, o.data = .fields fs
noncomputable def KeptG (h₀ : Heap) (Lg : Addr) (h h' : Heap) : Prop := (∀ b o, b ≠ Lg → ¬ IsIt o → h.get? b = some o → h'.get? b = some o) ∧ ∀ b o, h₀.get? b = some o → h'.get? b = some o
noncomputable def Holds (h₀ : Heap) (led : List (Addr × Obj)) (h : Heap) : Prop := (∀ b o, h₀.get? b = some o → h.get? b = some o) ∧ ∀ p ∈ led, h.get? p.1 = some p.2
/-- what a generator still gives -/
noncomputable def GCap (M : Model) (A : Around) (a : Addr) (g : Nat) (Lg : Addr) (lr : Addr × Obj) (h₀ : Heap) (fin : Bool) : List Int → GenState → List (Addr × Obj) → Prop
  | [], gs, led => fin = true → ∀ (s : Shared) (Q : Option Value → Shared → Prop) (E : Value → Shared → Prop), s.gens[g]? = some gs → s.heap.IsGen a g → Holds h₀ led s.heap →
      (∀ h' tk, KeptG h₀ Lg s.heap h' → Q none { s with heap := h', toks := tk, gens := s.gens.setIfInBounds g .finished }) → wpAny M A (pyNext (.ref a)) Q E s
  | y :: ys, gs, led => ∀ (s : Shared) (Q : Option Value → Shared → Prop) (E : Value → Shared → Prop), s.gens[g]? = some gs → s.heap.IsGen a g → Holds h₀ led s.heap →
      (∀ t oG I oI h' tk gs', gs'.bare = true → KeptG h₀ Lg s.heap h' → h'.get? Lg = some oG → h'.get? I = some oI → IsIt oI → h₀.get? I = none → I ≠ Lg → GCap M A a g Lg lr h₀ fin ys gs' [(Lg, oG), (I, oI), lr] →
        Q (some (.int y t)) { s with heap := h', toks := tk, gens := s.gens.setIfInBounds g gs' }) → wpAny M A (pyNext (.ref a)) Q E s
noncomputable def GY (Lg : Addr) (lr : Addr × Obj) (h₀ : Heap) (fin : Bool) (y : Nat → Int) : Protocol := fun n s₀ v s' κ => ∃ t oG I oI h' tk, v = .int (y n) t ∧ s' = { s₀ with heap := h', toks := tk } ∧ KeptG h₀ Lg s₀.heap h' ∧ h'.get? Lg = some oG ∧ h'.get? I = some oI ∧ IsIt oI ∧ h₀.get? I = none ∧ I ≠ Lg ∧
  Holds h₀ [(Lg, oG), (I, oI), lr] h' ∧ ((fin = true ∨ 0 < n) → ∀ s'', Holds h₀ [(Lg, oG), (I, oI), lr] s''.heap → κ (.send .none) s'')
noncomputable def GP (h₀ : Heap) (Lg : Addr) : Nat → Shared → Shared → Prop := fun n s₀ s₁ => n = 0 ∧ ∃ h' tk, s₁ = { s₀ with heap := h', toks := tk } ∧ KeptG h₀ Lg s₀.heap h'
noncomputable abbrev GR (h₀ : Heap) (Lg : Addr) : GenEnd := fun n s₀ r s₁ => r = .ok (.ret .none) ∧ GP h₀ Lg n s₀ s₁
noncomputable def yl (y : Nat → Int) : Nat → List Int
  | 0 => []
  | n + 1 => y n :: yl y n
section
variable {prog : Program} {w : World} {A : Around}
theorem setGen_two {gens : Array GenState} {g : Nat} {x y : GenState} : (gens.setIfInBounds g x).setIfInBounds g y = gens.setIfInBounds g y := by simp
theorem cap_of {a : Addr} {g : Nat} {Lg : Addr} {lr : Addr × Obj} {h₀ : Heap} {fin : Bool} {y : Nat → Int} (hh : A.handled = none) (hl : h₀.NoLimit) (hroom : A.depth < recursionLimit) :
    ∀ (n : Nat) (gs : GenState) (led : List (Addr × Obj)), ((fin = true ∨ 0 < n) → ∀ s, Holds h₀ led s.heap → gs.Goes (model prog w) A.in1 (GR h₀ Lg) (GY Lg lr h₀ fin y) n (.send .none) s) → GCap (model prog w) A a g Lg lr h₀ fin (yl y n) gs led := by
  intro n
  induction n with
  | zero =>
    intro gs led hgo hf s Q E hgs hg hH hQ
    refine gen_next (P := GP h₀ Lg) hh (hl.keeps hH.1) hroom hg hgs (hgo (.inl hf) _ hH) (fun v s₁ gs' hb hv => ?_) (fun s₁ hp h' hk => ?_)
    · obtain ⟨t, oG, I, oI, h', tk, rfl, rfl, hK, e1, e2, e3, e4, e5, hH', hc⟩ := hv
      exact (hc (.inl hf) { s with heap := h' } hH').elim
    · obtain ⟨_, h1, tk, rfl, hK⟩ := hp
      have := hQ h' tk ⟨fun b o h1 h2 h3 => hk _ _ (hK.1 b o h1 h2 h3), fun b o e => hk _ _ (hK.2 b o e)⟩
      show Q none { s with heap := h', toks := tk, gens := (s.gens.setIfInBounds g .running).setIfInBounds g .finished }
      rw [setGen_two]; exact this
  | succ n ih =>
    intro gs led hgo s Q E hgs hg hH hQ
    refine gen_next (P := GP h₀ Lg) hh (hl.keeps hH.1) hroom hg hgs (hgo (.inr (Nat.succ_pos n)) _ hH) (fun v s₁ gs' hb hv => ?_) (fun s₁ hp h' hk => ?_)
    · obtain ⟨t, oG, I, oI, h', tk, rfl, rfl, hK, e1, e2, e3, e4, e5, hH', hc⟩ := hv
      show Q (some (.int (y n) t)) { s with heap := h', toks := tk, gens := (s.gens.setIfInBounds g .running).setIfInBounds g gs' }
      rw [setGen_two]
      exact hQ t oG I oI h' tk gs' hb hK e1 e2 e3 e4 e5 (ih gs' _ (fun hf s'' hH'' => hc hf s'' hH''))
    · exact absurd hp.1 (Nat.succ_ne_zero n)
open Classical in
noncomputable def restOf (h₀ h : Heap) (Lg : Addr) : List (Addr × Obj) := (List.range h.objs.size).filterMap fun b => match h.get? b with
  | some o => if b = Lg ∨ (h₀.get? b).isSome = true ∨ IsIt o then none else some (b, o)
  | none => none
theorem mem_rest {h₀ h : Heap} {Lg : Addr} {p : Addr × Obj} : p ∈ restOf h₀ h Lg ↔ h.get? p.1 = some p.2 ∧ p.1 ≠ Lg ∧ h₀.get? p.1 = none ∧ ¬ IsIt p.2 := by
  unfold restOf
  rw [List.mem_filterMap]
  constructor
  · rintro ⟨b, hb, e⟩
    cases ho : h.get? b with
    | none => rw [ho] at e; cases e
    | some o =>
      rw [ho] at e
      simp only at e
      split at e
      · cases e
      · rename_i hn
        cases e
        refine ⟨ho, fun e => hn (.inl e), ?_, fun e => hn (.inr (.inr e))⟩
        cases hq : h₀.get? b with
        | none => rfl
        | some _ => exact absurd (.inr (.inl (by rw [hq]; rfl))) hn
  · rintro ⟨h1, h2, h3, h4⟩
    obtain ⟨b, o⟩ := p
    refine ⟨b, List.mem_range.mpr (Heap.lt_size h1), ?_⟩
    simp only at h1 h2 h3 h4
    rw [h1]
    simp only
    rw [if_neg]
    rintro (e | e | e)
    · exact h2 e
    · rw [h3] at e; cases e
    · exact h4 e
theorem rest_news {h₀ h : Heap} {Lg : Addr} : News h₀ Lg h (restOf h₀ h Lg) := fun p hp => let ⟨a, b, c, _⟩ := mem_rest.mp hp; ⟨a, b, c⟩
theorem kept_of {h₀ h h' : Heap} {Lg : Addr} {m : Str → Option Value} {news : List (Addr × Obj)} (hk : ∀ b o, h₀.get? b = some o → h.get? b = some o) (F : Fr h₀ Lg h' m) (N : News h₀ Lg h' news) (hs : ∀ p ∈ restOf h₀ h Lg, p ∈ news) : KeptG h₀ Lg h h' := by
  refine ⟨?_, F.keep⟩
  intro b o h1 h2 h3
  cases hq : h₀.get? b with
  | some o' =>
    have := hk b o' hq
    rw [h3] at this
    cases this
    exact F.keep b o hq
  | none => exact (N (b, o) (hs _ (mem_rest.mpr ⟨h3, h1, hq, h2⟩))).1
end
end Mine
end PartWG4

noncomputable section PartWG5
theorem Mine.resetWG5 : True := by (w_top off); k_with_none; first | (walk1; done) | trivial
set_option maxRecDepth 100000
set_option linter.all false
namespace Mine
open PySem PySem.W PyProof.Rows
noncomputable abbrev gm (lr : Addr) (ol oi : Option Value) : Str → Option Value := fun y => if y = Str.ofString "last_interval" then ol else if y = Str.ofString "interval" then oi else if y = Str.ofString "grouping" then some (.ref lr) else none
/-- what the parts of the generator's body do -/
structure GB (prog : Program) (w : World) (env : Env) (h₀ : Heap) (Lg lr : Addr) (target t1 t2 e1 e2 t3 t4 : PySem.Expr) (setS : Stmt) : Prop where
  loc : env.locals = Lg
  co : env.scope.isCoroutine = false
  inter : interactive env = false
  lets : ∀ it v, letOwnedTupleGo target it v = pure ()
  int : ∀ (A : Around) (E : Value → Shared → Prop) (Q : Unit → Shared → Prop) (s : Shared) ol oi tl v, Fr h₀ Lg s.heap (gm lr ol oi) → News h₀ Lg s.heap tl → (∀ h' tk', Fr h₀ Lg h' (gm lr ol (some v)) → News h₀ Lg h' tl → Q () { s with heap := h', toks := tk' }) → wpAny (model prog w) A (assign target env v) Q E s
  is1 : ∀ (A : Around) (E : Value → Shared → Prop) (Q : Bool → Shared → Prop) (s : Shared) ol x t tl, Fr h₀ Lg s.heap (gm lr ol (some (.int x t))) → News h₀ Lg s.heap tl → (∀ h' tk', Fr h₀ Lg h' (gm lr ol (some (.int x t))) → News h₀ Lg h' tl → Q (decide (x = 127)) { s with heap := h', toks := tk' }) → wpAny (model prog w) A (isTrue t1 env (eval t1 env)) Q E s
  is2 : ∀ (A : Around) (E : Value → Shared → Prop) (Q : Bool → Shared → Prop) (s : Shared) ol x t tl, Fr h₀ Lg s.heap (gm lr ol (some (.int x t))) → News h₀ Lg s.heap tl → (∀ h' tk', Fr h₀ Lg h' (gm lr ol (some (.int x t))) → News h₀ Lg h' tl → Q (decide (x = 0)) { s with heap := h', toks := tk' }) → wpAny (model prog w) A (isTrue t2 env (eval t2 env)) Q E s
  ev1 : ∀ (A : Around) (E : Value → Shared → Prop) (Q : Value → Shared → Prop) (s : Shared) ol v, Fr h₀ Lg s.heap (gm lr ol (some v)) → Q v s → wpAny (model prog w) A (eval e1 env) Q E s
  ev2 : ∀ (A : Around) (E : Value → Shared → Prop) (Q : Value → Shared → Prop) (s : Shared) oi v, Fr h₀ Lg s.heap (gm lr (some v) oi) → Q v s → wpAny (model prog w) A (eval e2 env) Q E s
  is3 : ∀ (A : Around) (E : Value → Shared → Prop) (Q : Bool → Shared → Prop) (s : Shared) oi x t tl, Fr h₀ Lg s.heap (gm lr (some (.int x t)) oi) → News h₀ Lg s.heap tl → (∀ h' tk', Fr h₀ Lg h' (gm lr (some (.int x t)) oi) → News h₀ Lg h' tl → Q false { s with heap := h', toks := tk' }) → wpAny (model prog w) A (isTrue t3 env (eval t3 env)) Q E s
  is4 : ∀ (A : Around) (E : Value → Shared → Prop) (Q : Bool → Shared → Prop) (s : Shared) m tl, Fr h₀ Lg s.heap m → News h₀ Lg s.heap tl → (∀ h' tk', Fr h₀ Lg h' m → News h₀ Lg h' tl → Q true { s with heap := h', toks := tk' }) → wpAny (model prog w) A (isTrue t4 env (eval t4 env)) Q E s
  set : ∀ (A : Around) (E : Value → Shared → Prop) (Q : Flow → Shared → Prop) (s : Shared) ol v tl, Fr h₀ Lg s.heap (gm lr ol (some v)) → News h₀ Lg s.heap tl → (∀ h' tk', Fr h₀ Lg h' (gm lr (some v) (some v)) → News h₀ Lg h' tl → Q .next { s with heap := h', toks := tk' }) → wpAny (model prog w) A (exec setS env) Q E s
theorem seq_notIt {c : Value} {its : Array Value} {k : Nat} : ¬ IsIt { cls := c, data := .seq its k } := fun ⟨_, _, h⟩ => by cases h
noncomputable def LInv (h₀ : Heap) (Lg lr : Addr) (orow : Obj) (I : Addr) (i : Nat) (ol : Option Value) (s₀ s : Shared) : Prop :=
  ∃ oi oI tl h tk, s = { s₀ with heap := h, toks := tk } ∧ Fr h₀ Lg h (gm lr ol oi) ∧ News h₀ Lg h ((I, oI) :: tl) ∧ oI.cls = .type "list_iterator" ∧ oI.data = .fields #[.ref lr, .int i 0] ∧ (lr, orow) ∈ tl ∧ (∀ p ∈ restOf h₀ s₀.heap Lg, p ∈ tl) ∧ (∀ p ∈ tl, p.1 ≠ I) ∧ (∀ b o, h₀.get? b = some o → s₀.heap.get? b = some o)
section
variable {prog : Program} {w : World} {env : Env} {h₀ : Heap} {Lg lr : Addr} {orow : Obj} {target t1 t2 e1 e2 t3 t4 : PySem.Expr} {setS : Stmt} {A : Around} {fin : Bool} {y : Nat → Int} {items : Array Value} {k9 : Nat} {rp p1 p2 yp ep p3 p4 wp wyp wep : Pos} {rs : List Stmt}
noncomputable abbrev gl (t1 t2 e1 e2 t3 t4 : PySem.Expr) (setS : Stmt) (rs : List Stmt) (rp p1 p2 yp ep p3 p4 wyp wep : Pos) : List Stmt :=
  [.If t1 [.Return none rp] [] p1, .If t2 [.If t3 rs [] p3, .While t4 [.Expr (.Yield (some e2) wyp) wep] [] p4] [] p2, .Expr (.Yield (some e1) yp) ep, setS]
theorem fr_next {h h' : Heap} {m : Str → Option Value} {I : Addr} (F : Fr h₀ Lg h m) (hI : h₀.get? I = none) (hL : I ≠ Lg) (hs : Heap.SameBut I h h') : Fr h₀ Lg h' m :=
  LCg.fr_but F (fun b o hb e => (hs.2 b (by simpa using hb)).trans e) (Ne.symm hL) hI
theorem news_next {h h' : Heap} {I : Addr} {tl : List (Addr × Obj)} (N : News h₀ Lg h tl) (off : ∀ p ∈ tl, p.1 ≠ I) (hs : Heap.SameBut I h h') : News h₀ Lg h' tl :=
  LCg.news_but N (fun b o hb e => (hs.2 b (by simpa using hb)).trans e) off
noncomputable abbrev FL (I : Addr) (env : Env) (target t1 t2 e1 e2 t3 t4 : PySem.Expr) (setS : Stmt) (rs : List Stmt) (rp p1 p2 yp ep p3 p4 wyp wep : Pos) : Code := .forLoop target (.ref I) (gl t1 t2 e1 e2 t3 t4 setS rs rp p1 p2 yp ep p3 p4 wyp wep) [] env
/-- the next item of the list: the turn's start -/
theorem g_item (G : GB prog w env h₀ Lg lr target t1 t2 e1 e2 t3 t4 setS) (hrow : orow = { cls := .type "list", data := .seq items k9 }) {i : Nat} {v : Value} {ol : Option Value} {s₀ s : Shared} {I : Addr} {E : Value → Shared → Prop} {Q : Option Value → Shared → Prop}
    (hx : items[i]? = some v) (hI : LInv h₀ Lg lr orow I i ol s₀ s)
    (h : ∀ oi oI tl h tk, Fr h₀ Lg h (gm lr ol oi) → News h₀ Lg h ((I, oI) :: tl) → oI.cls = .type "list_iterator" → oI.data = .fields #[.ref lr, .int (i + 1 : Nat) 0] → (lr, orow) ∈ tl → (∀ p ∈ restOf h₀ s₀.heap Lg, p ∈ tl) → (∀ p ∈ tl, p.1 ≠ I) → (∀ b o, h₀.get? b = some o → s₀.heap.get? b = some o) → Q (some v) { s₀ with heap := h, toks := tk }) :
    wpAny (model prog w) A (pyNext (.ref I)) Q E s := by
  obtain ⟨oi, oI, tl, hh, tk, rfl, F, N, hc, hd, hm, hr, off, hk⟩ := hI
  have hl : hh.IsList lr items := ⟨orow, (N _ (.tail _ hm)).1, by rw [hrow], k9, by rw [hrow]⟩
  have hIL := (N _ (.head _)).2
  refine wpAny_pyNext_list_item (i := i) (l := lr) ⟨oI, (N _ (.head _)).1, hc, hd⟩ hl hx (fun h' hit hs => ?_)
  obtain ⟨oI', e1, e2, e3⟩ := hit
  have F' := fr_next F hIL.2 hIL.1 hs
  have N' : News h₀ Lg h' ((I, oI') :: tl) := fun p hp => by
    rcases List.mem_cons.mp hp with rfl | hp
    · exact ⟨e1, hIL⟩
    · exact news_next (fun p hp => N p (.tail _ hp)) off hs p hp
  exact h oi oI' tl h' tk F' N' e2 e3 hm hr off hk
theorem g_kept {s₀ : Shared} {h : Heap} {m : Str → Option Value} {I : Addr} {oI : Obj} {tl : List (Addr × Obj)} (F : Fr h₀ Lg h m) (N : News h₀ Lg h ((I, oI) :: tl)) (hr : ∀ p ∈ restOf h₀ s₀.heap Lg, p ∈ tl) (hk : ∀ b o, h₀.get? b = some o → s₀.heap.get? b = some o) : KeptG h₀ Lg s₀.heap h :=
  kept_of hk F N (fun p hp => .tail _ (hr p hp))
/-- where it stands at a yield, and how it goes on -/
theorem g_yield {n : Nat} {s₀ : Shared} {h : Heap} {tk : Nat} {m : Str → Option Value} {I : Addr} {oI : Obj} {tl : List (Addr × Obj)} {z : Int} {t : Tok} {kap : Resume → Shared → Prop} (F : Fr h₀ Lg h m) (N : News h₀ Lg h ((I, oI) :: tl)) (hc : IsIt oI) (hm : (lr, orow) ∈ tl) (hr : ∀ p ∈ restOf h₀ s₀.heap Lg, p ∈ tl) (hk : ∀ b o, h₀.get? b = some o → s₀.heap.get? b = some o) (hy : y n = z) (hcr : ¬ IsIt orow)
    (go : (fin = true ∨ 0 < n) → ∀ s'' tl', Fr h₀ Lg s''.heap m → News h₀ Lg s''.heap ((I, oI) :: tl') → (lr, orow) ∈ tl' → (∀ p ∈ restOf h₀ s''.heap Lg, p ∈ tl') → (∀ p ∈ tl', p.1 ≠ I) → (∀ b o, h₀.get? b = some o → s''.heap.get? b = some o) → kap (.send .none) s'') :
    GY Lg (lr, orow) h₀ fin y n s₀ (.int z t) { s₀ with heap := h, toks := tk } kap := by
  have hI := (N _ (.head _)).2
  obtain ⟨oG, eG, nG⟩ := LCg.ns_obj F.ns
  refine ⟨t, oG, I, oI, h, tk, by rw [hy], rfl, g_kept F N hr hk, eG, (N _ (.head _)).1, hc, hI.2, hI.1, ⟨F.keep, fun p hp => ?_⟩, fun hf s'' hH => ?_⟩
  · rcases List.mem_cons.mp hp with rfl | hp
    · exact eG
    · rcases List.mem_cons.mp hp with rfl | hp
      · exact (N _ (.head _)).1
      · rw [List.mem_singleton.mp hp]; exact (N _ (.tail _ hm)).1
  · have e1 := hH.2 (Lg, oG) (.head _)
    have e2 := hH.2 (I, oI) (.tail _ (.head _))
    have e3 := hH.2 (lr, orow) (.tail _ (.tail _ (.head _)))
    have F' : Fr h₀ Lg s''.heap m := ⟨nG.ns e1, hH.1, F.above⟩
    have hlr := (N _ (.tail _ hm)).2
    refine go hf s'' (restOf h₀ s''.heap Lg) F' (fun p hp => ?_) (mem_rest.mpr ⟨e3, hlr.1, hlr.2, hcr⟩) (fun _ h => h) (fun p hp e => ?_) hH.1
    · rcases List.mem_cons.mp hp with rfl | hp
      · exact ⟨e2, hI⟩
      · exact rest_news p hp
    · obtain ⟨a1, _, _, a4⟩ := mem_rest.mp hp
      rw [e, e2] at a1
      injection a1 with a1
      exact a4 (a1 ▸ hc)
/-- a turn that yields -/
theorem g_turn (G : GB prog w env h₀ Lg lr target t1 t2 e1 e2 t3 t4 setS) (hrow : orow = { cls := .type "list", data := .seq items k9 }) {n i : Nat} {x : Int} {t : Tok} {ol : Option Value} {s₀ s : Shared} {I : Addr} {fs : List Frame} (hfs : splitAtGen fs = none) (hfg : fs.any Frame.guarded = false)
    (hx : items[i]? = some (.int x t)) (h127 : x ≠ 127) (h0 : x ≠ 0) (hy : y n = x) (hI : LInv h₀ Lg lr orow I i ol s₀ s)
    (next : (fin = true ∨ 0 < n) → ∀ s₀' s', LInv h₀ Lg lr orow I (i + 1) (some (.int x t)) s₀' s' → Seg (model prog w) A (GR h₀ Lg) (GY Lg (lr, orow) h₀ fin y) n s₀' (FL I env target t1 t2 e1 e2 t3 t4 setS rs rp p1 p2 yp ep p3 p4 wyp wep) ((model prog w).den (FL I env target t1 t2 e1 e2 t3 t4 setS rs rp p1 p2 yp ep p3 p4 wyp wep)) fs s') :
    Seg (model prog w) A (GR h₀ Lg) (GY Lg (lr, orow) h₀ fin y) (n + 1) s₀ (FL I env target t1 t2 e1 e2 t3 t4 setS rs rp p1 p2 yp ep p3 p4 wyp wep) ((model prog w).den (FL I env target t1 t2 e1 e2 t3 t4 setS rs rp p1 p2 yp ep p3 p4 wyp wep)) fs s := by
  refine seg_forLoop (G.lets _) (g_item G hrow hx hI (fun oi oI tl h tk F N hc hd hm hr off hk => ?_))
  refine G.int _ _ _ _ _ _ _ _ F N (fun h1 tk1 F1 N1 => ?_)
  refine seg_execs_cons (seg_If (G.is1 _ _ _ _ _ _ _ _ F1 N1 (fun h2 tk2 F2 N2 => ?_)))
  rw [decide_eq_false h127, if_neg Bool.false_ne_true]
  refine seg_execs_nil (seg_execs_cons (seg_If (G.is2 _ _ _ _ _ _ _ _ F2 N2 (fun h3 tk3 F3 N3 => ?_))))
  rw [decide_eq_false h0, if_neg Bool.false_ne_true]
  refine seg_execs_nil (seg_execs_cons (seg_Expr_Yield hfs rfl hfg (G.ev1 _ _ _ _ _ _ F3 (fun kap hkap => ?_)) G.co G.inter))
  refine g_yield F3 N3 ⟨hc, _, hd⟩ hm hr hk hy (by rw [hrow]; exact seq_notIt) (fun hf s'' tl' F4 N4 hm4 hr4 off4 hk4 => hkap .none s'' ?_)
  refine seg_execs_cons (seg_wrap (G.set _ _ _ _ _ _ _ F4 N4 (fun h5 tk5 F5 N5 => ?_)))
  refine seg_execs_nil (seg_again rfl (next hf s'' _ ⟨_, oI, tl', h5, tk5, rfl, F5, N5, hc, hd, hm4, hr4, off4, hk4⟩))
/-- the list's end -/
theorem g_end (G : GB prog w env h₀ Lg lr target t1 t2 e1 e2 t3 t4 setS) (hrow : orow = { cls := .type "list", data := .seq items k9 }) {i : Nat} {ol : Option Value} {s₀ s : Shared} {I : Addr} {fs : List Frame} (hh : (A.over (FL I env target t1 t2 e1 e2 t3 t4 setS rs rp p1 p2 yp ep p3 p4 wyp wep) fs).handled = none) (hi : items[i]? = none) (hI : LInv h₀ Lg lr orow I i ol s₀ s)
    (ret : ∀ h tk, KeptG h₀ Lg s₀.heap h → Seg (model prog w) A (GR h₀ Lg) (GY Lg (lr, orow) h₀ fin y) 0 s₀ (.block [] env) (.pure (.done .next)) fs { s₀ with heap := h, toks := tk }) :
    Seg (model prog w) A (GR h₀ Lg) (GY Lg (lr, orow) h₀ fin y) 0 s₀ (FL I env target t1 t2 e1 e2 t3 t4 setS rs rp p1 p2 yp ep p3 p4 wyp wep) ((model prog w).den (FL I env target t1 t2 e1 e2 t3 t4 setS rs rp p1 p2 yp ep p3 p4 wyp wep)) fs s := by
  refine seg_forLoop (G.lets _) ?_
  obtain ⟨oi, oI, tl, h, tk, rfl, F, N, hc, hd, hm, hr, off, hk⟩ := hI
  have hl : h.IsList lr items := ⟨orow, (N _ (.tail _ hm)).1, by rw [hrow], k9, by rw [hrow]⟩
  have hIL := (N _ (.head _)).2
  refine wpAny_pyNext_list_end hh ⟨oI, (N _ (.head _)).1, hc, hd⟩ hl hi (fun h' hs => ?_)
  refine seg_again rfl (seg_block (ret h' tk ⟨fun b o h1 h2 h3 => hs b o (fun e => ?_) ((g_kept F N hr hk).1 b o h1 h2 h3), fun b o e => hs b o (fun e' => by rw [e', hIL.2] at e; cases e) (F.keep b o e)⟩))
  have := (g_kept F N hr hk).1 b o h1 h2 h3
  rw [e, (N _ (.head _)).1] at this
  injection this with this
  exact h2 (this ▸ ⟨hc, _, hd⟩)
/-- the sign that ends it -/
theorem g_stop (G : GB prog w env h₀ Lg lr target t1 t2 e1 e2 t3 t4 setS) (hrow : orow = { cls := .type "list", data := .seq items k9 }) {i : Nat} {t : Tok} {ol : Option Value} {s₀ s : Shared} {I : Addr} {fs : List Frame} (hx : items[i]? = some (.int 127 t)) (hI : LInv h₀ Lg lr orow I i ol s₀ s)
    (ret : ∀ h tk, KeptG h₀ Lg s₀.heap h → Seg (model prog w) A (GR h₀ Lg) (GY Lg (lr, orow) h₀ fin y) 0 s₀ (FL I env target t1 t2 e1 e2 t3 t4 setS rs rp p1 p2 yp ep p3 p4 wyp wep) (.pure (.done (.ret .none))) fs { s₀ with heap := h, toks := tk }) :
    Seg (model prog w) A (GR h₀ Lg) (GY Lg (lr, orow) h₀ fin y) 0 s₀ (FL I env target t1 t2 e1 e2 t3 t4 setS rs rp p1 p2 yp ep p3 p4 wyp wep) ((model prog w).den (FL I env target t1 t2 e1 e2 t3 t4 setS rs rp p1 p2 yp ep p3 p4 wyp wep)) fs s := by
  refine seg_forLoop (G.lets _) (g_item G hrow hx hI (fun oi oI tl h tk F N hc hd hm hr off hk => ?_))
  refine G.int _ _ _ _ _ _ _ _ F N (fun h1 tk1 F1 N1 => ?_)
  refine seg_execs_cons (seg_If (G.is1 _ _ _ _ _ _ _ _ F1 N1 (fun h2 tk2 F2 N2 => ?_)))
  rw [decide_eq_true rfl, if_pos rfl]
  exact seg_execs_cons (seg_Return (ret h2 tk2 (g_kept F2 N2 hr hk)))
/-- the nought: the last one again and again -/
theorem g_nought (G : GB prog w env h₀ Lg lr target t1 t2 e1 e2 t3 t4 setS) (hrow : orow = { cls := .type "list", data := .seq items k9 }) {i : Nat} {x : Int} {t tx : Tok} {s₀ s : Shared} {I : Addr} {fs : List Frame} (hfs : splitAtGen fs = none) (hfg : fs.any Frame.guarded = false)
    (hx : items[i]? = some (.int 0 t)) (hy : y 0 = x) (hf : fin = false) (hI : LInv h₀ Lg lr orow I i (some (.int x tx)) s₀ s) :
    Seg (model prog w) A (GR h₀ Lg) (GY Lg (lr, orow) h₀ fin y) 1 s₀ (FL I env target t1 t2 e1 e2 t3 t4 setS rs rp p1 p2 yp ep p3 p4 wyp wep) ((model prog w).den (FL I env target t1 t2 e1 e2 t3 t4 setS rs rp p1 p2 yp ep p3 p4 wyp wep)) fs s := by
  refine seg_forLoop (G.lets _) (g_item G hrow hx hI (fun oi oI tl h tk F N hc hd hm hr off hk => ?_))
  refine G.int _ _ _ _ _ _ _ _ F N (fun h1 tk1 F1 N1 => ?_)
  refine seg_execs_cons (seg_If (G.is1 _ _ _ _ _ _ _ _ F1 N1 (fun h2 tk2 F2 N2 => ?_)))
  rw [decide_eq_false (by decide), if_neg Bool.false_ne_true]
  refine seg_execs_nil (seg_execs_cons (seg_If (G.is2 _ _ _ _ _ _ _ _ F2 N2 (fun h3 tk3 F3 N3 => ?_))))
  rw [decide_eq_true rfl, if_pos rfl]
  refine seg_execs_cons (seg_If (G.is3 _ _ _ _ _ _ _ _ F3 N3 (fun h4 tk4 F4 N4 => ?_)))
  rw [if_neg Bool.false_ne_true]
  refine seg_execs_nil (seg_execs_cons (seg_While (fun p => seg_whileLoop (G.is4 _ _ _ _ _ _ F4 N4 (fun h5 tk5 F5 N5 => ?_)))))
  rw [if_pos rfl]
  refine seg_execs_cons (seg_Expr_Yield (by show (splitAtGen fs).map _ = none; rw [hfs]; rfl) rfl (by rw [List.any_cons, hfg]; rfl) (G.ev2 _ _ _ _ _ _ F5 (fun kap hkap => ?_)) G.co G.inter)
  refine g_yield F5 N5 ⟨hc, _, hd⟩ hm hr hk hy (by rw [hrow]; exact seq_notIt) (fun hg => ?_)
  rcases hg with e | e
  · rw [hf] at e; cases e
  · exact absurd e (Nat.lt_irrefl 0)
end
end Mine
end PartWG5

noncomputable section PartWG6
theorem Mine.resetWG6 : True := by (w_top off); k_with_none; first | (walk1; done) | trivial
set_option maxRecDepth 100000
set_option linter.all false
namespace Mine
open PySem PySem.W PyProof.Rows
section
variable {prog : Program} {w : World} {env : Env} {h₀ : Heap} {Lg lr : Addr} {orow oG : Obj} {target t1 t2 e1 e2 t3 t4 iter : PySem.Expr} {setS setN : Stmt} {A : Around} {fin : Bool} {y : Nat → Int} {items : Array Value} {k9 : Nat} {rp p1 p2 yp ep p3 p4 wyp wep fp : Pos} {rs : List Stmt} {m0 : Str → Option Value}
noncomputable abbrev gbody (target iter t1 t2 e1 e2 t3 t4 : PySem.Expr) (setN setS : Stmt) (rs : List Stmt) (rp p1 p2 yp ep p3 p4 wyp wep fp : Pos) : List Stmt := [setN, .For target iter (gl t1 t2 e1 e2 t3 t4 setS rs rp p1 p2 yp ep p3 p4 wyp wep) [] fp]
structure GS (prog : Program) (w : World) (env : Env) (h₀ : Heap) (Lg lr : Addr) (m0 : Str → Option Value) (setN : Stmt) (iter : PySem.Expr) : Prop where
  start : ∀ (A : Around) (E : Value → Shared → Prop) (Q : Flow → Shared → Prop) (s : Shared) tl, Fr h₀ Lg s.heap m0 → News h₀ Lg s.heap tl → (∀ h' tk', Fr h₀ Lg h' (gm lr (some .none) none) → News h₀ Lg h' tl → Q .next { s with heap := h', toks := tk' }) → wpAny (model prog w) A (exec setN env) Q E s
  src : ∀ (A : Around) (E : Value → Shared → Prop) (Q : Value → Shared → Prop) (s : Shared) ol oi, Fr h₀ Lg s.heap (gm lr ol oi) → Q (.ref lr) s → wpAny (model prog w) A (eval iter env) Q E s
  fold : ∀ x, foldedSetIterable iter env x = pure x
noncomputable abbrev fK (f : Flow) : Sem Fin := .pure (.done (.ret (match f with | .ret v => v | _ => .none)))
noncomputable abbrev fH (env : Env) (e : Value) : Sem Fin := (leaving env e).wrap (fun _ => .raise e) .raise id id
noncomputable abbrev lK (env : Env) (f : Flow) : Sem Fin := match f with
  | .next => (execs [] env).wrap fK (fH env) id id
  | f => fK f
noncomputable abbrev lF (c : Code) (env : Env) (p : Pos) : Frame := .ret (fun r => (ownErr env r).wrap (lK env) (fH env) id id) none false [] c p []
theorem g_func (G : GS prog w env h₀ Lg lr m0 setN iter) (hrow : orow = { cls := .type "list", data := .seq items k9 }) (hab : h₀.objs.size ≤ Lg) (hlr : lr ≠ Lg ∧ h₀.get? lr = none) (hG : LCg.NsObj oG m0) {n : Nat} {s : Shared} (hH : Holds h₀ [(Lg, oG), (lr, orow)] s.heap)
    (loop : ∀ I s' p, LInv h₀ Lg lr orow I 0 (some .none) s s' → Seg (model prog w) A (GR h₀ Lg) (GY Lg (lr, orow) h₀ fin y) n s (FL I env target t1 t2 e1 e2 t3 t4 setS rs rp p1 p2 yp ep p3 p4 wyp wep) ((model prog w).den (FL I env target t1 t2 e1 e2 t3 t4 setS rs rp p1 p2 yp ep p3 p4 wyp wep)) [lF (.func (gbody target iter t1 t2 e1 e2 t3 t4 setN setS rs rp p1 p2 yp ep p3 p4 wyp wep fp) env) env p] s') :
    Seg (model prog w) A (GR h₀ Lg) (GY Lg (lr, orow) h₀ fin y) n s (.func (gbody target iter t1 t2 e1 e2 t3 t4 setN setS rs rp p1 p2 yp ep p3 p4 wyp wep fp) env) ((model prog w).den (.func (gbody target iter t1 t2 e1 e2 t3 t4 setN setS rs rp p1 p2 yp ep p3 p4 wyp wep fp) env)) [] s := by
  have e1 := hH.2 (Lg, oG) (.head _)
  have e2 := hH.2 (lr, orow) (.tail _ (.head _))
  have F : Fr h₀ Lg s.heap m0 := ⟨hG.ns e1, hH.1, hab⟩
  have N : News h₀ Lg s.heap (restOf h₀ s.heap Lg) := rest_news
  have hm : (lr, orow) ∈ restOf h₀ s.heap Lg := mem_rest.mpr ⟨e2, hlr.1, hlr.2, by rw [hrow]; exact seq_notIt⟩
  refine seg_func (seg_execs_cons (seg_wrap (G.start _ _ _ _ _ F N (fun h1 tk1 F1 N1 => ?_))))
  refine seg_execs_cons (seg_For G.fold (G.src _ _ _ _ _ _ F1 ?_))
  have hl : h1.IsList lr items := ⟨orow, (N1 _ hm).1, by rw [hrow], k9, by rw [hrow]⟩
  refine wpAny_pyIter_list hl (fun p => loop _ _ p ⟨none, _, restOf h₀ s.heap Lg, _, tk1, rfl, F1.push _, N1.push F1 _, rfl, rfl, hm, fun _ h => h, fun p hp => Nat.ne_of_lt (Heap.lt_size (N1 p hp).1), hH.1⟩)
theorem g_ret {n : Nat} {s₀ : Shared} {h : Heap} {tk : Nat} {c c' : Code} {p : Pos} (hn : n = 0) (hK : KeptG h₀ Lg s₀.heap h) :
    Seg (model prog w) A (GR h₀ Lg) (GY Lg (lr, orow) h₀ fin y) n s₀ c (.pure (.done (.ret .none))) [lF c' env p] { s₀ with heap := h, toks := tk } :=
  seg_leaf (.ok (.ret .none)) (seg_end (.ok (.ret .none)) ⟨rfl, hn, h, tk, rfl, hK⟩)
theorem g_next {n : Nat} {s₀ : Shared} {h : Heap} {tk : Nat} {c c' : Code} {p : Pos} (hn : n = 0) (hK : KeptG h₀ Lg s₀.heap h) :
    Seg (model prog w) A (GR h₀ Lg) (GY Lg (lr, orow) h₀ fin y) n s₀ c (.pure (.done .next)) [lF c' env p] { s₀ with heap := h, toks := tk } :=
  seg_leaf (.ok .next) (seg_end (.ok (.ret .none)) ⟨rfl, hn, h, tk, rfl, hK⟩)
section
variable (G : GB prog w env h₀ Lg lr target t1 t2 e1 e2 t3 t4 setS) (S : GS prog w env h₀ Lg lr m0 setN iter) (hab : h₀.objs.size ≤ Lg) (hlr : lr ≠ Lg ∧ h₀.get? lr = none) (hG : LCg.NsObj oG m0) (hh : A.handled = none) (hl : h₀.NoLimit) (hroom : A.depth < recursionLimit) {a : Addr} {g : Nat} {x0 x1 : Int} {t0 u1 : Tok}
include G S hab hlr hG hh hl hroom
theorem cap0 (hx0 : x0 ≠ 127 ∧ x0 ≠ 0) (hx1 : x1 ≠ 127 ∧ x1 ≠ 0) :
    GCap (model prog w) A a g Lg (lr, { cls := .type "list", data := .seq #[.int x0 t0, .int x1 u1] k9 }) h₀ true [x0, x1] (.fresh (.func (gbody target iter t1 t2 e1 e2 t3 t4 setN setS rs rp p1 p2 yp ep p3 p4 wyp wep fp) env)) [(Lg, oG), (lr, { cls := .type "list", data := .seq #[.int x0 t0, .int x1 u1] k9 })] :=
  cap_of (y := fun n => if n = 1 then x0 else x1) hh hl hroom 2 _ _ (fun _ s hH => ⟨rfl, g_func S rfl hab hlr hG hH (fun I s' p hI =>
    g_turn G rfl rfl rfl rfl hx0.1 hx0.2 rfl hI (fun _ s1 s1' hI1 => g_turn G rfl rfl rfl rfl hx1.1 hx1.2 rfl hI1 (fun _ s2 s2' hI2 => g_end G rfl (by show (marksOver _ (A.handled, A.handled)).1 = none; rw [hh]; rfl) rfl hI2 (fun h tk hK => g_next rfl hK))))⟩)
theorem cap1 {t2' t3' : Tok} {z : Int} (hx0 : x0 ≠ 127 ∧ x0 ≠ 0) (hx1 : x1 ≠ 127 ∧ x1 ≠ 0) :
    GCap (model prog w) A a g Lg (lr, { cls := .type "list", data := .seq #[.int x0 t0, .int x1 u1, .int 127 t2', .int z t3'] k9 }) h₀ true [x0, x1] (.fresh (.func (gbody target iter t1 t2 e1 e2 t3 t4 setN setS rs rp p1 p2 yp ep p3 p4 wyp wep fp) env)) [(Lg, oG), (lr, { cls := .type "list", data := .seq #[.int x0 t0, .int x1 u1, .int 127 t2', .int z t3'] k9 })] :=
  cap_of (y := fun n => if n = 1 then x0 else x1) hh hl hroom 2 _ _ (fun _ s hH => ⟨rfl, g_func S rfl hab hlr hG hH (fun I s' p hI =>
    g_turn G rfl rfl rfl rfl hx0.1 hx0.2 rfl hI (fun _ s1 s1' hI1 => g_turn G rfl rfl rfl rfl hx1.1 hx1.2 rfl hI1 (fun _ s2 s2' hI2 => g_stop G rfl rfl hI2 (fun h tk hK => g_ret rfl hK))))⟩)
theorem cap2 {t2' t3' : Tok} {z : Int} (hx0 : x0 ≠ 127 ∧ x0 ≠ 0) (hx1 : x1 ≠ 127 ∧ x1 ≠ 0) :
    GCap (model prog w) A a g Lg (lr, { cls := .type "list", data := .seq #[.int x0 t0, .int x1 u1, .int 0 t2', .int z t3'] k9 }) h₀ false [x0, x1, x1] (.fresh (.func (gbody target iter t1 t2 e1 e2 t3 t4 setN setS rs rp p1 p2 yp ep p3 p4 wyp wep fp) env)) [(Lg, oG), (lr, { cls := .type "list", data := .seq #[.int x0 t0, .int x1 u1, .int 0 t2', .int z t3'] k9 })] :=
  cap_of (y := fun n => if n = 2 then x0 else x1) hh hl hroom 3 _ _ (fun _ s hH => ⟨rfl, g_func S rfl hab hlr hG hH (fun I s' p hI =>
    g_turn G rfl rfl rfl rfl hx0.1 hx0.2 rfl hI (fun _ s1 s1' hI1 => g_turn G rfl rfl rfl rfl hx1.1 hx1.2 rfl hI1 (fun _ s2 s2' hI2 => g_nought G rfl rfl rfl rfl rfl rfl hI2)))⟩)
end
end
end Mine
end PartWG6

noncomputable section PartWG7
theorem Mine.resetWG7 : True := by (w_top off); k_with_none; first | (walk1; done) | trivial
set_option maxRecDepth 100000
set_option linter.all false
namespace Mine
open PySem PySem.W PyProof.Rows
inductive GOk (orow : Obj) : Bool → List Int → Prop
  | e0 {x0 x1 : Int} {t0 u1 : Tok} {k : Nat} : orow = { cls := .type "list", data := .seq #[.int x0 t0, .int x1 u1] k } → (2 ≤ x0 ∧ x0 ≤ 6) → (2 ≤ x1 ∧ x1 ≤ 6) → GOk orow true [x0, x1]
  | e1 {x0 x1 z : Int} {t0 u1 t2 t3 : Tok} {k : Nat} : orow = { cls := .type "list", data := .seq #[.int x0 t0, .int x1 u1, .int 127 t2, .int z t3] k } → (2 ≤ x0 ∧ x0 ≤ 6) → (2 ≤ x1 ∧ x1 ≤ 6) → GOk orow true [x0, x1]
  | e2 {x0 x1 z : Int} {t0 u1 t2 t3 : Tok} {k : Nat} : orow = { cls := .type "list", data := .seq #[.int x0 t0, .int x1 u1, .int 0 t2, .int z t3] k } → (2 ≤ x0 ∧ x0 ≤ 6) → (2 ≤ x1 ∧ x1 ≤ 6) → GOk orow false [x0, x1, x1]
theorem gm_start {lr : Addr} : (fun y => if y = Str.ofString "last_interval" then some Value.none else ([(Str.ofString "grouping", Value.ref lr)] : List (Str × Value)).reverse.lookup y) = gm lr (some .none) none := by
  funext y
  unfold gm
  split
  · rfl
  · rename_i h1
    split
    · rename_i h2; subst h2; rfl
    · rename_i h2
      by_cases h3 : y = Str.ofString "grouping"
      · subst h3; rw [if_pos rfl]; rfl
      · rw [if_neg h3]
        have : (y == Str.ofString "grouping") = false := by simpa using h3
        simp [List.lookup, this]
theorem gm_int {lr : Addr} {ol oi : Option Value} {v : Value} : (fun y => if y = Str.ofString "interval" then some v else gm lr ol oi y) = gm lr ol (some v) := by
  funext y
  unfold gm
  by_cases h1 : y = Str.ofString "interval"
  · subst h1; rw [if_pos rfl]; rfl
  · rw [if_neg h1]
    by_cases h2 : y = Str.ofString "last_interval"
    · rw [if_pos h2, if_pos h2]
    · rw [if_neg h2, if_neg h2, if_neg h1, if_neg h1]
theorem gm_last {lr : Addr} {ol oi : Option Value} {v : Value} : (fun y => if y = Str.ofString "last_interval" then some v else gm lr ol oi y) = gm lr (some v) oi := by
  funext y
  unfold gm
  by_cases h1 : y = Str.ofString "last_interval"
  · rw [if_pos h1, if_pos h1]
  · rw [if_neg h1, if_neg h1, if_neg h1]
set_option maxHeartbeats 4000000 in
theorem gen_use {w : World} {lr : Addr} {orow : Obj} {news : List (Addr × Obj)} {dp un : Nat} {gd : Option (List Code)} {cn : Str} {cs : Scope} {a : Addr} {ccd : Value} {cl : List (Str × Addr)} {outer : List Env} {A₀ : Around} {base h₀ : Heap} {L : Addr} {m : Str → Option Value} {s : Shared} {loose : List Str} {mean : ExcName → Option Value} {mg mb : Str → Option Value} {Q E : Value → Shared → Prop} (B : Below A₀ base outer h₀) (F : Fr h₀ L s.heap m) (X : (KA w.params).In h₀) (N : News h₀ L s.heap news) (T : Top topProg loose mean mg mb h₀) (hlim : h₀.NoLimit) (hm : (lr, orow) ∈ news) (hd : dp + 40 < recursionLimit)
    (hR : ∀ ga Lg oG oA gs h₁ tk, Fr h₀ L h₁ m → News h₀ L h₁ ((ga, oA) :: (Lg, oG) :: news) → h₁.IsGen ga s.gens.size → gs.bare = true → (∀ p ∈ news, p.1 < Lg) → @LT.lt Nat _ Lg ga →
      (∀ fin ys, GOk orow fin ys → GCap (model PySem.Challenge.rw_ul0025_01.row.prog w) (ktrTop dp un gd cn cs L a ccd cl outer) ga s.gens.size Lg (lr, orow) h₀ fin ys gs [(Lg, oG), (lr, orow)]) → Q (.ref ga) { s with gens := s.gens.push gs, heap := h₁, toks := tk }) :
    wpAny (model PySem.Challenge.rw_ul0025_01.row.prog w) (ktrTop dp un gd cn cs L a ccd cl outer) (call (.ref 70) [.ref lr]) Q E s := by
  revert X; k_fill; intro X
  have hlr : lr < s.heap.objs.size := Heap.lt_size (N _ hm).1
  refine wpAny_call ?_
  k_dflt (refine' code_gen ?k1 ?k2 ?k3 ?lim ?k6 ?k7 ?k8 ?k9 ?kB ?_ ?c2 ?c3 ?c4 ?c5; (case k1 => k_asm); (case k2 => k_asm); (case k3 => k_asm); (case lim => assumption); (case k6 => k_is); (case k7 => k_is); (case k8 => ktr_room); (case k9 => exact BindsTo.of_eq rfl); (case c5 => decide); (case kB => exact locs rfl); (case c2 => exact rfl); (case c3 => exact rfl); (case c4 => exact rfl); k_whole)
  intro Lg ga oG oA h₁ tk F' N' hG hI l1 l2 hab
  have hG2 : LCg.NsObj oG (fun y => ([(Str.ofString "grouping", Value.ref lr)] : List (Str × Value)).reverse.lookup y) := hG
  have hlr2 : lr ≠ Lg ∧ h₀.get? lr = none := ⟨Nat.ne_of_lt (l1 _ hm), (N _ hm).2.2⟩
  refine hR ga Lg oG oA _ h₁ tk F' N' hI rfl l1 l2 (fun fin ys ok => ?_)
  clear hR F' N' hG hI F N
  rcases ok with ⟨he, h0, h1⟩ | ⟨he, h0, h1⟩ | ⟨he, h0, h1⟩
  all_goals subst he
  all_goals first
  | refine cap0 ?_ ?_ hab hlr2 hG2 rfl hlim (by ktr_room) ⟨by omega, by omega⟩ ⟨by omega, by omega⟩
  | refine cap1 ?_ ?_ hab hlr2 hG2 rfl hlim (by ktr_room) ⟨by omega, by omega⟩ ⟨by omega, by omega⟩
  | refine cap2 ?_ ?_ hab hlr2 hG2 rfl hlim (by ktr_room) ⟨by omega, by omega⟩ ⟨by omega, by omega⟩
  all_goals first
  | refine ⟨rfl, rfl, rfl, fun _ _ => rfl, ?_, ?_, ?_, ?_, ?_, ?_, ?_, ?_⟩
    · intro A E Q s ol oi tl v F N h
      refine wpAny_assign_Name ?_
      k_steps
      refine h _ _ ?_ (by assumption)
      rw [← gm_int (oi := oi)]; assumption
    · intro A E Q s ol x t tl F N h
      k_steps
      exact h s.heap s.toks F N
    · intro A E Q s ol x t tl F N h
      k_steps
      exact h s.heap (s.toks + 1) F N
    · intro A E Q s ol v F h
      k_steps
      exact h
    · intro A E Q s ol v F h
      k_steps
      exact h
    · intro A E Q s oi x t tl F N h
      k_steps
      exact h s.heap s.toks F N
    · intro A E Q s m tl F N h
      k_steps
      exact h s.heap s.toks F N
    · intro A E Q s ol v tl F N h
      k_steps
      refine h _ _ ?_ (by assumption)
      rw [← gm_last (ol := ol)]; assumption
  | refine ⟨?_, ?_, fun _ => rfl⟩
    · intro A E Q s tl F N h
      k_steps
      refine h _ _ ?_ (by assumption)
      rw [← gm_start]; assumption
    · intro A E Q s ol oi F h
      k_steps
      exact h
end Mine
end PartWG7

noncomputable section PartWG8
theorem Mine.resetWG8 : True := by (w_top off); k_with_none; first | (walk1; done) | trivial
set_option maxRecDepth 100000
set_option linter.all false
namespace Mine
open PySem PySem.W PyProof.Rows
noncomputable def GenObj (o : Obj) (g : Nat) : Prop := o.cls = .type "generator" ∧ o.slots = #[] ∧ ∃ nm qn, o.data = .fields #[.int g 0, nm, qn]
theorem GenObj.of {h : Heap} {a : Addr} {o : Obj} {g : Nat} (x : h.IsGen a g) (e : h.get? a = some o) : GenObj o g := by
  obtain ⟨o', nm, qn, e', hc, hd, hs⟩ := x
  rw [e] at e'; cases e'
  exact ⟨hc, hs, nm, qn, hd⟩
theorem GenObj.gen {h : Heap} {a : Addr} {o : Obj} {g : Nat} (x : GenObj o g) (e : h.get? a = some o) : h.IsGen a g :=
  let ⟨hc, hs, nm, qn, hd⟩ := x; ⟨o, nm, qn, e, hc, hd, hs⟩
theorem bare_set {gens : Array GenState} {g : Nat} {gs : GenState} (h : AllBare gens) (hb : gs.bare = true) : AllBare (gens.setIfInBounds g gs) := by
  intro x hx
  rcases Array.mem_or_eq_of_mem_setIfInBounds hx with h' | rfl
  · exact h x h'
  · exact hb
theorem get_set {gens : Array GenState} {g : Nat} {x y : GenState} (h : gens[g]? = some x) : (gens.setIfInBounds g y)[g]? = some y := by
  obtain ⟨hi, _⟩ := Array.getElem?_eq_some_iff.mp h
  simp [hi]
noncomputable def GTurn (h₀ : Heap) (L : Addr) (m : Str → Option Value) (x : Str) (s : Shared) (gens : Array GenState) (D : Addr) (tl : List (Addr × Obj)) (fin : Bool) (ys : List Int) (j : Nat) (Rr : Result → Shared → Prop) (f : Flow) (s₃ : Shared) : Prop :=
  (f = .next ∧ (fin = true ∨ j + 1 < ys.length) ∧ ∃ h' tk' o' vs', s₃ = { s with heap := h', toks := tk', gens := gens } ∧ Fr h₀ L h' (upd1 m x o') ∧ News h₀ L h' ((D, listOf (vs' : List Value).toArray (j + 1)) :: tl) ∧ IntsAre vs' (ys.take (j + 1))) ∨ (f = .brk ∧ Rr (.ok .next) s₃)
theorem take_drop_one {ys : List Int} {j : Nat} {y : Int} (h : ys[j]? = some y) : ys.drop j = y :: ys.drop (j + 1) := by
  obtain ⟨hi, e⟩ := List.getElem?_eq_some_iff.mp h
  rw [List.drop_eq_getElem_cons hi, e]
section
variable {prog : Program} {w : World} {A : Around} {env : Env} {h₀ : Heap}
theorem gen_loop {x : Str} {px : Pos} {body : List Stmt} {Rr : Result → Shared → Prop} {ga Lg D : Addr} {g : Nat} {lr : Addr × Obj} {m : Str → Option Value} {ys : List Int} {fin : Bool} {s : Shared} {gs : GenState} {oG oA : Obj} {tl0 : List (Addr × Obj)}
    (cap : GCap (model prog w) A ga g Lg lr h₀ fin ys gs [(Lg, oG), lr]) (hgs : s.gens[g]? = some gs) (hbare : AllBare s.gens) (hA : GenObj oA g) (F : Fr h₀ env.locals s.heap m) (N : News h₀ env.locals s.heap ((D, listOf #[] 0) :: (Lg, oG) :: tl0)) (hga : (ga, oA) ∈ tl0) (hlr : lr ∈ tl0) (hpos : fin = false → 0 < ys.length)
    (hit : ∀ p ∈ tl0, ¬ IsIt p.2) (hLg : ∀ p ∈ tl0, p.1 ≠ Lg) (hD : ∀ p ∈ tl0, p.1 ≠ D) (hDL : D ≠ Lg)
    (turn : ∀ j y t vs o tl h tk gens, ys[j]? = some y → IntsAre vs (ys.take j) → Fr h₀ env.locals h (upd1 m x o) → News h₀ env.locals h ((D, listOf (vs : List Value).toArray j) :: tl) → (∀ q ∈ tl, q.1 ≠ D) → (∀ p ∈ tl0, p ∈ tl) → AllBare gens →
      wpAny (model prog w) A (assign (.Name x px) env (.int y t)) (fun _ s₂ => wpAny (model prog w) A (execs body env) (GTurn h₀ env.locals m x s gens D tl fin ys j Rr) (notedBy (model prog w) A env fun e s' => Rr (.error e) s') s₂) (notedBy (model prog w) A env fun e s' => Rr (.error e) s') { s with heap := h, toks := tk, gens := gens })
    (finish : ∀ vs o h tk gens, fin = true → IntsAre vs ys → Fr h₀ env.locals h (upd1 m x o) → News h₀ env.locals h ((D, listOf (vs : List Value).toArray ys.length) :: tl0) → AllBare gens → Rr (.ok .next) { s with heap := h, toks := tk, gens := gens }) :
    codeAny (model prog w) A (.forLoop (.Name x px) (.ref ga) body [] env) Rr s := by
  refine codeAny_forLoop (fun n s' => ∃ (j : Nat) (vs : List Value) (o : Option Value) (gs' : GenState) (led : List (Addr × Obj)) (oG' : Obj) (ld : List (Addr × Obj)) (h : Heap) (tk : Nat) (gens : Array GenState), n = ys.length - j ∧ j ≤ ys.length ∧ (fin = false → j < ys.length) ∧ s' = { s with heap := h, toks := tk, gens := gens } ∧ gens[g]? = some gs' ∧ AllBare gens ∧
      GCap (model prog w) A ga g Lg lr h₀ fin (ys.drop j) gs' led ∧ Holds h₀ led h ∧ (∀ p ∈ led, p ∈ (Lg, oG') :: (ld ++ tl0)) ∧ (∀ p ∈ ld, p.1 ≠ D ∧ p.1 ≠ Lg) ∧ Fr h₀ env.locals h (upd1 m x o) ∧ News h₀ env.locals h ((D, listOf vs.toArray j) :: (Lg, oG') :: (ld ++ tl0)) ∧ IntsAre vs (ys.take j)) ?_ ys.length
    ⟨0, [], m x, gs, [(Lg, oG), lr], oG, [], s.heap, s.toks, s.gens, rfl, Nat.zero_le _, hpos, rfl, hgs, hbare, cap, ⟨F.keep, fun p hp => ?_⟩, fun p hp => ?_, (fun p hp => nomatch hp), by rw [upd1_self]; exact F, N, .nil⟩
  · rintro n s' ⟨j, vs, o, gs', led, oG', ld, h, tk, gens, rfl, hj, hf, rfl, hg', hb, cap', hH, hled, hld, F', N', hI⟩
    have egA : h.IsGen ga g := hA.gen (N' _ (.tail _ (.tail _ (List.mem_append.mpr (.inr hga))))).1
    by_cases hlt : j < ys.length
    · have hy : ys[j]? = some ys[j] := List.getElem?_eq_getElem hlt
      rw [take_drop_one hy] at cap'
      refine cap' _ _ _ hg' egA hH (fun t oG2 I oI h2 tk2 gs2 hb2 hK e1 e2 e3 e4 e5 cap2 => ?_)
      have hL : ∃ oL es ep, h.get? env.locals = some oL ∧ oL.data = .dict es ep := by
        obtain ⟨oL, es, ep, a1, a2, _⟩ := F'.ns
        exact ⟨oL, es, ep, a1, a2⟩
      obtain ⟨oL, es, ep, eL, dL⟩ := hL
      have hLne : env.locals ≠ Lg := Ne.symm (N' (Lg, oG') (.tail _ (.head _))).2.1
      have eL2 : h2.get? env.locals = some oL := hK.1 _ _ hLne (fun ⟨_, fs, e⟩ => by rw [dL] at e; cases e) eL
      have hIL : I ≠ env.locals := fun e => by
        rw [e, eL2] at e2
        injection e2 with e2
        obtain ⟨_, fs, e⟩ := e3
        rw [← e2, dL] at e; cases e
      have eD := (N' (D, listOf vs.toArray j) (.head _))
      have eD2 : h2.get? D = some (listOf vs.toArray j) := hK.1 _ _ hDL (fun ⟨_, fs, e⟩ => by cases e) eD.1
      have hID : I ≠ D := fun e => by
        rw [e, eD2] at e2
        injection e2 with e2
        obtain ⟨_, fs, e⟩ := e3
        rw [← e2] at e; cases e
      have F2 : Fr h₀ env.locals h2 (upd1 m x o) := by
        refine ⟨F'.ns.at fun oo e => ?_, fun b oo e => ?_, F'.above⟩
        · exact hK.1 _ _ hLne (fun ⟨_, fs, q⟩ => by rw [eL] at e; cases e; rw [dL] at q; cases q) e
        · exact hK.2 _ _ e
      have N2 : News h₀ env.locals h2 ((D, listOf vs.toArray j) :: (Lg, oG2) :: (I, oI) :: tl0) := fun p hp => by
        rcases List.mem_cons.mp hp with rfl | hp
        · exact ⟨eD2, eD.2⟩
        · rcases List.mem_cons.mp hp with rfl | hp
          · exact ⟨e1, (N' (Lg, oG') (.tail _ (.head _))).2⟩
          · rcases List.mem_cons.mp hp with rfl | hp
            · exact ⟨e2, hIL, e4⟩
            · have q := N' p (.tail _ (.tail _ (List.mem_append.mpr (.inr hp))))
              exact ⟨hK.1 _ _ (hLg p hp) (hit p hp) q.1, q.2⟩
      have hoff : ∀ q ∈ (Lg, oG2) :: (I, oI) :: tl0, q.1 ≠ D := fun q hq => by
        rcases List.mem_cons.mp hq with rfl | hq
        · exact Ne.symm hDL
        · rcases List.mem_cons.mp hq with rfl | hq
          · exact hID
          · exact hD q hq
      refine wpAny_mono (turn j ys[j] t vs o _ h2 tk2 _ hy hI F2 N2 hoff (fun p hp => .tail _ (.tail _ hp)) (bare_set hb hb2)) (fun _ s₂ h₂ => wpAny_mono h₂ (fun f s₃ h₃ => ?_) fun _ _ e => e) fun _ _ e => e
      rcases h₃ with ⟨rfl, hfn, h3, tk3, o3, vs3, rfl, F3, N3, hI3⟩ | ⟨rfl, hR⟩
      · refine ⟨ys.length - (j + 1), by omega, j + 1, vs3, o3, gs2, [(Lg, oG2), (I, oI), lr], oG2, [(I, oI)], h3, tk3, _, rfl, hlt, fun hff => ?_, rfl, get_set hg', bare_set hb hb2, cap2, ⟨F3.keep, fun p hp => ?_⟩, fun p hp => ?_, fun p hp => ?_, F3, N3, hI3⟩
        · rcases hfn with e | e
          · rw [hff] at e; cases e
          · exact e
        · rcases List.mem_cons.mp hp with rfl | hp
          · exact (N3 _ (.tail _ (.head _))).1
          · rcases List.mem_cons.mp hp with rfl | hp
            · exact (N3 _ (.tail _ (.tail _ (.head _)))).1
            · rw [List.mem_singleton.mp hp]; exact (N3 _ (.tail _ (.tail _ (.tail _ hlr)))).1
        · rcases List.mem_cons.mp hp with rfl | hp
          · exact .head _
          · rcases List.mem_cons.mp hp with rfl | hp
            · exact .tail _ (.head _)
            · rw [List.mem_singleton.mp hp]; exact .tail _ (.tail _ hlr)
        · rw [List.mem_singleton.mp hp]; exact ⟨hID, e5⟩
      · exact hR
    · have ej : j = ys.length := by omega
      subst ej
      have hft : fin = true := by
        cases fin with
        | true => rfl
        | false => exact absurd (hf rfl) hlt
      rw [List.drop_length] at cap'
      refine cap' hft _ _ _ hg' egA hH (fun h2 tk2 hK => wpAny_execs_nil ?_)
      have hL : ∃ oL es ep, h.get? env.locals = some oL ∧ oL.data = .dict es ep := by
        obtain ⟨oL, es, ep, a1, a2, _⟩ := F'.ns
        exact ⟨oL, es, ep, a1, a2⟩
      obtain ⟨oL, es, ep, eL, dL⟩ := hL
      have hLne : env.locals ≠ Lg := Ne.symm (N' (Lg, oG') (.tail _ (.head _))).2.1
      have eD := (N' (D, listOf vs.toArray ys.length) (.head _))
      rw [List.take_length] at hI
      refine finish vs o h2 tk2 _ hft hI ⟨F'.ns.at fun oo e => ?_, fun b oo e => hK.2 _ _ e, F'.above⟩ (fun p hp => ?_) (bare_set hb rfl)
      · exact hK.1 _ _ hLne (fun ⟨_, fs, q⟩ => by rw [eL] at e; cases e; rw [dL] at q; cases q) e
      · rcases List.mem_cons.mp hp with rfl | hp
        · exact ⟨hK.1 _ _ hDL (fun ⟨_, fs, e⟩ => by cases e) eD.1, eD.2⟩
        · have q := N' p (.tail _ (.tail _ (List.mem_append.mpr (.inr hp))))
          exact ⟨hK.1 _ _ (hLg p hp) (hit p hp) q.1, q.2⟩
  · rcases List.mem_cons.mp hp with rfl | hp
    · exact (N _ (.tail _ (.head _))).1
    · rw [List.mem_singleton.mp hp]; exact (N _ (.tail _ (.tail _ hlr))).1
  · rcases List.mem_cons.mp hp with rfl | hp
    · exact .head _
    · rw [List.mem_singleton.mp hp]; exact .tail _ hlr
end
end Mine
end PartWG8

noncomputable section PartWK1
theorem Mine.resetWK1 : True := by (w_top off); k_with_none; first | (walk1; done) | trivial
set_option maxRecDepth 100000
set_option linter.all false
namespace Mine
open PySem PySem.W PyProof.Rows
/-- a statement of law, cut off: what stands behind it is said by `P` -/
noncomputable def SPost (s : Shared) (P : Heap → Prop) (f : Flow) (s₃ : Shared) : Prop := f = .next ∧ ∃ h tk, s₃ = { s with heap := h, toks := tk } ∧ P h
theorem SPost.intro {s : Shared} {P : Heap → Prop} {h : Heap} {tk : Nat} (hp : P h) : SPost s P .next { s with heap := h, toks := tk } := ⟨rfl, h, tk, rfl, hp⟩
noncomputable def LPost (s : Shared) (P : Heap → Prop) (f : Flow) (s₃ : Shared) : Prop := f = .next ∧ ∃ h tk gens, s₃ = { s with heap := h, toks := tk, gens := gens } ∧ AllBare gens ∧ P h
theorem LPost.intro {s : Shared} {P : Heap → Prop} {h : Heap} {tk : Nat} {gens : Array GenState} (hg : AllBare gens) (hp : P h) : LPost s P .next { s with heap := h, toks := tk, gens := gens } := ⟨rfl, h, tk, gens, rfl, hg, hp⟩
noncomputable def Siz (x : Int) : Prop := 2 ≤ x ∧ x ≤ 6
theorem siz_of {x : Int} : Siz (2 + x.fmod 5) := by
  have := fmod_lo x (n := 5) (by decide)
  have := fmod_hi x (n := 5) (by decide)
  unfold Siz; omega
noncomputable def Hold (p : Prop) : Prop := p
/-- the two sizes of the row -/
noncomputable def szP (h₀ : Heap) (L : Addr) (m : Str → Option Value) (act : List (Addr × Obj)) (h : Heap) : Prop := ∃ (d : Addr) (x0 x1 : Int) (t0 t1 : Tok), Siz x0 ∧ Siz x1 ∧ Fr h₀ L h (fun y => if y = Str.ofString "sizes" then some (.ref d) else m y) ∧ News h₀ L h ((d, listOf #[.int x0 t0, .int x1 t1] 0) :: act) ∧ (∀ q ∈ act, q.1 < d)
noncomputable def RowOk (e x0 x1 : Int) (orow : Obj) (fin : Bool) (ys : List Int) : Prop := GOk orow fin ys ∧ (ys = [x0, x1] ∧ e ≠ 2 ∧ fin = true ∨ ys = [x0, x1, x1] ∧ e = 2 ∧ fin = false)
noncomputable def rowP (h₀ : Heap) (L : Addr) (m : Str → Option Value) (act : List (Addr × Obj)) (e x0 x1 : Int) (h : Heap) : Prop := ∃ (lr : Addr) (orow : Obj) (fin : Bool) (ys : List Int), RowOk e x0 x1 orow fin ys ∧ Fr h₀ L h (fun y => if y = Str.ofString "row" then some (.ref lr) else m y) ∧ News h₀ L h ((lr, orow) :: act) ∧ (∀ q ∈ act, q.1 < lr)
noncomputable def dueP (h₀ : Heap) (L : Addr) (m : Str → Option Value) (rest : List (Addr × Obj)) (ys : List Int) (h : Heap) : Prop := ∃ (ld : Addr) (vs : List Value) (k : Nat) (oD : Obj), IntsAre vs ys ∧ oD.data = .cell (some (.ref ld)) ∧ @LT.lt Nat _ 37 ld ∧ Fr h₀ L h m ∧ News h₀ L h ((L + 1 + 1, oD) :: (ld, listOf vs.toArray k) :: rest)
noncomputable def toldP (h₀ : Heap) (L : Addr) (m : Str → Option Value) (rest : List (Addr × Obj)) (D : Addr) (ys : List Int) (h : Heap) : Prop := ∃ (vs : List Value) (k : Nat) (o : Option Value), IntsAre vs ys ∧ Fr h₀ L h (upd1 m (Str.ofString "size") o) ∧ News h₀ L h ((D, listOf vs.toArray k) :: rest)
section
variable {M : Model} {A : Around} {st : Stmt} {env : Env} {Q : Flow → Shared → Prop} {E : Value → Shared → Prop} {hp : Heap} {gn : Array GenState} {dr : Drawn} {tk0 : Nat} {os : OsState} {h₀ : Heap} {L : Addr} {m : Str → Option Value} {act : List (Addr × Obj)}
theorem cut_sz (F : Fr h₀ L hp m) (N : News h₀ L hp act) (h1 : wpAny M A (exec st env) (SPost ⟨hp, gn, dr, tk0, os⟩ (szP h₀ L m act)) E ⟨hp, gn, dr, tk0, os⟩)
    (h2 : ∀ d x0 x1 t0 t1 h tk, Siz x0 → Siz x1 → Fr h₀ L h (fun y => if y = Str.ofString "sizes" then some (.ref d) else m y) → News h₀ L h ((d, listOf #[.int x0 t0, .int x1 t1] 0) :: act) → (∀ q ∈ act, q.1 < d) → Q .next ⟨h, gn, dr, tk, os⟩) : wpAny M A (exec st env) Q E ⟨hp, gn, dr, tk0, os⟩ :=
  wpAny_mono h1 (fun f s' ⟨e, h, tk, e2, d, x0, x1, t0, t1, a1, a2, a3, a4, a5⟩ => by subst e; subst e2; exact h2 d x0 x1 t0 t1 h tk a1 a2 a3 a4 a5) (fun _ _ e => e)
theorem cut_row {e x0 x1 : Int} {te t0 t1 : Tok} {d : Addr} (F : Fr h₀ L hp m) (N : News h₀ L hp act) (he : m (Str.ofString "ending") = some (.int e te)) (hs : m (Str.ofString "sizes") = some (.ref d)) (hm : (d, listOf #[.int x0 t0, .int x1 t1] 0) ∈ act)
    (h1 : wpAny M A (exec st env) (SPost ⟨hp, gn, dr, tk0, os⟩ (rowP h₀ L m act e x0 x1)) E ⟨hp, gn, dr, tk0, os⟩)
    (h2 : ∀ lr orow fin ys h tk, RowOk e x0 x1 orow fin ys → Fr h₀ L h (fun y => if y = Str.ofString "row" then some (.ref lr) else m y) → News h₀ L h ((lr, orow) :: act) → (∀ q ∈ act, q.1 < lr) → Q .next ⟨h, gn, dr, tk, os⟩) : wpAny M A (exec st env) Q E ⟨hp, gn, dr, tk0, os⟩ :=
  wpAny_mono h1 (fun f s' ⟨e, h, tk, e2, lr, orow, fin, ys, a1, a2, a3, a4⟩ => by subst e; subst e2; exact h2 lr orow fin ys h tk a1 a2 a3 a4) (fun _ _ e => e)
theorem cut_due {e x0 x1 : Int} {orow : Obj} {fin : Bool} {ys : List Int} {lr dc : Addr} {oC t30 t37 : Obj} {c0 c1 c2 c3 : Int} {k0 k1 k2 k3 : Tok} {kc : Nat} (F : Fr h₀ L hp m) (N : News h₀ L hp act) (hr : RowOk e x0 x1 orow fin ys) (ml : m (Str.ofString "row") = some (.ref lr)) (mr : (lr, orow) ∈ act) (mC : (L + 1, oC) ∈ act) (hC : oC.data = .cell (some (.ref dc)))
    (mc : (dc, listOf #[.int c0 k0, .int c1 k1, .int c2 k2, .int c3 k3] kc) ∈ act) (m30 : ((30 : Addr), t30) ∈ act) (m37 : ((37 : Addr), t37) ∈ act)
    (h1 : wpAny M A (exec st env) (SPost ⟨hp, gn, dr, tk0, os⟩ (dueP h₀ L m [(lr, orow), (dc, listOf #[.int c0 k0, .int c1 k1, .int c2 k2, .int c3 k3] kc), (L + 1, oC), (30, t30), (37, t37)] ys)) E ⟨hp, gn, dr, tk0, os⟩)
    (h2 : ∀ ld vs k oD h tk, IntsAre vs ys → oD.data = .cell (some (.ref ld)) → @LT.lt Nat _ 37 ld → Fr h₀ L h m → News h₀ L h ((L + 1 + 1, oD) :: (ld, listOf vs.toArray k) :: [(lr, orow), (dc, listOf #[.int c0 k0, .int c1 k1, .int c2 k2, .int c3 k3] kc), (L + 1, oC), (30, t30), (37, t37)]) → Q .next ⟨h, gn, dr, tk, os⟩) : wpAny M A (exec st env) Q E ⟨hp, gn, dr, tk0, os⟩ :=
  wpAny_mono h1 (fun f s' ⟨e, h, tk, e2, ld, vs, k, oD, a1, a2, a3, a4, a5⟩ => by subst e; subst e2; exact h2 ld vs k oD h tk a1 a2 a3 a4 a5) (fun _ _ e => e)
theorem cut_for {e x0 x1 : Int} {orow : Obj} {fin : Bool} {ys : List Int} {D : Addr} {rest : List (Addr × Obj)} (F : Fr h₀ L hp m) (N : News h₀ L hp ((D, listOf #[] 0) :: rest)) (hr : RowOk e x0 x1 orow fin ys)
    (h1 : wpAny M A (exec st env) (LPost ⟨hp, gn, dr, tk0, os⟩ (toldP h₀ L m rest D ys)) E ⟨hp, gn, dr, tk0, os⟩)
    (h2 : ∀ vs k o h tk gens, IntsAre vs ys → AllBare gens → Fr h₀ L h (upd1 m (Str.ofString "size") o) → News h₀ L h ((D, listOf vs.toArray k) :: rest) → Hold (Q .next ⟨h, gens, dr, tk, os⟩)) : wpAny M A (exec st env) Q E ⟨hp, gn, dr, tk0, os⟩ :=
  wpAny_mono h1 (fun f s' ⟨e, h, tk, gens, e2, hg, vs, k, o, a1, a2, a3⟩ => by subst e; subst e2; exact h2 vs k o h tk gens a1 hg a2 a3) (fun _ _ e => e)
end
end Mine
namespace Mine
open PySem PySem.W PyProof.Rows
theorem bare_push {gens : Array GenState} {gs : GenState} (h : gens = #[]) (hb : gs.bare = true) : AllBare (gens.push gs) := by
  subst h
  intro x hx
  have : x = gs := by simpa using hx
  rw [this]; exact hb
theorem push_last {gens : Array GenState} {gs : GenState} : (gens.push gs)[gens.size]? = some gs := by simp
theorem notIt_gen {o : Obj} {g : Nat} (h : GenObj o g) : ¬ IsIt o := fun ⟨e, _⟩ => by
  rw [h.1] at e
  exact absurd e (by decide)
theorem notIt_cell {o : Obj} {v : Option Value} (h : o.data = .cell v) : ¬ IsIt o := fun ⟨_, fs, e⟩ => by rw [h] at e; cases e
theorem notIt_list {a : Array Value} {k : Nat} : ¬ IsIt (listOf a k) := fun ⟨_, fs, e⟩ => by cases e
theorem notIt_tab {a : Array Value} : ¬ IsIt (tabObj a) := fun ⟨e, _⟩ => by cases e
theorem notIt_row {orow : Obj} {fin : Bool} {ys : List Int} (h : GOk orow fin ys) : ¬ IsIt orow := by
  rcases h with ⟨he, _, _⟩ | ⟨he, _, _⟩ | ⟨he, _, _⟩ <;> subst he <;> exact fun ⟨_, fs, e⟩ => by cases e
theorem row_pos {e x0 x1 : Int} {orow : Obj} {fin : Bool} {ys : List Int} (h : RowOk e x0 x1 orow fin ys) : fin = false → 0 < ys.length := fun _ => by
  rcases h.2 with ⟨rfl, _⟩ | ⟨rfl, _⟩ <;> exact Nat.succ_pos _
end Mine
namespace Mine
open PySem PySem.W PyProof.Rows
section
variable {prog : Program} {w : World} {A : Around} {env : Env} {h₀ : Heap}
theorem loop_use {x : Str} {px : Pos} {body : List Stmt} {Rr : Result → Shared → Prop} {ga Lg D : Addr} {g : Nat} {lr : Addr × Obj} {m : Str → Option Value} {ys : List Int} {fin : Bool} {s : Shared} {gs : GenState} {oG oA : Obj} {rest : List (Addr × Obj)}
    (F : Fr h₀ env.locals s.heap m) (N : News h₀ env.locals s.heap ((ga, oA) :: (Lg, oG) :: (D, listOf #[] 0) :: rest)) (cap : GCap (model prog w) A ga g Lg lr h₀ fin ys gs [(Lg, oG), lr]) (hgs : s.gens[g]? = some gs) (hbare : AllBare s.gens) (hA : s.heap.IsGen ga g) (hlr : lr ∈ rest) (hpos : fin = false → 0 < ys.length)
    (hit : ∀ p ∈ rest, ¬ IsIt p.2) (l1 : ∀ p ∈ (D, listOf #[] 0) :: rest, p.1 < Lg) (l2 : @LT.lt Nat _ Lg ga) (l3 : ∀ p ∈ rest, p.1 < D)
    (turn : ∀ j y t vs o tl h tk gens, ys[j]? = some y → IntsAre vs (ys.take j) → Fr h₀ env.locals h (upd1 m x o) → News h₀ env.locals h ((D, listOf (vs : List Value).toArray j) :: tl) → (∀ q ∈ tl, q.1 ≠ D) → (∀ p ∈ rest, p ∈ tl) → AllBare gens →
      wpAny (model prog w) A (assign (.Name x px) env (.int y t)) (fun _ s₂ => wpAny (model prog w) A (execs body env) (GTurn h₀ env.locals m x s gens D tl fin ys j Rr) (notedBy (model prog w) A env fun e s' => Rr (.error e) s') s₂) (notedBy (model prog w) A env fun e s' => Rr (.error e) s') { s with heap := h, toks := tk, gens := gens })
    (finish : ∀ vs o h tk gens, fin = true → IntsAre vs ys → Fr h₀ env.locals h (upd1 m x o) → News h₀ env.locals h ((D, listOf (vs : List Value).toArray ys.length) :: rest) → AllBare gens → Rr (.ok .next) { s with heap := h, toks := tk, gens := gens }) :
    codeAny (model prog w) A (.forLoop (.Name x px) (.ref ga) body [] env) Rr s := by
  have hA2 := GenObj.of hA (N _ (.head _)).1
  have lD : @LT.lt Nat _ D Lg := l1 _ (.head _)
  refine gen_loop (D := D) (oG := oG) (tl0 := (ga, oA) :: rest) cap hgs hbare hA2 F (fun p hp => N p ?_) (.head _) (.tail _ hlr) hpos ?_ ?_ ?_ (Nat.ne_of_lt lD) (fun j y t vs o tl h tk gens a1 a2 a3 a4 a5 a6 a7 => turn j y t vs o tl h tk gens a1 a2 a3 a4 a5 (fun p hp => a6 p (.tail _ hp)) a7) (fun vs o h tk gens a1 a2 a3 a4 a5 => finish vs o h tk gens a1 a2 a3 (fun p hp => a4 p ?_) a5)
  · simp only [List.mem_cons] at hp ⊢
    rcases hp with h | h | h | h
    · exact .inr (.inr (.inl h))
    · exact .inr (.inl h)
    · exact .inl h
    · exact .inr (.inr (.inr h))
  · exact List.forall_mem_cons.mpr ⟨notIt_gen hA2, hit⟩
  · exact List.forall_mem_cons.mpr ⟨Nat.ne_of_gt l2, fun p hp => Nat.ne_of_lt (l1 p (.tail _ hp))⟩
  · exact List.forall_mem_cons.mpr ⟨Nat.ne_of_gt (Nat.lt_trans lD l2), fun p hp => Nat.ne_of_lt (l3 p hp)⟩
  · rcases List.mem_cons.mp hp with h | h
    · rw [h]; exact .head _
    · exact .tail _ (.tail _ h)
end
end Mine
namespace Mine
open PySem PySem.W PyProof.Rows
theorem GTurn.nx {h₀ : Heap} {L : Addr} {m : Str → Option Value} {x : Str} {s : Shared} {gens : Array GenState} {D : Addr} {tl : List (Addr × Obj)} {fin : Bool} {ys : List Int} {j : Nat} {Rr : Result → Shared → Prop} {h' : Heap} {tk' : Nat} {o o' : Option Value} {vs' : List Value}
    (hf : fin = true ∨ j + 1 < ys.length) (F : Fr h₀ L h' (fun y => if y = x then o' else upd1 m x o y)) (N : News h₀ L h' ((D, listOf vs'.toArray (j + 1)) :: tl)) (hI : IntsAre vs' (ys.take (j + 1))) :
    GTurn h₀ L m x s gens D tl fin ys j Rr .next { s with heap := h', toks := tk', gens := gens } := by
  refine .inl ⟨rfl, hf, h', tk', o', vs', rfl, ?_, N, hI⟩
  have e : (fun y => if y = x then o' else upd1 m x o y) = upd1 m x o' := funext fun y => by
    unfold upd1
    by_cases h : y = x
    · rw [if_pos h, if_pos h]
    · rw [if_neg h, if_neg h, if_neg h]
  rw [← e]; exact F
theorem GTurn.bk {h₀ : Heap} {L : Addr} {m : Str → Option Value} {x : Str} {s s₃ : Shared} {gens : Array GenState} {D : Addr} {tl : List (Addr × Obj)} {fin : Bool} {ys : List Int} {j : Nat} {Rr : Result → Shared → Prop} (h : Rr (.ok .next) s₃) :
    GTurn h₀ L m x s gens D tl fin ys j Rr .brk s₃ := .inr ⟨rfl, h⟩
theorem fr_twice {h₀ : Heap} {L : Addr} {h : Heap} {m : Str → Option Value} {x : Str} {o o' : Option Value} (F : Fr h₀ L h (fun y => if y = x then o' else upd1 m x o y)) : Fr h₀ L h (upd1 m x o') := by
  have e : (fun y => if y = x then o' else upd1 m x o y) = upd1 m x o' := funext fun y => by
    unfold upd1
    by_cases h : y = x
    · rw [if_pos h, if_pos h]
    · rw [if_neg h, if_neg h, if_neg h]
  rw [← e]; exact F
end Mine
end PartWK1

noncomputable section PartPM
theorem Mine.resetPM : True := by (w_top off); k_with_none; first | (walk1; done) | trivial
set_option linter.all false
namespace Mine
/-- `a` falls to `b` (turn 1), or rises to it (turn -1) -/
noncomputable abbrev Fal (tu : Int) (a b : Nat) : Prop := 0 < tu * ((a : Int) - (b : Int))
/-- the places at which a word falls, the word written from its end -/
noncomputable def maj (tu : Int) : List Nat → Int
  | [] => 0
  | g :: R => maj tu R + (match R with | [] => 0 | h :: R' => if Fal tu h g then ((h :: R').length : Int) else 0)
noncomputable def insAll (x : Nat) : List Nat → List (List Nat)
  | [] => [[x]]
  | g :: R => (x :: g :: R) :: (insAll x R).map (g :: ·)
theorem maj_two (tu : Int) (g h : Nat) (R : List Nat) : maj tu (g :: h :: R) = maj tu (h :: R) + if Fal tu h g then ((R.length : Int) + 1) else 0 := by
  rw [maj]; simp
theorem maj_one (tu : Int) (g : Nat) : maj tu [g] = 0 := rfl
theorem insAll_len {x : Nat} : ∀ {R U : List Nat}, U ∈ insAll x R → U.length = R.length + 1
  | [], U, h => by
    have := List.mem_singleton.mp h
    rw [this]; rfl
  | g :: R, U, h => by
    rcases List.mem_cons.mp h with h | h
    · rw [h]; rfl
    · obtain ⟨U', h', rfl⟩ := List.mem_map.mp h
      rw [List.length_cons, insAll_len h']; rfl
theorem fal_cases (tu : Int) (a b : Nat) : Fal tu a b ↔ tu * (b : Int) < tu * (a : Int) := by
  unfold Fal
  rw [Int.mul_sub]; omega
theorem fal_inj {tu : Int} (ht : tu = 1 ∨ tu = -1) {a b : Nat} (h : tu * (a : Int) = tu * (b : Int)) : a = b := by
  rcases ht with rfl | rfl <;> omega
theorem ins_key {tu : Int} (ht : tu = 1 ∨ tu = -1) (x : Nat) : ∀ R : List Nat,
    (∀ U ∈ insAll x R, 0 ≤ maj tu U - maj tu R ∧ maj tu U - maj tu R ≤ R.length) ∧ (∀ U ∈ insAll x R, ∀ V ∈ insAll x R, maj tu U = maj tu V → U = V)
  | [] => by
    refine ⟨fun U hU => ?_, fun U hU V hV _ => ?_⟩
    · rw [List.mem_singleton.mp hU, maj_one]; simp [maj]
    · rw [List.mem_singleton.mp hU, List.mem_singleton.mp hV]
  | [g] => by
    have key : ∀ U ∈ insAll x [g], U = [x, g] ∨ U = [g, x] := fun U hU => by simpa [insAll] using hU
    have e1 : maj tu [x, g] = if Fal tu g x then 1 else 0 := by simp [maj]
    have e2 : maj tu [g, x] = if Fal tu x g then 1 else 0 := by simp [maj]
    have c1 := fal_cases tu g x
    have c2 := fal_cases tu x g
    refine ⟨fun U hU => ?_, fun U hU V hV he => ?_⟩
    · rw [maj_one]
      rcases key U hU with rfl | rfl
      · rw [e1]; split <;> simp
      · rw [e2]; split <;> simp
    · rcases key U hU with rfl | rfl <;> rcases key V hV with rfl | rfl <;> first | rfl | skip
      all_goals
        rw [e1, e2] at he
        have : g = x := fal_inj ht (by
          by_cases a1 : Fal tu g x <;> by_cases a2 : Fal tu x g <;> simp only [a1, a2, if_true, if_false] at he <;> simp only [c1, c2] at a1 a2 <;> omega)
        rw [this]
  | g :: h :: R => by
    obtain ⟨i1, i2⟩ := ins_key ht x (h :: R)
    have key : ∀ U ∈ insAll x (g :: h :: R), U = x :: g :: h :: R ∨ U = g :: x :: h :: R ∨ ∃ U', U = g :: h :: U' ∧ h :: U' ∈ insAll x (h :: R) := fun U hU => by
      simp only [insAll, List.map_cons, List.mem_cons, List.map_map, List.mem_map] at hU ⊢
      rcases hU with h | h | ⟨U', h, e⟩
      · exact .inl h
      · exact .inr (.inl h)
      · exact .inr (.inr ⟨U', e.symm, .inr ⟨U', h, rfl⟩⟩)
    have m0 : x :: h :: R ∈ insAll x (h :: R) := .head _
    have ea := maj_two tu x g (h :: R)
    have eb := maj_two tu g x (h :: R)
    have e0 := maj_two tu x h R
    have eg := maj_two tu g h R
    have ec := fun U' => maj_two tu g h U'
    simp only [List.length_cons] at ea eb i1 ⊢
    have c1 := fal_cases tu g x
    have c2 := fal_cases tu x g
    have c3 := fal_cases tu h x
    have c4 := fal_cases tu h g
    have ab : maj tu (x :: g :: h :: R) = maj tu (g :: x :: h :: R) → x = g := fun he => fal_inj ht <| by
      rw [ea, eb, e0, eg] at he
      by_cases a1 : Fal tu g x <;> by_cases a2 : Fal tu x g <;> by_cases a3 : Fal tu h x <;> by_cases a4 : Fal tu h g <;> simp only [a1, a2, a3, a4, if_true, if_false] at he <;> simp only [c1, c2, c3, c4] at a1 a2 a3 a4 <;> omega
    have low : ∀ U', h :: U' ∈ insAll x (h :: R) → (U'.length : Int) = R.length + 1 ∧ 0 ≤ maj tu (h :: U') - maj tu (h :: R) ∧ maj tu (h :: U') - maj tu (h :: R) ≤ (R.length : Int) + 1 ∧ (maj tu (h :: U') = maj tu (x :: h :: R) → h = x ∧ U' = h :: R) := fun U' hU => by
      refine ⟨?_, (i1 _ hU).1, by have := (i1 _ hU).2; omega, fun he => ?_⟩
      · have := insAll_len hU
        simp only [List.length_cons] at this; omega
      · have := i2 _ hU _ m0 he
        injection this with a b
        exact ⟨a, b⟩
    have ac : ∀ U', h :: U' ∈ insAll x (h :: R) → maj tu (x :: g :: h :: R) = maj tu (g :: h :: U') → x :: g :: h :: R = g :: h :: U' := fun U' hU he => by
      obtain ⟨l0, l1, l2, l3⟩ := low U' hU
      rw [ea, eg, ec, l0] at he
      rw [e0] at l3
      by_cases q : maj tu (h :: U') = maj tu (h :: R) + if Fal tu h x then ((R.length : Int) + 1) else 0
      · obtain ⟨hx, hU2⟩ := l3 q
        have : g = h := fal_inj ht <| by
          have hx' : tu * (h : Int) = tu * (x : Int) := by rw [hx]
          clear l3
          by_cases a1 : Fal tu g x <;> by_cases a2 : Fal tu x g <;> by_cases a3 : Fal tu h x <;> by_cases a4 : Fal tu h g <;> simp only [a1, a2, a3, a4, if_true, if_false] at he q <;> simp only [c1, c2, c3, c4] at a1 a2 a3 a4 <;> omega
        subst hx; subst hU2
        rw [this]
      · exfalso
        clear l3
        by_cases a1 : Fal tu g x <;> by_cases a2 : Fal tu x g <;> by_cases a3 : Fal tu h x <;> by_cases a4 : Fal tu h g <;> simp only [a1, a2, a3, a4, if_true, if_false] at he q <;> simp only [c1, c2, c3, c4] at a1 a2 a3 a4 <;> omega
    have bc : ∀ U', h :: U' ∈ insAll x (h :: R) → maj tu (g :: x :: h :: R) = maj tu (g :: h :: U') → g :: x :: h :: R = g :: h :: U' := fun U' hU he => by
      obtain ⟨l0, l1, l2, l3⟩ := low U' hU
      rw [eb, ec, e0, l0] at he
      rw [e0] at l3
      by_cases q : maj tu (h :: U') = maj tu (h :: R) + if Fal tu h x then ((R.length : Int) + 1) else 0
      · obtain ⟨rfl, rfl⟩ := l3 q
        rfl
      · exfalso
        clear l3
        by_cases a1 : Fal tu g x <;> by_cases a2 : Fal tu x g <;> by_cases a3 : Fal tu h x <;> by_cases a4 : Fal tu h g <;> simp only [a1, a2, a3, a4, if_true, if_false] at he q <;> simp only [c1, c2, c3, c4] at a1 a2 a3 a4 <;> omega
    refine ⟨fun U hU => ?_, fun U hU V hV he => ?_⟩
    · rw [eg]
      rcases key U hU with rfl | rfl | ⟨U', rfl, hU'⟩
      · rw [ea, eg]
        by_cases a1 : Fal tu g x <;> by_cases a2 : Fal tu x g <;> by_cases a3 : Fal tu h x <;> by_cases a4 : Fal tu h g <;> simp only [a1, a2, a3, a4, if_true, if_false] at ⊢ <;> simp only [c1, c2, c3, c4] at a1 a2 a3 a4 <;> omega
      · rw [eb, e0]
        by_cases a1 : Fal tu g x <;> by_cases a2 : Fal tu x g <;> by_cases a3 : Fal tu h x <;> by_cases a4 : Fal tu h g <;> simp only [a1, a2, a3, a4, if_true, if_false] at ⊢ <;> simp only [c1, c2, c3, c4] at a1 a2 a3 a4 <;> omega
      · obtain ⟨l0, l1, l2, l3⟩ := low U' hU'
        clear l3
        rw [ec, l0]
        by_cases a1 : Fal tu g x <;> by_cases a2 : Fal tu x g <;> by_cases a3 : Fal tu h x <;> by_cases a4 : Fal tu h g <;> simp only [a1, a2, a3, a4, if_true, if_false] at ⊢ <;> simp only [c1, c2, c3, c4] at a1 a2 a3 a4 <;> omega
    · rcases key U hU with rfl | rfl | ⟨U', rfl, hU'⟩ <;> rcases key V hV with rfl | rfl | ⟨V', rfl, hV'⟩
      · rfl
      · rw [ab he]
      · exact ac V' hV' he
      · rw [ab he.symm]
      · rfl
      · exact bc V' hV' he
      · exact (ac U' hU' he.symm).symm
      · exact (bc U' hU' he.symm).symm
      · have l1 := low U' hU'
        have l2 := low V' hV'
        rw [ec, ec, l1.1, l2.1] at he
        rw [i2 _ hU' _ hV' (by omega)]
end Mine
end PartPM

noncomputable section PartP5
theorem Mine.resetP5 : True := by (w_top off); k_with_none; first | (walk1; done) | trivial
set_option linter.all false
namespace Mine
open PySem PySem.W PyProof.Rows
/-- the sum of the places, each as often as its item says -/
noncomputable def wsum : List Int → Int
  | [] => 0
  | _ :: r => r.sum + wsum r
noncomputable def dqt (b : Int) : List Int → Int
  | [] => 0
  | _ :: r => dval b r + dqt b r
theorem dval_sum (b : Int) : ∀ l : List Int, dval b l = l.sum + (b - 1) * dqt b l
  | [] => by simp [dval, dqt]
  | d :: r => by
    have ih := dval_sum b r
    rw [dval, dqt, List.sum_cons, Int.mul_add]
    have : b * dval b r = dval b r + (b - 1) * dval b r := by rw [Int.sub_mul]; omega
    rw [this]; omega
theorem dqt_wsum (b : Int) : ∀ l : List Int, ∃ k, dqt b l = wsum l + (b - 1) * k
  | [] => ⟨0, by simp [dqt, wsum]⟩
  | d :: r => by
    obtain ⟨k, h⟩ := dqt_wsum b r
    refine ⟨dqt b r + k, ?_⟩
    rw [dqt, wsum, dval_sum b r, Int.mul_add]; omega
noncomputable def tri : Nat → Int
  | 0 => 0
  | n + 1 => n + tri n
theorem tri_le {n : Nat} (h : n ≤ 6) : tri n ≤ 15 := by
  have : ∀ k < 7, tri k ≤ 15 := by decide
  exact this n (by omega)
theorem wsum_bnd : ∀ {l : List Int}, (∀ x ∈ l, x = 0 ∨ x = 1) → (0 ≤ l.sum ∧ l.sum ≤ l.length) ∧ 0 ≤ wsum l ∧ wsum l ≤ tri l.length
  | [], _ => by simp [wsum, tri]
  | d :: r, h => by
    obtain ⟨⟨a1, a2⟩, a3, a4⟩ := wsum_bnd (l := r) fun x hx => h x (.tail _ hx)
    have hd := h d (.head _)
    rw [List.sum_cons, wsum, List.length_cons, tri]
    omega
theorem sum_snoc (l : List Int) (d : Int) : (l ++ [d]).sum = l.sum + d := by
  rw [List.sum_append]; simp
theorem wsum_snoc : ∀ (l : List Int) (d : Int), wsum (l ++ [d]) = wsum l + l.length * d
  | [], d => by simp [wsum]
  | e :: r, d => by
    rw [List.cons_append, wsum, wsum, wsum_snoc r d, sum_snoc, List.length_cons, Int.natCast_add, Int.add_mul]
    simp; omega
theorem places_of {b : Int} (hb : 32 ≤ b) {l : List Int} (h : ∀ x ∈ l, x = 0 ∨ x = 1) (hl : l.length ≤ 6) : dval b l / (b - 1) % (b - 1) = wsum l := by
  obtain ⟨⟨a1, a2⟩, a3, a4⟩ := wsum_bnd h
  have a5 := tri_le hl
  have e : dval b l / (b - 1) = dqt b l := by
    rw [dval_sum, Int.add_mul_ediv_left _ _ (by omega), Int.ediv_eq_zero_of_lt a1 (by omega)]
    omega
  obtain ⟨k, hk⟩ := dqt_wsum b l
  rw [e, hk, Int.add_mul_emod_self_left]
  exact Int.emod_eq_of_lt a3 (by omega)
theorem getD_app {A B : List Nat} {i : Nat} (h : i < A.length) : (A ++ B).getD i 0 = A.getD i 0 := by
  simp only [List.getD_eq_getElem?_getD, List.getElem?_append_left h]
theorem getD_last {A : List Nat} {g : Nat} : (A ++ [g]).getD A.length 0 = g := by
  simp [List.getD_eq_getElem?_getD]
theorem fallV_fal {tu : Int} (ht : tu = 1 ∨ tu = -1) (a b : Nat) : fallV tu a b = if Fal tu a b then 1 else 0 := by
  unfold fallV Fal b2i
  rcases ht with rfl | rfl <;> by_cases h1 : b < a <;> by_cases h2 : a < b <;> simp only [h1, h2, decide_true, decide_false] <;> (try omega) <;> (repeat' split) <;> simp_all <;> omega
theorem steps_snoc {tu : Int} {U : List Nat} {g : Nat} : steps tu (U ++ [g]) (U.length + 1) = steps tu U U.length ++ [stp tu (U ++ [g]) U.length] := by
  rw [steps_succ]
  congr 1
  unfold steps
  refine List.map_congr_left fun i hi => ?_
  have hi := List.mem_range.mp hi
  unfold stp
  rw [getD_app hi, getD_app (by omega)]
theorem stp_last {tu : Int} (ht : tu = 1 ∨ tu = -1) {U : List Nat} {h g : Nat} : stp tu ((U ++ [h]) ++ [g]) (U ++ [h]).length = if Fal tu h g then 1 else 0 := by
  have e : (U ++ [h]).length ≠ 0 := by simp
  unfold stp
  rw [if_neg e, getD_last, getD_app (by simp), List.length_append, List.length_singleton, Nat.add_sub_cancel, getD_last]
  exact fallV_fal ht h g
theorem wsum_steps {tu : Int} (ht : tu = 1 ∨ tu = -1) : ∀ R : List Nat, wsum (steps tu R.reverse R.length) = maj tu R
  | [] => rfl
  | [g] => by rw [maj_one]; rfl
  | g :: h :: R => by
    have ih := wsum_steps ht (h :: R)
    rw [List.reverse_cons, List.length_cons]
    have e : (h :: R).length = (h :: R).reverse.length := by rw [List.length_reverse]
    rw [e, steps_snoc, wsum_snoc, ← e, ih, steps_len, maj_two]
    congr 1
    have := stp_last ht (U := R.reverse) (h := h) (g := g)
    rw [List.reverse_cons, e, List.reverse_cons, this, ← List.reverse_cons, ← e]
    split <;> simp
theorem stepS_snoc {tu : Int} {U : List Nat} {h g : Nat} : stepS tu (U ++ [h] ++ [g]) = stepS tu (U ++ [h]) + if Fal tu h g then (U.length : Int) + 1 else 0 := by
  have e1 : (((U ++ [h] ++ [g]).length : Int) - 1).toNat = U.length + 1 := by simp only [List.length_append, List.length_singleton]; omega
  have e2 : (((U ++ [h]).length : Int) - 1).toNat = U.length := by simp only [List.length_append, List.length_singleton]; omega
  have e3 : (List.range U.length).filter (stepT tu (U ++ [h] ++ [g])) = (List.range U.length).filter (stepT tu (U ++ [h])) := by
    refine List.filter_congr fun i hi => ?_
    have hi := List.mem_range.mp hi
    unfold stepT
    rw [getD_app (by simp only [List.length_append, List.length_singleton]; omega), getD_app (A := U ++ [h]) (i := (1 + (i : Int)).toNat) (by simp only [List.length_append, List.length_singleton]; omega)]
  have e4 : stepT tu (U ++ [h] ++ [g]) U.length = decide (Fal tu h g) := by
    unfold stepT Fal
    have a1 : (1 + (U.length : Int) - 1).toNat = U.length := by omega
    have a2 : (1 + (U.length : Int)).toNat = (U ++ [h]).length := by simp only [List.length_append, List.length_singleton]; omega
    rw [a1, a2, getD_last, getD_app (by simp), getD_last]
  unfold stepS
  rw [e1, e2, List.range_succ, List.filter_append, e3, List.map_append, List.sum_append]
  congr 1
  by_cases hf : Fal tu h g
  · rw [if_pos hf, List.filter_cons, e4, if_pos (decide_eq_true hf)]
    simp; omega
  · rw [if_neg hf, List.filter_cons, e4, if_neg (by simpa using hf)]
    rfl
theorem stepS_maj (tu : Int) : ∀ R : List Nat, stepS tu R.reverse = maj tu R
  | [] => rfl
  | [g] => by rw [maj_one]; rfl
  | g :: h :: R => by
    have ih := stepS_maj tu (h :: R)
    rw [List.reverse_cons] at ih
    rw [List.reverse_cons, List.reverse_cons, stepS_snoc, ih, maj_two, List.length_reverse]
theorem ins_mem (x : Nat) : ∀ A B : List Nat, A ++ x :: B ∈ insAll x (A ++ B)
  | [], [] => .head _
  | [], _ :: _ => .head _
  | a :: A, B => .tail _ (List.mem_map.mpr ⟨_, ins_mem x A B, rfl⟩)
theorem two_ins {tu : Int} (ht : tu = 1 ∨ tu = -1) {x : Nat} {A B C D : List Nat} (hG : A ++ B = C ++ D) {z : Int} (hz : ((A ++ B).length : Int) + 1 = z) (h : (stepS tu (A ++ x :: B) - stepS tu (C ++ x :: D)).fmod z = 0) : A ++ x :: B = C ++ x :: D := by
  have m1 : (A ++ x :: B).reverse ∈ insAll x (A ++ B).reverse := by
    have := ins_mem x B.reverse A.reverse
    simpa using this
  have m2 : (C ++ x :: D).reverse ∈ insAll x (A ++ B).reverse := by
    have := ins_mem x D.reverse C.reverse
    rw [hG]; simpa using this
  obtain ⟨k1, k2⟩ := ins_key ht x (A ++ B).reverse
  have q1 := k1 _ m1
  have q2 := k1 _ m2
  have e1 := stepS_maj tu (A ++ x :: B).reverse
  have e2 := stepS_maj tu (C ++ x :: D).reverse
  rw [List.reverse_reverse] at e1 e2
  rw [e1, e2, Int.fmod_eq_emod_of_nonneg _ (by omega)] at h
  rw [List.length_reverse] at q1 q2
  have : maj tu (A ++ x :: B).reverse = maj tu (C ++ x :: D).reverse := by
    have h1 := Int.emod_add_mul_ediv (maj tu (A ++ x :: B).reverse - maj tu (C ++ x :: D).reverse) z
    rw [h] at h1
    generalize (maj tu (A ++ x :: B).reverse - maj tu (C ++ x :: D).reverse) / z = k at h1
    have hk : k = 0 := by
      rcases Int.lt_trichotomy k 0 with hk | hk | hk
      · have : z * k ≤ z * (-1) := Int.mul_le_mul_of_nonneg_left (by omega) (by omega)
        omega
      · exact hk
      · have : z * 1 ≤ z * k := Int.mul_le_mul_of_nonneg_left (by omega) (by omega)
        omega
    subst hk; omega
  have := k2 _ m1 _ m2 this
  simpa using congrArg List.reverse this
theorem sumC_mid (A B : List Nat) (x : Nat) : sumC (A ++ x :: B) = sumC (A ++ B) + ((x : Int) - 97) := by
  unfold sumC
  simp only [List.map_append, List.map_cons, List.sum_append, List.sum_cons]; omega
theorem fold_found {lt pl z tu : Int} {W : List Nat} (hg : good lt pl z tu W) : ∀ (l fs : List (List Nat)), (fs = [] ∨ fs = [W]) → (∀ V ∈ l, good lt pl z tu V → V = W) → (W ∈ l ∨ fs = [W]) → l.foldl (fstep lt pl z tu) fs = [W]
  | [], fs, _, _, h => h.elim (fun h => nomatch h) id
  | V :: l, fs, hf, ho, h => by
    rw [List.foldl_cons]
    refine fold_found hg l _ ?_ (fun U hU => ho U (.tail _ hU)) ?_
    · unfold fstep
      split
      · rename_i hV
        have := ho V (.head _) hV.1
        subst this
        rcases hf with rfl | rfl
        · exact .inr rfl
        · exact absurd (.head _) hV.2
      · exact hf
    · rcases h with h | h
      · rcases List.mem_cons.mp h with rfl | h
        · refine .inr ?_
          unfold fstep
          rcases hf with rfl | rfl
          · rw [if_pos ⟨hg, List.not_mem_nil⟩]; rfl
          · rw [if_neg fun h => h.2 (.head _)]
        · exact .inl h
      · refine .inr ?_
        subst h
        unfold fstep
        split
        · rename_i hV
          have := ho V (.head _) hV.1
          subst this
          exact absurd (.head _) hV.2
        · rfl
theorem letters_of (W : List Nat) : sentN W % 31 = (sumC W).fmod 31 := by
  unfold sentN sumC
  rw [Int.fmod_eq_emod_of_nonneg _ (by decide), show (2 : Int) ^ Int.toNat 5 = 32 by decide, dval_sum, show (32 : Int) - 1 = 31 by decide, Int.add_mul_emod_self_left]
theorem found_eq {z n tu : Int} {W H : List Nat} (hz : 2 ≤ z ∧ z ≤ 6) (hlen : W.length = z.toNat) (hl : ∀ c ∈ W, 97 ≤ c ∧ c < 123) (hi : Ins W H ∨ Ins H W) (hn : 5 ≤ n ∧ n ≤ 12) (ht : tu = 1 ∨ tu = -1) :
    foundOf z (sentN W % 31) (sentP tu n W / (2 ^ n.toNat - 1) % (2 ^ n.toNat - 1)) tu H = [W] := by
  have hp : sentP tu n W / (2 ^ n.toNat - 1) % (2 ^ n.toNat - 1) = stepS tu W := by
    unfold sentP
    have hb : (32 : Int) ≤ 2 ^ n.toNat := by
      have : 2 ^ 5 ≤ 2 ^ n.toNat := Nat.pow_le_pow_right (by decide : 0 < 2) (by omega : 5 ≤ n.toNat)
      exact_mod_cast this
    rw [places_of hb (fun x hx => by
      obtain ⟨k, _, rfl⟩ := List.mem_map.mp hx
      exact stp_01 ht W k) (by rw [steps_len]; omega)]
    have e1 := wsum_steps ht W.reverse
    have e2 := stepS_maj tu W.reverse
    rw [List.reverse_reverse] at e1 e2
    rw [List.length_reverse] at e1
    rw [e1, e2]
  rw [hp, letters_of]
  have hg : good ((sumC W).fmod 31) (stepS tu W) z tu W := ⟨rfl, by rw [Int.sub_self]; exact Int.zero_fmod _⟩
  unfold foundOf
  rcases hi with ⟨P, x, Q, rfl, rfl, hx⟩ | ⟨P, x, Q, rfl, rfl, hx⟩
  · have tr : triesOf z ((sumC (P ++ Q)).fmod 31) (P ++ x :: Q) = (List.range ((P ++ x :: Q).length)).map (tryL (P ++ x :: Q)) := by
      unfold triesOf
      have : ((P ++ x :: Q).length : Int) = z + 1 := by simp only [List.length_append, List.length_cons] at hlen ⊢; omega
      rw [if_neg (by omega)]
      congr 2
      try omega
    rw [tr]
    refine fold_found hg _ [] (.inl rfl) ?_ (.inl ?_)
    · intro V hV hgV
      obtain ⟨i, hi, rfl⟩ := List.mem_map.mp hV
      have hi := List.mem_range.mp hi
      have e1 : (0 + (i : Int)).toNat = i := by omega
      have e2 : (0 + (i : Int) + 1).toNat = i + 1 := by omega
      unfold tryL at hgV ⊢
      rw [e1, e2] at hgV ⊢
      obtain ⟨A, y, B, hH, hA⟩ : ∃ A y B, P ++ x :: Q = A ++ y :: B ∧ A.length = i := by
        refine ⟨(P ++ x :: Q).take i, (P ++ x :: Q)[i], (P ++ x :: Q).drop (i + 1), ?_, by rw [List.length_take]; omega⟩
        rw [List.getElem_cons_drop, List.take_append_drop]
      have hy : 97 ≤ y ∧ y < 123 := by
        have : y ∈ P ++ x :: Q := by rw [hH]; simp
        rcases List.mem_append.mp this with h | h
        · exact hl y (List.mem_append.mpr (.inl h))
        · rcases List.mem_cons.mp h with h | h
          · rw [h]; exact hx
          · exact hl y (List.mem_append.mpr (.inr h))
      have hV : (P ++ x :: Q).take i ++ (P ++ x :: Q).drop (i + 1) = A ++ B := by
        rw [hH, ← hA]
        simp
      rw [hV] at hgV ⊢
      obtain ⟨g1, g2⟩ := hgV
      have s1 := sumC_mid P Q x
      have s2 := sumC_mid A B y
      rw [hH] at s1
      have hxy : y = x := by
        rw [Int.fmod_eq_emod_of_nonneg _ (by decide), Int.fmod_eq_emod_of_nonneg _ (by decide)] at g1
        omega
      subst hxy
      rcases List.append_eq_append_iff.mp hH with ⟨M, h1, h2⟩ | ⟨M, h1, h2⟩
      · cases M with
        | nil =>
          simp only [List.append_nil] at h1
          simp only [List.nil_append, List.cons.injEq, true_and] at h2
          rw [h1, h2]
        | cons m M =>
          simp only [List.cons_append, List.cons.injEq] at h2
          obtain ⟨rfl, rfl⟩ := h2
          subst h1
          have r := two_ins ht (x := y) (A := P) (B := M ++ B) (C := P ++ M) (D := B) (z := z) (by simp) (by simp only [List.length_append, List.length_cons] at hlen ⊢; omega) (by simpa using g2)
          simpa using r
      · cases M with
        | nil =>
          simp only [List.append_nil] at h1
          simp only [List.nil_append, List.cons.injEq, true_and] at h2
          rw [h1, ← h2]
        | cons m M =>
          simp only [List.cons_append, List.cons.injEq] at h2
          obtain ⟨rfl, rfl⟩ := h2
          subst h1
          have r := two_ins ht (x := y) (A := A ++ M) (B := Q) (C := A) (D := M ++ Q) (z := z) (by simp) (by simp only [List.length_append, List.length_cons] at hlen ⊢; omega) (by simpa using g2)
          simpa using r
    · refine List.mem_map.mpr ⟨P.length, List.mem_range.mpr (by simp), ?_⟩
      have e1 : (0 + (P.length : Int)).toNat = P.length := by omega
      have e2 : (0 + (P.length : Int) + 1).toNat = P.length + 1 := by omega
      unfold tryL
      rw [e1, e2]
      simp
  · have hx' : lackOf ((sumC (P ++ x :: Q)).fmod 31) (P ++ Q) = x := by
      unfold lackOf
      have s1 := sumC_mid P Q x
      change (97 + ((sumC (P ++ x :: Q)).fmod 31 - sumC (P ++ Q)).fmod 31).toNat = x
      rw [s1, Int.fmod_eq_emod_of_nonneg _ (by decide), Int.fmod_eq_emod_of_nonneg _ (by decide)]
      omega
    have tr : triesOf z ((sumC (P ++ x :: Q)).fmod 31) (P ++ Q) = (List.range z.toNat).map (tryS (P ++ Q) x) := by
      unfold triesOf
      have : ((P ++ Q).length : Int) < z := by simp only [List.length_append, List.length_cons] at hlen ⊢; omega
      rw [if_pos this, hx']
      congr 2
      try omega
    have hG : ((P ++ Q).length : Int) + 1 = z := by simp only [List.length_append, List.length_cons] at hlen ⊢; omega
    rw [tr]
    refine fold_found hg _ [] (.inl rfl) ?_ (.inl ?_)
    · intro V hV hgV
      obtain ⟨i, hi, rfl⟩ := List.mem_map.mp hV
      have e1 : (0 + (i : Int)).toNat = i := by omega
      unfold tryS at hgV ⊢
      rw [e1] at hgV ⊢
      rw [List.append_assoc] at hgV ⊢
      exact two_ins ht (A := (P ++ Q).take i) (B := (P ++ Q).drop i) (C := P) (D := Q) (by rw [List.take_append_drop]) (z := z) (by rw [List.take_append_drop]; exact hG) hgV.2
    · refine List.mem_map.mpr ⟨P.length, List.mem_range.mpr (by simp only [List.length_append, List.length_cons] at hlen; omega), ?_⟩
      have e1 : (0 + (P.length : Int)).toNat = P.length := by omega
      unfold tryS
      rw [e1]
      simp
end Mine
end PartP5

noncomputable section PartWK2
theorem Mine.resetWK2 : True := by (w_top off); k_with_none; first | (walk1; done) | trivial
set_option maxRecDepth 100000
set_option linter.all false
namespace Mine
open PySem PySem.W PyProof.Rows
section
variable {w : World} {act zn pre news : List (Addr × Obj)} {dp un : Nat} {gd : Option (List Code)} {cn : Str} {cs : Scope} {a : Addr} {ccd : Value} {cl : List (Str × Addr)} {outer : List Env} {A₀ : Around} {base h₀ : Heap} {L : Addr} {m : Str → Option Value} {s : Shared} {loose : List Str} {mean : ExcName → Option Value} {mg mb : Str → Option Value} {Q E : Value → Shared → Prop}
theorem block_use (B : Below A₀ base outer h₀) (F : Fr h₀ L s.heap m) (X : (KA w.params).In h₀) (N : News h₀ L s.heap act) (T : Top topProg loose mean mg mb h₀) (hk : cs.kind = .function) (hd : dp + 40 < recursionLimit) (hu : un + 400 < cLine) {c z : Int} {tc tz : Tok} (hc : Cell c) (hz : Siz z)
    (hR : ∀ D W H V t1 t2 t3 h' tk', BRes z W H V → Fr h₀ L h' m → News h₀ L h' ((D, tupObj #[.str ⟨W.toArray⟩ t1, .str ⟨V.toArray⟩ t2, .str ⟨H.toArray⟩ t3] 0) :: act) → (∀ q ∈ act, q.1 < D) → Q (.ref D) { s with heap := h', toks := tk' }) :
    wpAny (model PySem.Challenge.rw_ul0025_01.row.prog w) (ktrTop dp un gd cn cs L a ccd cl outer) (call (.ref 155) [.int c tc, .int z tz]) Q E s :=
  (block_ctr w c z tc tz hc.1 hc.2 hz).use B F X N T hk hd hu (by
    rintro v own h' tk' ⟨D, W, H, V, t1, t2, t3, rfl, rfl, hb⟩ F' N' ha
    exact hR D W H V t1 t2 t3 h' tk' hb F' N' (ha _ (.head _)))
theorem found_use (B : Below A₀ base outer h₀) (F : Fr h₀ L s.heap m) (X : (KA w.params).In h₀) (N : News h₀ L s.heap act) (T : Top topProg loose mean mg mb h₀) (hk : cs.kind = .function) (hd : dp + 40 < recursionLimit) (hu : un + 400 < cLine) {W H V : List Nat} {z n lt pl tu : Int} {th tz tl tp tt : Tok} (hb : BRes z W H V) (hz : Siz z) (hn : 5 ≤ n ∧ n ≤ 12) (htu : tu = 1 ∨ tu = -1) (hlt : lt = sentN W % 31) (hpl : pl = sentP tu n W / (2 ^ n.toNat - 1) % (2 ^ n.toNat - 1))
    (hR : ∀ D t k h' tk', Fr h₀ L h' m → News h₀ L h' ((D, listOf #[.str ⟨W.toArray⟩ t] k) :: act) → (∀ q ∈ act, q.1 < D) → Q (.ref D) { s with heap := h', toks := tk' }) :
    wpAny (model PySem.Challenge.rw_ul0025_01.row.prog w) (ktrTop dp un gd cn cs L a ccd cl outer) (call (.ref 172) [.str ⟨H.toArray⟩ th, .int z tz, .int lt tl, .int pl tp, .int tu tt]) Q E s := by
  subst hlt
  subst hpl
  have hl : ∀ c ∈ W, 97 ≤ c ∧ c < 123 := fun c hc => letter_rng c (hb.lets c hc)
  have hlen := hb.len
  have hf := found_eq hz hlen hl hb.ins hn htu
  obtain ⟨hH, hc⟩ : ((H.length : Int) = z - 1 ∨ (H.length : Int) = z + 1) ∧ ∀ c ∈ H, c < 128 := by
    unfold Siz at hz
    rcases hb.ins with ⟨P, x, Q, rfl, rfl, hx⟩ | ⟨P, x, Q, rfl, rfl, hx⟩
    · refine ⟨.inr (by simp only [List.length_append, List.length_cons] at hlen ⊢; omega), fun c hc => ?_⟩
      rcases List.mem_append.mp hc with h | h
      · have := hl c (List.mem_append.mpr (.inl h)); omega
      · rcases List.mem_cons.mp h with h | h
        · omega
        · have := hl c (List.mem_append.mpr (.inr h)); omega
    · refine ⟨.inl (by simp only [List.length_append, List.length_cons] at hlen ⊢; omega), fun c hc => ?_⟩
      have := hl c (by
        rcases List.mem_append.mp hc with h | h
        · exact List.mem_append.mpr (.inl h)
        · exact List.mem_append.mpr (.inr (.tail _ h)))
      omega
  exact (found_ctr w H z _ _ tu th tz tl tp tt hz hH hc htu).use B F X N T hk hd hu (by
    rintro v own h' tk' ⟨D, ws, k, rfl, rfl, ht⟩ F' N' ha
    rw [hf] at ht
    rcases ht with _ | ⟨_, t, _ | _⟩
    exact hR D t k h' tk' F' N' (ha _ (.head _)))
theorem sent_use (B : Below A₀ base outer h₀) (F : Fr h₀ L s.heap m) (X : (KA w.params).In h₀) (N : News h₀ L s.heap act) (T : Top topProg loose mean mg mb h₀) (hk : cs.kind = .function) (cx : Cx zn act pre) (hz : TabZ news zn) (hp : Off pre) (C1 : CodeHd base 34 30) (C2 : CodeHd base 41 37) {W H V : List Nat} {z n tu : Int} {tw tn tt : Tok} (hb : BRes z W H V) (hzz : Siz z) (hn : 5 ≤ n ∧ n ≤ 12) (htu : tu = 1 ∨ tu = -1) (hd : dp + 100 < recursionLimit) (hu : un + 16 * 100 < cLine)
    (hR : ∀ d lt pl t1 t2 zn' h' tk', lt = sentN W % 31 → pl = sentP tu n W / (2 ^ n.toNat - 1) % (2 ^ n.toNat - 1) → @LT.lt Nat _ 37 d → TabZ news zn' → Fr h₀ L h' m → News h₀ L h' ((d, tupObj #[.int lt t1, .int pl t2] 0) :: (pre ++ zn')) → Q (.ref d) { s with heap := h', toks := tk' }) :
    wpAny (model PySem.Challenge.rw_ul0025_01.row.prog w) (ktrTop dp un gd cn cs L a ccd cl outer) (call (.ref 167) [.str ⟨W.toArray⟩ tw, .int n tn, .int tu tt]) Q E s :=
  CtrZ.use B F X N cx hz hp (sent_z w W (by have := hb.len; unfold Siz at hzz; omega) (fun c hc => letter_rng c (hb.lets c hc)) n hn tu htu tw tn tt _) T C1 C2 hk hd hu (by
    rintro v own zn' h' tk' ⟨d, t1, t2, rfl, rfl, g⟩ hz' F' N'
    exact hR d _ _ t1 t2 zn' h' tk' rfl rfl g hz' F' N')
end
theorem end_grow {I C D : Addr} {oI oC oD : Obj} {own : Addr × Obj} {S : List (Addr × Obj) → Prop} {rest : Value → List (Addr × Obj) → Prop} {y : Value} {h₀ h' : Heap} {L : Addr} {m : Str → Option Value} {s₁ : Shared} {tk : Nat} {news : List (Addr × Obj)}
    (F : Fr h₀ L h' m) (N : News h₀ L h' (own :: (I, oI) :: (C, oC) :: (D, oD) :: news)) (off : LCg.Off3 I C D news) (lt : ∀ q ∈ (I, oI) :: (C, oC) :: (D, oD) :: news, q.1 < own.1) (hS : S (own :: news)) (r : rest y (own :: news)) :
    LCg.CompEnd h₀ L m s₁ I oI C oC D oD S rest y { s₁ with heap := h', toks := tk } := by
  refine LCg.CompEnd.intro F N (own :: news) (fun p hp => ?_) ⟨⟨?_, ?_, ?_⟩, off⟩ hS r
  · simp only [List.mem_cons] at hp ⊢
    rcases hp with h | h | h | h | h
    · exact .inr (.inl h)
    · exact .inr (.inr (.inl h))
    · exact .inr (.inr (.inr (.inl h)))
    · exact .inl h
    · exact .inr (.inr (.inr (.inr h)))
  · exact Nat.ne_of_gt (lt _ (.head _))
  · exact Nat.ne_of_gt (lt _ (.tail _ (.head _)))
  · exact Nat.ne_of_gt (lt _ (.tail _ (.tail _ (.head _))))
theorem end_same {I C D : Addr} {oI oC oD : Obj} {S : List (Addr × Obj) → Prop} {rest : Value → List (Addr × Obj) → Prop} {y : Value} {h₀ h' : Heap} {L : Addr} {m : Str → Option Value} {s₁ : Shared} {tk : Nat} {news : List (Addr × Obj)}
    (F : Fr h₀ L h' m) (N : News h₀ L h' ((I, oI) :: (C, oC) :: (D, oD) :: news)) (off : LCg.Off3 I C D news) (hS : S news) (r : rest y news) :
    LCg.CompEnd h₀ L m s₁ I oI C oC D oD S rest y { s₁ with heap := h', toks := tk } := LCg.CompEnd.intro F N news (fun _ h => h) off hS r
/-- the two tables as they stand at the start -/
theorem tabZ0 : TabZ [] [((30 : Addr), tabObj #[]), (37, tabObj #[])] := by
  refine ⟨[(30, tabObj #[])], [(37, tabObj #[])], ?_, ?_, rfl, fun _ h => nomatch h⟩
  · exact ⟨List.forall_mem_cons.mpr ⟨(by decide : (30 : Nat) ≠ 37), fun _ h => nomatch h⟩, .inl rfl⟩
  · exact ⟨List.forall_mem_cons.mpr ⟨(by decide : (37 : Nat) ≠ 30), fun _ h => nomatch h⟩, .inl rfl⟩
end Mine
end PartWK2

noncomputable section PartWK3
theorem Mine.resetWK3 : True := by (w_top off); k_with_none; first | (walk1; done) | trivial
set_option maxRecDepth 100000
set_option linter.all false
namespace Mine
open PySem PySem.W PyProof.Rows
theorem fold_hear : ∀ {V H : List Nat} {gs : List (List Nat)} {g : List Nat}, Hears V H → V.foldl hearStep (gs, g) = (gs, g ++ H)
  | [], H, gs, g, h => by
    obtain ⟨_, rfl⟩ := h
    simp
  | c :: V, H, gs, g, ⟨h32, hh⟩ => by
    subst hh
    have hV : Hears V (V.flatMap hear1) := ⟨fun hm => h32 (.tail _ hm), rfl⟩
    have hc : c ≠ 32 := fun e => h32 (e ▸ .head _)
    rw [List.foldl_cons, List.flatMap_cons]
    have hs : hearStep (gs, g) c = (gs, g ++ hear1 c) := by
      unfold hearStep
      by_cases hb : (c : Int) ∈ b1codes
      · rw [if_pos hb, hear_b1 hb, List.append_nil]
      · rw [if_neg hb, if_neg hc]
    rw [hs, fold_hear hV, List.append_assoc]
theorem fold_32 (st : List (List Nat) × List Nat) : hearStep st 32 = (st.1 ++ [st.2], []) := by
  unfold hearStep
  rw [if_neg (by decide), if_pos rfl]
theorem hear_two {V1 V2 H1 H2 : List Nat} (h1 : Hears V1 H1) (h2 : Hears V2 H2) : hearG (V1 ++ 32 :: V2) = [H1, H2] := by
  unfold hearG
  rw [List.foldl_append, List.foldl_cons, fold_hear h1, fold_32, fold_hear h2]
  simp
theorem hear_three {V1 V2 V3 H1 H2 H3 : List Nat} (h1 : Hears V1 H1) (h2 : Hears V2 H2) (h3 : Hears V3 H3) : hearG (V1 ++ 32 :: (V2 ++ 32 :: V3)) = [H1, H2, H3] := by
  unfold hearG
  rw [List.foldl_append, List.foldl_cons, fold_hear h1, fold_32, List.foldl_append, List.foldl_cons, fold_hear h2, fold_32, fold_hear h3]
  simp
theorem blank_str : Str.ofString " " = ⟨([32] : List Nat).toArray⟩ := by decide +kernel
theorem app_str (a b : List Nat) : (⟨a.toArray⟩ : Str) ++ (⟨b.toArray⟩ : Str) = ⟨(a ++ b).toArray⟩ := by
  show (⟨a.toArray ++ b.toArray⟩ : Str) = _
  rw [List.append_toArray]
theorem txs_carried : ∀ {vs : List Value} {gs : List (List Nat)}, TxsAre vs gs → CarriedAll vs (gs.map fun g => PyData.str ⟨g.toArray⟩)
  | _, _, .nil => .nil
  | _, _, .cons _ t r => .cons (.str _ t) (txs_carried r)
noncomputable def Asc (gs : List (List Nat)) : Prop := ∀ g ∈ gs, ∀ c ∈ g, c < 128
theorem canLay_txs : ∀ gs : List (List Nat), Asc gs → PyData.canLayAll0 (gs.map fun g => PyData.str ⟨g.toArray⟩) = true
  | [], _ => rfl
  | g :: r, h => by
    have e : PyData.strOk ⟨g.toArray⟩ = true := by
      show g.toArray.all _ = true
      rw [List.all_toArray, List.all_eq_true]
      intro c hc
      have := h g (.head _) c hc
      exact decide_eq_true (by omega)
    simp only [List.map_cons, PyData.canLayAll0, PyData.canLay0, e, canLay_txs r (fun g hg => h g (.tail _ hg)), Bool.and_self]
theorem BRes.asc {z : Int} {W H V : List Nat} (b : BRes z W H V) : (∀ c ∈ W, c < 128) ∧ ∀ c ∈ H, c < 128 := by
  have hl : ∀ c ∈ W, 97 ≤ c ∧ c < 123 := fun c hc => letter_rng c (b.lets c hc)
  refine ⟨fun c hc => by have := hl c hc; omega, fun c hc => ?_⟩
  rcases b.ins with ⟨P, x, Q, rfl, rfl, hx⟩ | ⟨P, x, Q, rfl, rfl, hx⟩
  · rcases List.mem_append.mp hc with h | h
    · have := hl c (List.mem_append.mpr (.inl h)); omega
    · rcases List.mem_cons.mp h with h | h
      · omega
      · have := hl c (List.mem_append.mpr (.inr h)); omega
  · have := hl c (by
      rcases List.mem_append.mp hc with h | h
      · exact List.mem_append.mpr (.inl h)
      · exact List.mem_append.mpr (.inr (.tail _ h)))
    omega
theorem asc_two {a b : List Nat} (h1 : ∀ c ∈ a, c < 128) (h2 : ∀ c ∈ b, c < 128) : Asc [a, b] := List.forall_mem_cons.mpr ⟨h1, List.forall_mem_cons.mpr ⟨h2, fun _ h => nomatch h⟩⟩
theorem asc_three {a b d : List Nat} (h1 : ∀ c ∈ a, c < 128) (h2 : ∀ c ∈ b, c < 128) (h3 : ∀ c ∈ d, c < 128) : Asc [a, b, d] := List.forall_mem_cons.mpr ⟨h1, asc_two h2 h3⟩
theorem asc_one {a : List Nat} (h1 : ∀ c ∈ a, c < 128) : Asc [a] := List.forall_mem_cons.mpr ⟨h1, fun _ h => nomatch h⟩
theorem depth_txs : ∀ gs : List (List Nat), PyData.depthAll (gs.map fun g => PyData.str ⟨g.toArray⟩) = 0
  | [] => rfl
  | _ :: r => by simp [PyData.depthAll, PyData.depth, depth_txs r]
theorem eqv_txs : ∀ gs : List (List Nat), PyData.eqvAll (gs.map fun g => PyData.str ⟨g.toArray⟩) (gs.map fun g => PyData.str ⟨g.toArray⟩) = true
  | [] => by simp [PyData.eqvAll]
  | _ :: r => by simp [PyData.eqvAll, PyData.eqv, eqv_txs r]
section
variable {prog : Program} {w : World} {A : Around} {E : Value → Shared → Prop} {s : Shared} {t : Tok} {Q : Value → Shared → Prop} {a b : Addr} {xs ys : List Value} {gs : List (List Nat)}
theorem ne_txs (ha : s.heap.IsList a xs.toArray) (hb : s.heap.IsList b ys.toArray) (hi : TxsAre xs gs) (hj : TxsAre ys gs) (hc : Asc gs) (hu : A.units + 64 < cLine) (h : Q (.bool false) s) :
    wpAny (model prog w) A (compareOp .NotEq (.ref a) (.ref b)) Q E s := by
  have sh : SeqAt.shaped (.list (gs.map fun g => PyData.str ⟨g.toArray⟩)) = true := by
    simp [SeqAt.shaped, PyData.canLay0, PyData.depth, canLay_txs _ hc, depth_txs]
  refine ne_dataH (reads_newData ha (txs_carried hi)) (reads_newData hb (txs_carried hj)) sh sh hu ?_
  rw [PyData.eqv, eqv_txs]
  exact h
theorem len_l (g : List Nat) : (⟨g.toArray⟩ : Str).length = g.length := by simp [Str.length]
theorem join_two {V1 V2 : List Nat} {t1 t2 : Tok} (hl : s.heap.IsList a #[.str ⟨V1.toArray⟩ t1, .str ⟨V2.toArray⟩ t2]) (h1 : V1.length ≤ 7) (h2 : V2.length ≤ 7)
    (h : ∀ t' k, Q (.str ⟨(V1 ++ 32 :: V2).toArray⟩ t') { s with toks := k }) : wpAny (model prog w) A (call (.builtin "str.join") [.str (Str.ofString " ") t, .ref a]) Q E s := by
  refine join_listW (ys := [⟨V1.toArray⟩, ⟨V2.toArray⟩]) hl (.cons _ _ (.cons _ _ .nil)) (by decide +kernel) ?_ fun t' k => ?_
  · simp only [List.map_cons, List.map_nil, List.sum_cons, List.sum_nil, List.length_cons, List.length_nil, len_l]; omega
  · have e : Txt.join (Str.ofString " ") [⟨V1.toArray⟩, ⟨V2.toArray⟩] = ⟨(V1 ++ 32 :: V2).toArray⟩ := by
      rw [blank_str]
      show ((⟨V1.toArray⟩ : Str) ++ (⟨[32].toArray⟩ : Str)) ++ (⟨V2.toArray⟩ : Str) = _
      rw [app_str, app_str, List.append_assoc]; rfl
    rw [e]; exact h t' k
theorem join_three {V1 V2 V3 : List Nat} {t1 t2 t3 : Tok} (hl : s.heap.IsList a #[.str ⟨V1.toArray⟩ t1, .str ⟨V2.toArray⟩ t2, .str ⟨V3.toArray⟩ t3]) (h1 : V1.length ≤ 7) (h2 : V2.length ≤ 7) (h3 : V3.length ≤ 7)
    (h : ∀ t' k, Q (.str ⟨(V1 ++ 32 :: (V2 ++ 32 :: V3)).toArray⟩ t') { s with toks := k }) : wpAny (model prog w) A (call (.builtin "str.join") [.str (Str.ofString " ") t, .ref a]) Q E s := by
  refine join_listW (ys := [⟨V1.toArray⟩, ⟨V2.toArray⟩, ⟨V3.toArray⟩]) hl (.cons _ _ (.cons _ _ (.cons _ _ .nil))) (by decide +kernel) ?_ fun t' k => ?_
  · simp only [List.map_cons, List.map_nil, List.sum_cons, List.sum_nil, List.length_cons, List.length_nil, len_l]; omega
  · have e : Txt.join (Str.ofString " ") [⟨V1.toArray⟩, ⟨V2.toArray⟩, ⟨V3.toArray⟩] = ⟨(V1 ++ 32 :: (V2 ++ 32 :: V3)).toArray⟩ := by
      rw [blank_str]
      show Builtin.Str.glued _ _ = _
      rw [StrLaws.glued_eq_join]
      show ((⟨V1.toArray⟩ : Str) ++ (⟨[32].toArray⟩ : Str)) ++ (((⟨V2.toArray⟩ : Str) ++ (⟨[32].toArray⟩ : Str)) ++ (⟨V3.toArray⟩ : Str)) = _
      rw [app_str, app_str, app_str, app_str, List.append_assoc, List.append_assoc]; rfl
    rw [e]; exact h t' k
end
section
variable {w : World} {act : List (Addr × Obj)} {dp un : Nat} {gd : Option (List Code)} {cn : Str} {cs : Scope} {a : Addr} {ccd : Value} {cl : List (Str × Addr)} {outer : List Env} {A₀ : Around} {base h₀ : Heap} {L : Addr} {m : Str → Option Value} {s : Shared} {loose : List Str} {mean : ExcName → Option Value} {mg mb : Str → Option Value} {Q E : Value → Shared → Prop}
theorem heard_two (B : Below A₀ base outer h₀) (F : Fr h₀ L s.heap m) (X : (KA w.params).In h₀) (N : News h₀ L s.heap act) (T : Top topProg loose mean mg mb h₀) (hk : cs.kind = .function) (hd : dp + (41 + 1) < recursionLimit) (hu : un + 16 * (41 + 1) < cLine) {z1 z2 : Int} {W1 H1 V1 W2 H2 V2 : List Nat} {tt : Tok} (b1 : BRes z1 W1 H1 V1) (b2 : BRes z2 W2 H2 V2)
    (hR : ∀ D t1 t2 k h' tk', Fr h₀ L h' m → News h₀ L h' ((D, listOf #[.str ⟨H1.toArray⟩ t1, .str ⟨H2.toArray⟩ t2] k) :: act) → (∀ q ∈ act, q.1 < D) → Q (.ref D) { s with heap := h', toks := tk' }) :
    wpAny (model PySem.Challenge.rw_ul0025_01.row.prog w) (ktrTop dp un gd cn cs L a ccd cl outer) (call (.ref 162) [.str ⟨(V1 ++ 32 :: V2).toArray⟩ tt]) Q E s := by
  refine heard_use (T := V1 ++ 32 :: V2) (by have := b1.lenT; have := b2.lenT; simp only [List.length_append, List.length_cons]; omega) B F X N T hk hd hu (fun D ws k h' tk' ht F' N' hq => ?_)
  rw [hear_two b1.hear b2.hear] at ht
  rcases ht with _ | ⟨_, t1, _ | ⟨_, t2, _ | _⟩⟩
  exact hR D t1 t2 k h' tk' F' N' hq
theorem heard_three (B : Below A₀ base outer h₀) (F : Fr h₀ L s.heap m) (X : (KA w.params).In h₀) (N : News h₀ L s.heap act) (T : Top topProg loose mean mg mb h₀) (hk : cs.kind = .function) (hd : dp + (41 + 1) < recursionLimit) (hu : un + 16 * (41 + 1) < cLine) {z1 z2 z3 : Int} {W1 H1 V1 W2 H2 V2 W3 H3 V3 : List Nat} {tt : Tok} (b1 : BRes z1 W1 H1 V1) (b2 : BRes z2 W2 H2 V2) (b3 : BRes z3 W3 H3 V3)
    (hR : ∀ D t1 t2 t3 k h' tk', Fr h₀ L h' m → News h₀ L h' ((D, listOf #[.str ⟨H1.toArray⟩ t1, .str ⟨H2.toArray⟩ t2, .str ⟨H3.toArray⟩ t3] k) :: act) → (∀ q ∈ act, q.1 < D) → Q (.ref D) { s with heap := h', toks := tk' }) :
    wpAny (model PySem.Challenge.rw_ul0025_01.row.prog w) (ktrTop dp un gd cn cs L a ccd cl outer) (call (.ref 162) [.str ⟨(V1 ++ 32 :: (V2 ++ 32 :: V3)).toArray⟩ tt]) Q E s := by
  refine heard_use (T := V1 ++ 32 :: (V2 ++ 32 :: V3)) (by have := b1.lenT; have := b2.lenT; have := b3.lenT; simp only [List.length_append, List.length_cons]; omega) B F X N T hk hd hu (fun D ws k h' tk' ht F' N' hq => ?_)
  rw [hear_three b1.hear b2.hear b3.hear] at ht
  rcases ht with _ | ⟨_, t1, _ | ⟨_, t2, _ | ⟨_, t3, _ | _⟩⟩⟩
  exact hR D t1 t2 t3 k h' tk' F' N' hq
end
end Mine
end PartWK3

noncomputable section PartWK4
theorem Mine.resetWK4 : True := by (w_top off); k_with_none; first | (walk1; done) | trivial
set_option maxRecDepth 100000
set_option linter.all false
namespace Mine
open PySem PySem.W PyProof.Rows
noncomputable def Ne2 (a : Addr) : Prop := @Ne Nat a 30 ∧ @Ne Nat a 37
theorem Ne2.off {a : Addr} {o : Obj} (h : Ne2 a) : @Ne Nat (a, o).1 30 ∧ @Ne Nat (a, o).1 37 := h
theorem ne2_of {a : Addr} (h : @LT.lt Nat _ 37 a) : Ne2 a := ⟨Nat.ne_of_gt (Nat.lt_trans (by decide) h), Nat.ne_of_gt h⟩
theorem ne2_off {D : Addr} {l : List (Addr × Obj)} {o o' : Obj} (h : LCg.Off1 D l) (m1 : ((30 : Addr), o) ∈ l) (m2 : ((37 : Addr), o') ∈ l) : Ne2 D := ⟨Ne.symm (off_tl h _ m1), Ne.symm (off_tl h _ m2)⟩
theorem ne2_offz {D : Addr} {news zn act : List (Addr × Obj)} (hz : TabZ news zn) (hs : ∀ p ∈ zn, p ∈ act) (h : LCg.Off1 D act) : Ne2 D := off_two hz hs (off_tl h)
noncomputable abbrev strV (g : List Nat) (t : Tok) : Value := .str ⟨g.toArray⟩ t
noncomputable abbrev tupB (W V H : List Nat) (t1 t2 t3 : Tok) : Obj := tupObj #[strV W t1, strV V t2, strV H t3] 0
section
variable {M : Model} {A : Around} {st : Stmt} {env : Env} {Q : Flow → Shared → Prop} {E : Value → Shared → Prop} {hp : Heap} {gn : Array GenState} {dr : Drawn} {tk0 : Nat} {os : OsState} {h₀ : Heap} {L : Addr} {m : Str → Option Value} {act : List (Addr × Obj)}
end
section
variable {prog : Program} {w : World} {A : Around} {E : Value → Shared → Prop} {s : Shared} {u : Tok} {Q : Value → Shared → Prop}
theorem item_lit {value slice : PySem.Expr} {l : Addr} {vs : List Value} {k : Int} {v : Value} (hl : s.heap.IsList l vs.toArray) (h0 : 0 ≤ k) (hk : k < 2 ^ 63) (e : vs[k.toNat]? = some v) (h : Q v s)
    (hs : subscripted slice false (.ref l) (.int k u) = operate [.ref l, .int k u] (getItem (.ref l) (.int k u)) := by with_unfolding_all rfl) :
    wpAny (model prog w) A (subscriptTail value slice (.ref l) (.int k u)) Q E s := tail_any hl.typeIs slot_list_getitem.lookup (wpAny_getItem_list hl h0 hk (by simpa using e) h) hs
end
theorem tab_offI {zn act : List (Addr × Obj)} {I L : Addr} {x left : Int} {h₀ h : Heap} (hz : TabZ [] zn) (N : News h₀ L h act) (hs : ∀ p ∈ zn, p ∈ act) (hi : (I, itR x left) ∈ act) (hI : Ne2 I) : ∀ p ∈ zn, p.1 ≠ I := by
  obtain ⟨Y, X, hY, hX, rfl, _⟩ := hz
  have key : ∀ (c' : Addr) (oc : Obj) vs (t : Tok) (y : Str), (c', oc) ∈ act → oc.data = .fields vs → vs[1]? = some (.str y t) → c' ≠ I := fun c' oc vs t y hm hd hv e => by
    subst e
    have e1 := (N _ hm).1
    have e2 := (N _ hi).1
    have e3 : oc = itR x left := Option.some.inj (e1.symm.trans e2)
    rw [e3] at hd
    have e4 : #[rawInt x, rawInt left, rawInt 1] = vs := Data.fields.inj hd
    subst e4
    cases hv
  intro p hp
  rcases mem_app.mp hp with h | h
  · rcases hY.2 with e | ⟨c', oc, vs, t, e, hd, hv⟩
    · rw [e] at h
      rw [List.mem_singleton.mp h]; exact fun e => hI.1 e.symm
    · have h' := h
      rw [e] at h'
      rcases List.mem_cons.mp h' with h' | h'
      · rw [h']; exact fun e => hI.1 e.symm
      · have h2 := List.mem_singleton.mp h'
        subst h2
        exact key _ _ _ _ _ (hs _ hp) hd hv
  · rcases mem_app.mp h with h | h
    · rcases hX.2 with e | ⟨c', oc, vs, t, e, hd, hv⟩
      · rw [e] at h
        rw [List.mem_singleton.mp h]; exact fun e => hI.2 e.symm
      · have h' := h
        rw [e] at h'
        rcases List.mem_cons.mp h' with h' | h'
        · rw [h']; exact fun e => hI.2 e.symm
        · have h2 := List.mem_singleton.mp h'
          subst h2
          exact key _ _ _ _ _ (hs _ hp) hd hv
    · cases h
/-- what stands behind an entry -/
inductive Aft (p : Addr × Obj) : List (Addr × Obj) → List (Addr × Obj) → Prop
  | here {l : List (Addr × Obj)} : Aft p (p :: l) l
  | there {e : Addr × Obj} {l r : List (Addr × Obj)} : Aft p l r → Aft p (e :: l) r
theorem Aft.mem {p : Addr × Obj} {l r : List (Addr × Obj)} (h : Aft p l r) : ∀ q ∈ p :: r, q ∈ l := by
  induction h with
  | here => exact fun _ h => h
  | there _ ih => exact fun q hq => .tail _ (ih q hq)
theorem unr_tail {h₀ : Heap} {L I : Addr} {x left : Int} {rest : (Str → Option Value) → List (Addr × Obj) → Prop} {s₁ : Shared} {h' : Heap} {tk : Nat} {m' : Str → Option Value} {all r pre zn : List (Addr × Obj)} (F : Fr h₀ L h' m') (N : News h₀ L h' all) (d : Aft (I, itR x left) all r) (cx : Cx zn r pre) (hz : TabZ [] zn) (hI : Ne2 I) (off : ∀ p ∈ pre, p.1 ≠ I) (hr : rest m' r) :
    UnrEnd h₀ L s₁ I (itR x left) rest { s₁ with heap := h', toks := tk } := by
  have e := cx.eq
  subst e
  refine UnrEnd.intro F N _ d.mem (fun p hp => ?_) hr
  rcases mem_app.mp hp with h | h
  · exact off p h
  · exact tab_offI hz N (fun q hq => d.mem q (.tail _ (mem_app.mpr (.inr hq)))) (d.mem _ (.head _)) hI p h
theorem wid_ok {x : Int} : 5 ≤ 5 + x.fmod 8 ∧ 5 + x.fmod 8 ≤ 12 := by
  have := fmod_lo x (n := 8) (by decide)
  have := fmod_hi x (n := 8) (by decide)
  omega
end Mine
end PartWK4

noncomputable section PartWK5
theorem Mine.resetWK5 : True := by (w_top off); k_with_none; first | (walk1; done) | trivial
set_option maxRecDepth 100000
set_option linter.all false
namespace Mine
open PySem PySem.W PyProof.Rows
theorem law_good {cl : Str → Option Addr} {mean : ExcName → Option Value} {args : List WData} {hg h' : Heap} {gs gens : Array GenState} {dr dr' : Drawn} {tk tk' : Nat} {os : OsState} {L : Addr} {m : Str → Option Value} (F : Fr hg L h' m) (hb : AllBare gens) :
    GoodB rw0.row.claim cl mean args ⟨hg, gs, dr, tk, os⟩ (.ok (.ret (.bool true))) ⟨h', gens, dr', tk', os⟩ :=
  ⟨⟨.bool true, .bool true, [], rfl, fun _ => rfl, .bool true, by kernel_rfl, fun _ => ⟨.nil, fun _ h => nomatch h⟩⟩, F.keep, rfl, hb⟩
theorem law_grown {h₀ h' : Heap} {L : Addr} {act zn pre : List (Addr × Obj)} (N : News h₀ L h' act) (cx : Cx zn act pre) (hz : TabZ [] zn) : GrownAll [(34, 30), (41, 37)] h' := by
  have hs : ∀ p ∈ zn, p ∈ act := fun p hp => by
    rw [cx.eq]; exact mem_app.mpr (.inr hp)
  obtain ⟨Y, X, hY, hX, rfl, _⟩ := hz
  refine ⟨?_, ?_, trivial⟩
  · rcases hY.2 with e | ⟨c', oc, vs, t, e, hd, hv⟩
    · exact ⟨_, (N _ (hs _ (mem_app.mpr (.inl (by rw [e]; exact .head _))))).1⟩
    · exact ⟨_, (N _ (hs _ (mem_app.mpr (.inl (by rw [e]; exact .head _))))).1⟩
  · rcases hX.2 with e | ⟨c', oc, vs, t, e, hd, hv⟩
    · exact ⟨_, (N _ (hs _ (mem_app.mpr (.inr (mem_app.mpr (.inl (by rw [e]; exact .head _))))))).1⟩
    · exact ⟨_, (N _ (hs _ (mem_app.mpr (.inr (mem_app.mpr (.inl (by rw [e]; exact .head _))))))).1⟩
/-- the end of law: two facts at once -/
theorem law_end {cl : Str → Option Addr} {mean : ExcName → Option Value} {args : List WData} {hg h' : Heap} {gs gens : Array GenState} {dr dr' : Drawn} {tk tk' : Nat} {os : OsState} {L : Addr} {m : Str → Option Value} {act zn pre : List (Addr × Obj)}
    (F : Fr hg L h' m) (N : News hg L h' act) (hb : AllBare gens) (cx : Cx zn act pre) (hz : TabZ [] zn) :
    GoodB rw0.row.claim cl mean args ⟨hg, gs, dr, tk, os⟩ (.ok (.ret (.bool true))) ⟨h', gens, dr', tk', os⟩ ∧ GrownAll [(34, 30), (41, 37)] h' := ⟨law_good F hb, law_grown N cx hz⟩
end Mine
end PartWK5

noncomputable section PartWK6
theorem Mine.resetWK6 : True := by (w_top off); k_with_none; first | (walk1; done) | trivial
set_option maxRecDepth 100000
set_option linter.all false
namespace Mine
open PySem PySem.W PyProof.Rows
noncomputable abbrev upd5 (m0 : Str → Option Value) (n1 n2 n3 n4 n5 : Str) (o1 o2 o3 o4 o5 : Option Value) : Str → Option Value := fun y => if y = n1 then o1 else if y = n2 then o2 else if y = n3 then o3 else if y = n4 then o4 else if y = n5 then o5 else m0 y
theorem upd5_self (m0 : Str → Option Value) (n1 n2 n3 n4 n5 : Str) : upd5 m0 n1 n2 n3 n4 n5 (m0 n1) (m0 n2) (m0 n3) (m0 n4) (m0 n5) = m0 := by
  funext y
  unfold upd5
  split
  · subst y; rfl
  split
  · subst y; rfl
  split
  · subst y; rfl
  split
  · subst y; rfl
  split
  · subst y; rfl
  rfl
theorem upd5_of {m0 m' : Str → Option Value} {n1 n2 n3 n4 n5 : Str} (e : ∀ y, y ≠ n1 → y ≠ n2 → y ≠ n3 → y ≠ n4 → y ≠ n5 → m' y = m0 y) : upd5 m0 n1 n2 n3 n4 n5 (m' n1) (m' n2) (m' n3) (m' n4) (m' n5) = m' := by
  funext y
  unfold upd5
  split
  · subst y; rfl
  split
  · subst y; rfl
  split
  · subst y; rfl
  split
  · subst y; rfl
  split
  · subst y; rfl
  rename_i h1 h2 h3 h4 h5
  exact (e y h1 h2 h3 h4 h5).symm
theorem range5 {prog : Program} {w : World} {A : Around} {E : Value → Shared → Prop} {h₀ : Heap} {env : Env} {x : Str} {body : List Stmt} {Q : Flow → Shared → Prop} {s : Shared} {I : Addr} {a : Int} {n : Nat} (n1 n2 n3 n4 n5 : Str) {m0 : Str → Option Value} {news : List (Addr × Obj)} {S : Type} (ld : S → List (Addr × Obj)) (Inv : Nat → Option Value → Option Value → Option Value → Option Value → Option Value → S → Prop) (s0 : S) (hl : news = ld s0)
    (hI : Inv 0 (m0 n1) (m0 n2) (m0 n3) (m0 n4) (m0 n5) s0)
    (zero : ∀ o1 o2 o3 o4 o5 st, Inv n o1 o2 o3 o4 o5 st → RangeRest prog w A E h₀ env x body Q s I a n 0 n (upd5 m0 n1 n2 n3 n4 n5 o1 o2 o3 o4 o5) (ld st))
    (succ : ∀ k i o1 o2 o3 o4 o5 st, i < n → Inv i o1 o2 o3 o4 o5 st → (∀ (m' : Str → Option Value) n' st', Inv (i + 1) (m' n1) (m' n2) (m' n3) (m' n4) (m' n5) st' → (∀ y, y ≠ n1 → y ≠ n2 → y ≠ n3 → y ≠ n4 → y ≠ n5 → m' y = m0 y) → (∀ p ∈ ld st', p ∈ n') → RangeRest prog w A E h₀ env x body Q s I a n k (i + 1) m' n') → RangeRest prog w A E h₀ env x body Q s I a n (k + 1) i (upd5 m0 n1 n2 n3 n4 n5 o1 o2 o3 o4 o5) (ld st)) :
    RangeRest prog w A E h₀ env x body Q s I a n n 0 m0 news := by
  have key : ∀ (k i : Nat) o1 o2 o3 o4 o5 st, i + k = n → Inv i o1 o2 o3 o4 o5 st → RangeRest prog w A E h₀ env x body Q s I a n k i (upd5 m0 n1 n2 n3 n4 n5 o1 o2 o3 o4 o5) (ld st) := by
    intro k
    induction k with
    | zero =>
      intro i o1 o2 o3 o4 o5 st hi h
      obtain rfl : i = n := by omega
      exact zero o1 o2 o3 o4 o5 st h
    | succ k ih =>
      intro i o1 o2 o3 o4 o5 st hi h
      refine succ k i o1 o2 o3 o4 o5 st (by omega) h (fun m' n' st' h' e hs => ?_)
      have := Mine.RangeRest.sub hs (ih (i + 1) (m' n1) (m' n2) (m' n3) (m' n4) (m' n5) st' (by omega) h')
      rw [upd5_of e] at this
      exact this
  have := key n 0 (m0 n1) (m0 n2) (m0 n3) (m0 n4) (m0 n5) s0 (by omega) hI
  rw [upd5_self] at this
  rw [hl]; exact this

/-- the rows of the last loop: what stands at place i of the three lists -/
noncomputable def LRows (vs bv hv : List Value) (l : List (Addr × Obj)) : Prop := ∀ i, i < vs.length → ∃ (x : Int) (t : Tok) (d : Addr) (W V H : List Nat) (t1 t2 t3 th : Tok), vs[i]? = some (.int x t) ∧ bv[i]? = some (.ref d) ∧ hv[i]? = some (strV H th) ∧ (d, tupB W V H t1 t2 t3) ∈ l ∧ BRes x W H V ∧ Siz x ∧ Ne2 d
theorem lrows0 {bv hv : List Value} {l : List (Addr × Obj)} : LRows [] bv hv l := fun _ h => absurd h (Nat.not_lt_zero _)
theorem lrowsS {vs bv hv : List Value} {l : List (Addr × Obj)} {x : Int} {t t1 t2 t3 th : Tok} {d : Addr} {W V H : List Nat} (hm : (d, tupB W V H t1 t2 t3) ∈ l) (hb : BRes x W H V) (hx : Siz x) (hd : Ne2 d) (r : LRows vs bv hv l) : LRows (.int x t :: vs) (.ref d :: bv) (strV H th :: hv) l
  | 0, _ => ⟨x, t, d, W, V, H, t1, t2, t3, th, rfl, rfl, rfl, hm, hb, hx, hd⟩
  | i + 1, hi => r i (Nat.lt_of_succ_lt_succ hi)
/-- what is said of the last loop before the ways part -/
noncomputable def LoopHyp (h₀ : Heap) (L : Addr) (m : Str → Option Value) (lt : Addr) (vs : List Value) (kt : Nat) (K : Heap → Nat → Prop) : Prop :=
  ∀ (lh lb d1 d2 d3 : Addr) (hv bv : List Value) (kh : Nat) (o1 o2 o3 : Obj) (zn : List (Addr × Obj)) (h : Heap) (tk : Nat),
    @LT.lt Nat _ 37 lh → Ne2 lh → Ne2 lb → Ne2 lt → Ne2 d1 → Ne2 d2 → Ne2 d3 → TabZ [] zn → LRows vs bv hv [(d1, o1), (d2, o2), (d3, o3)] →
    Fr h₀ L h (fun y => if y = Str.ofString "heard" then some (.ref lh) else if y = Str.ofString "blocks" then some (.ref lb) else m y) →
    News h₀ L h ((lh, listOf hv.toArray kh) :: (lb, LCg.lst bv) :: (lt, listOf vs.toArray kt) :: (d1, o1) :: (d2, o2) :: (d3, o3) :: zn) → K h tk
section
variable {M : Model} {A : Around} {env : Env} {Q : Flow → Shared → Prop} {E : Value → Shared → Prop} {hp : Heap} {gn : Array GenState} {dr : Drawn} {tk0 : Nat} {os : OsState} {h₀ : Heap} {L : Addr} {m : Str → Option Value} {act rest : List (Addr × Obj)} {s1 s2 s3 s4 sF : Stmt} {rst : List Stmt} {lt : Addr} {vs : List Value} {kt : Nat}
theorem cut_loop (F : Fr h₀ L hp m) (N : News h₀ L hp ((lt, listOf vs.toArray kt) :: rest))
    (hL : LoopHyp h₀ L m lt vs kt (fun h tk => wpAny M A (execs (sF :: rst) env) Q E ⟨h, gn, dr, tk, os⟩))
    (hH : LoopHyp h₀ L m lt vs kt (fun h tk => wpAny M A (execs (sF :: rst) env) Q E ⟨h, gn, dr, tk, os⟩) → wpAny M A (execs (s1 :: s2 :: s3 :: s4 :: sF :: rst) env) Q E ⟨hp, gn, dr, tk0, os⟩) :
    wpAny M A (execs (s1 :: s2 :: s3 :: s4 :: sF :: rst) env) Q E ⟨hp, gn, dr, tk0, os⟩ := hH hL
theorem loop_two {x1 x2 : Int} {tx1 tx2 : Tok} (HL : LoopHyp h₀ L m lt [.int x1 tx1, .int x2 tx2] kt (fun h tk => wpAny M A (execs (sF :: rst) env) Q E ⟨h, gn, dr, tk, os⟩)) {lh lb d1 d2 : Addr} {oh ob ot o1 o2 t30 t37 : Obj} {W1 V1 H1 W2 V2 H2 : List Nat} {a1 b1 c1 th1 a2 b2 c2 th2 : Tok} {kh : Nat}
    (F : Fr h₀ L hp (fun y => if y = Str.ofString "heard" then some (.ref lh) else if y = Str.ofString "blocks" then some (.ref lb) else m y)) (N : News h₀ L hp act)
    (ih : (lh, oh) ∈ act) (eh : oh = listOf #[strV H1 th1, strV H2 th2] kh) (ib : (lb, ob) ∈ act) (eb : ob = LCg.lst [.ref d1, .ref d2]) (it : (lt, ot) ∈ act) (et : ot = listOf #[.int x1 tx1, .int x2 tx2] kt) (i1 : (d1, o1) ∈ act) (f1 : o1 = tupB W1 V1 H1 a1 b1 c1) (i2 : (d2, o2) ∈ act) (f2 : o2 = tupB W2 V2 H2 a2 b2 c2) (i30 : ((30 : Addr), t30) ∈ act) (e30 : t30 = tabObj #[]) (i37 : ((37 : Addr), t37) ∈ act) (e37 : t37 = tabObj #[])
    (gh : @LT.lt Nat _ 37 lh) (gb : Ne2 lb) (gt : Ne2 lt) (g1 : Ne2 d1) (g2 : Ne2 d2) (r1 : BRes x1 W1 H1 V1) (r2 : BRes x2 W2 H2 V2) (z1 : Siz x1) (z2 : Siz x2) : wpAny M A (execs (sF :: rst) env) Q E ⟨hp, gn, dr, tk0, os⟩ := by
  subst eh eb et f1 f2 e30 e37
  exact HL lh lb d1 d2 d2 _ _ kh _ _ _ _ hp tk0 gh (ne2_of gh) gb gt g1 g2 g2 tabZ0 (lrowsS (.head _) r1 z1 g1 (lrowsS (.tail _ (.head _)) r2 z2 g2 lrows0)) F (News.sub N (List.forall_mem_cons.mpr ⟨ih, List.forall_mem_cons.mpr ⟨ib, List.forall_mem_cons.mpr ⟨it, List.forall_mem_cons.mpr ⟨i1, List.forall_mem_cons.mpr ⟨i2, List.forall_mem_cons.mpr ⟨i2, List.forall_mem_cons.mpr ⟨i30, List.forall_mem_cons.mpr ⟨i37, fun _ h => nomatch h⟩⟩⟩⟩⟩⟩⟩⟩))
theorem loop_three {x1 x2 x3 : Int} {tx1 tx2 tx3 : Tok} (HL : LoopHyp h₀ L m lt [.int x1 tx1, .int x2 tx2, .int x3 tx3] kt (fun h tk => wpAny M A (execs (sF :: rst) env) Q E ⟨h, gn, dr, tk, os⟩)) {lh lb d1 d2 d3 : Addr} {oh ob ot o1 o2 o3 t30 t37 : Obj} {W1 V1 H1 W2 V2 H2 W3 V3 H3 : List Nat} {a1 b1 c1 th1 a2 b2 c2 th2 a3 b3 c3 th3 : Tok} {kh : Nat}
    (F : Fr h₀ L hp (fun y => if y = Str.ofString "heard" then some (.ref lh) else if y = Str.ofString "blocks" then some (.ref lb) else m y)) (N : News h₀ L hp act)
    (ih : (lh, oh) ∈ act) (eh : oh = listOf #[strV H1 th1, strV H2 th2, strV H3 th3] kh) (ib : (lb, ob) ∈ act) (eb : ob = LCg.lst [.ref d1, .ref d2, .ref d3]) (it : (lt, ot) ∈ act) (et : ot = listOf #[.int x1 tx1, .int x2 tx2, .int x3 tx3] kt) (i1 : (d1, o1) ∈ act) (f1 : o1 = tupB W1 V1 H1 a1 b1 c1) (i2 : (d2, o2) ∈ act) (f2 : o2 = tupB W2 V2 H2 a2 b2 c2) (i3 : (d3, o3) ∈ act) (f3 : o3 = tupB W3 V3 H3 a3 b3 c3) (i30 : ((30 : Addr), t30) ∈ act) (e30 : t30 = tabObj #[]) (i37 : ((37 : Addr), t37) ∈ act) (e37 : t37 = tabObj #[])
    (gh : @LT.lt Nat _ 37 lh) (gb : Ne2 lb) (gt : Ne2 lt) (g1 : Ne2 d1) (g2 : Ne2 d2) (g3 : Ne2 d3) (r1 : BRes x1 W1 H1 V1) (r2 : BRes x2 W2 H2 V2) (r3 : BRes x3 W3 H3 V3) (z1 : Siz x1) (z2 : Siz x2) (z3 : Siz x3) : wpAny M A (execs (sF :: rst) env) Q E ⟨hp, gn, dr, tk0, os⟩ := by
  subst eh eb et f1 f2 f3 e30 e37
  exact HL lh lb d1 d2 d3 _ _ kh _ _ _ _ hp tk0 gh (ne2_of gh) gb gt g1 g2 g3 tabZ0 (lrowsS (.head _) r1 z1 g1 (lrowsS (.tail _ (.head _)) r2 z2 g2 (lrowsS (.tail _ (.tail _ (.head _))) r3 z3 g3 lrows0))) F (News.sub N (List.forall_mem_cons.mpr ⟨ih, List.forall_mem_cons.mpr ⟨ib, List.forall_mem_cons.mpr ⟨it, List.forall_mem_cons.mpr ⟨i1, List.forall_mem_cons.mpr ⟨i2, List.forall_mem_cons.mpr ⟨i3, List.forall_mem_cons.mpr ⟨i30, List.forall_mem_cons.mpr ⟨i37, fun _ h => nomatch h⟩⟩⟩⟩⟩⟩⟩⟩))
end
section
variable {prog : Program} {w : World} {A : Around} {E : Value → Shared → Prop} {s : Shared} {u : Tok} {Q : Value → Shared → Prop}
theorem item_at {value slice : PySem.Expr} {l : Addr} {vs : List Value} {i : Nat} {v : Value} (hl : s.heap.IsList l vs.toArray) (hi : i ≤ 8) (e : vs[i]? = some v) (h : Q v s)
    (hs : subscripted slice false (.ref l) (.int (0 + (i : Int)) u) = operate [.ref l, .int (0 + (i : Int)) u] (getItem (.ref l) (.int (0 + (i : Int)) u)) := by with_unfolding_all rfl) :
    wpAny (model prog w) A (subscriptTail value slice (.ref l) (.int (0 + (i : Int)) u)) Q E s := item_lit hl (by omega) (by omega) (by rw [show (0 + (i : Int)).toNat = i by omega]; exact e) h hs
end
theorem turn_ok {i : Nat} : 1 - (0 + (i : Int)).fmod 2 * 2 = 1 ∨ 1 - (0 + (i : Int)).fmod 2 * 2 = -1 := by
  have h1 := fmod_lo (0 + (i : Int)) (n := 2) (by decide)
  have h2 := fmod_hi (0 + (i : Int)) (n := 2) (by decide)
  omega
theorem dup_sub {p : Addr × Obj} {l : List (Addr × Obj)} (h : p ∈ l) : ∀ q ∈ p :: l, q ∈ l := List.forall_mem_cons.mpr ⟨h, fun _ h => h⟩
theorem mem3_app {p a b c : Addr × Obj} {zn : List (Addr × Obj)} (h : p ∈ [a, b, c]) : p ∈ a :: b :: c :: zn := by
  rcases List.mem_cons.mp h with h | h
  · exact h ▸ .head _
  · rcases List.mem_cons.mp h with h | h
    · exact h ▸ .tail _ (.head _)
    · rw [List.mem_singleton.mp h]; exact .tail _ (.tail _ (.head _))
theorem mem3_lt {d d1 d2 d3 I : Addr} {o o1 o2 o3 : Obj} (h : (d, o) ∈ [(d1, o1), (d2, o2), (d3, o3)]) (h1 : @LT.lt Nat _ d1 I) (h2 : @LT.lt Nat _ d2 I) (h3 : @LT.lt Nat _ d3 I) : @LT.lt Nat _ d I := by
  rcases List.mem_cons.mp h with h | h
  · cases h; exact h1
  · rcases List.mem_cons.mp h with h | h
    · cases h; exact h2
    · cases List.mem_singleton.mp h; exact h3
theorem row_len {e x0 x1 : Int} {o : Obj} {fin : Bool} {ys : List Int} (h : RowOk e x0 x1 o fin ys) : ys.length ≤ 3 := by
  rcases h.2 with ⟨rfl, _, _⟩ | ⟨rfl, _, _⟩ <;> simp
theorem size_arr (vs : List Value) : vs.toArray.size = vs.length := by simp
theorem le_62b {k : Nat} (h : k ≤ 3) : k < 2 ^ 62 := by omega
end Mine
end PartWK6

noncomputable section PartWLaw4
theorem Mine.resetWLaw4 : True := by (w_top off); k_with_none; first | (walk1; done) | trivial
set_option maxRecDepth 100000
set_option linter.all false
namespace Mine
open PySem PySem.W PyProof.Rows
theorem tabs0 {w : World} {h : Heap} (Y : hk0.says w h) : TabsAt [(34, 30), (41, 37)] h :=
  List.forall_mem_cons.mpr ⟨⟨codeHd_of_K (c := 34) (P := 30) Y.1 (by kernel_rfl), Y.2 30 (.head _)⟩, List.forall_mem_cons.mpr ⟨⟨codeHd_of_K (c := 41) (P := 37) Y.1 (by kernel_rfl), Y.2 37 (.tail _ (.head _))⟩, fun _ h => nomatch h⟩⟩
local macro_rules | `(tactic| ktr_rel) => `(tactic| first | exact al0 (by with_reducible assumption) | exact al1 (by with_reducible assumption) | exact al2 (by with_reducible assumption) | exact al3 (by with_reducible assumption) | exact al4 (by with_reducible assumption) | exact al5 (by with_reducible assumption) | exact al6 (by with_reducible assumption) | exact al7 (by with_reducible assumption))
local macro_rules | `(tactic| k_all) => `(tactic| ktr_rel)
local macro_rules | `(tactic| k_all) => `(tactic| with_reducible assumption)
local macro_rules | `(tactic| walk_at $s:str) => `(tactic| k_extra $s)
theorem wordWLaw2_0 : True := by k_with_none; trivial
theorem wordWLaw2_1 : True := by (k_with "exec Assign cons List" => ((focus (k_here; (fail_if_success (with_reducible show wpAny _ _ _ (SPost _ _) _ _)); (with_reducible show wpAny _ _ (exec (Stmt.Assign [Expr.Name (Str.ofString "sizes") _] _ _) _) _ _ _); (rename News _ _ _ _ => N7); (try simp only [List.cons_append, List.nil_append, List.append_eq] at N7); k_dflt (refine' cut_sz ?wqF ?wqN ?_ ?_; (case wqF => k_asm); (case wqN => k_asm)); rotate_left; (intro d9 x0 x1 t0 t1 h9 tk9 hx0 hx1 F9 N9 l9; (try k_lt l9)); rotate_right)))); trivial
theorem wordWLaw2_2 : True := by (k_with "exec Assign cons BinOp" => ((focus (k_here; (fail_if_success (with_reducible show wpAny _ _ _ (SPost _ _) _ _)); (with_reducible show wpAny _ _ (exec (Stmt.Assign [Expr.Name (Str.ofString "row") _] _ _) _) _ _ _); k_dflt (refine' cut_row ?wqF ?wqN ?wqhe ?wqhs ?wqhm ?_ ?_; (case wqF => k_asm); (case wqN => k_asm); (case wqhe => rfl); (case wqhs => rfl); (case wqhm => k_mem)); rotate_left; (intro lr9 or9 fin9 ys9 h9 tk9 hR9 F9 N9 l9; (try k_lt l9)); rotate_right)))); trivial
theorem wordWLaw2_3 : True := by (k_with "exec Assign cons IfExp" => ((focus (k_here; (fail_if_success (with_reducible show wpAny _ _ _ (SPost _ _) _ _)); k_dflt (refine' cut_due ?wqF ?wqN ?wqhr ?wqml ?wqmr ?wqmC ?wqhC ?wqmc ?wqm30 ?wqm37 ?_ ?_; (case wqF => k_asm); (case wqN => k_asm); (case wqhr => assumption); (case wqml => rfl); (case wqmr => k_mem); (case wqmC => k_mem); (case wqhC => assumption); (case wqmc => k_mem); (case wqm30 => k_mem); (case wqm37 => k_mem)); rotate_left; (intro ld9 vs9 k9 oD9 h9 tk9 hI9 hd9 g9 F9 N9); rotate_right)))); trivial
theorem wordWLaw2_4 : True := by (k_with "exec For Name Call cons nil" => ((focus (k_here; (fail_if_success (with_reducible show wpAny _ _ _ (SPost _ _) _ _)); (with_reducible show wpAny _ _ (exec (Stmt.For (Expr.Name (Str.ofString "size") _) _ _ _ _) _) _ _ _); k_dflt (refine' cut_for ?wqF ?wqN ?wqhr ?_ ?_; (case wqF => k_asm); (case wqN => k_asm); (case wqhr => assumption)); (refine wpAny_For ?_ (by intro _; with_unfolding_all rfl)); rotate_left; (intro vs9 k9 o9 h9 tk9 gens9 hI9 hG9 F9 N9; skip); rotate_right)))); trivial
theorem wordWLaw2_5 : True := by (k_with "call builtin:list.append" => ((k_here; k_dflt (refine' app_last ?wqF ?wqN ?wqb ?wqU ?_; (case wqF => k_asm); (case wqN => k_asm); (case wqU => k_upd); (case wqb => (simp only [List.length_cons, List.length_nil]; omega)); k_whole); intro h' F' N'))); trivial
theorem wordWLaw2_6 : True := by (k_with "pyIter ref" => ((k_here; refine wpAny_pyIter_gen (by assumption) ?_))); trivial
theorem wordWLaw2_7 : True := by (k_with "call ref" => ((k_here; k_dflt (refine' gen_use ?wqB ?wqF ?wqX ?wqN ?wqT ?wqhl ?wqhm ?wqhd ?_; (case wqB => k_asm); (case wqF => k_asm); (case wqX => k_asm); (case wqN => k_asm); (case wqT => k_asm); (case wqhl => exact TopRead.nolimit (by k_asm)); (case wqhm => k_mem); (case wqhd => ktr_room)); intro ga9 Lg9 oG9 oA9 gs9 h9 tk9 F9 N9 hA9 hb9 l91 l92 cap9))); trivial
theorem wordWLaw2_8 : True := by (k_with "call ref" => ((k_here; k_dflt (refine' cells_use ?wqhI ?wqlay ?wqsz ?wqB ?wqF ?wqX ?wqN ?wqT ?wqkk ?wqhS ?wqhd ?wqhu ?_; (case wqhS => assumption); (case wqhI => assumption); (case wqlay => assumption); (case wqsz => omega); (case wqB => k_asm); (case wqF => k_asm); (case wqX => k_asm); (case wqN => k_asm); (case wqT => k_asm); (case wqkk => first | exact rfl | assumption); (case wqhd => ktr_room); (case wqhu => ktr_units)); intro d9 c0 c1 c2 c3 t90 t91 t92 t93 k9 h9 tk9 hc0 hc1 hc2 hc3 F9 N9 l9; (try k_lt l9)))); trivial
theorem wordWLaw2_9 : True := by (k_with "call builtin:str.join" => ((k_here; k_dflt (refine' join_three ?wql ?wqb1 ?wqb2 ?wqb3 ?_; (case wql => is_list); (case wqb1 => exact BRes.lenT (by with_reducible assumption)); (case wqb2 => exact BRes.lenT (by with_reducible assumption)); (case wqb3 => exact BRes.lenT (by with_reducible assumption)); k_whole); intro _ _))); trivial
theorem wordWLaw2_10 : True := by (k_with "call ref" => ((k_here; k_dflt (refine' heard_three ?wqB ?wqF ?wqX ?wqN ?wqT ?wqkk ?wqhd ?wqhu ?wqb1 ?wqb2 ?wqb3 ?_; (case wqB => k_asm); (case wqF => k_asm); (case wqX => k_asm); (case wqN => k_asm); (case wqT => k_asm); (case wqkk => first | exact rfl | assumption); (case wqhd => ktr_room); (case wqhu => ktr_units); (case wqb1 => assumption); (case wqb2 => assumption); (case wqb3 => assumption)); intro D9 t91 t92 t93 k9 h9 tk9 F9 N9 l9; (try k_lt l9)))); trivial
theorem wordWLaw2_11 : True := by (k_with "compareOp NotEq ref ref" => ((k_here; k_dflt (refine' ne_txs ?wqa ?wqb ?wqi ?wqj ?wqc ?wqu ?_; (case wqa => is_list); (case wqb => is_list); (case wqi => exact .cons _ _ (.cons _ _ (.cons _ _ .nil))); (case wqj => exact .cons _ _ (.cons _ _ (.cons _ _ .nil))); (case wqc => exact asc_three (BRes.asc (by with_reducible assumption)).2 (BRes.asc (by with_reducible assumption)).2 (BRes.asc (by with_reducible assumption)).2); (case wqu => ke_room); k_whole)))); trivial
theorem wordWLaw2_13 : True := by (k_with "call ref" => ((k_here; k_dflt (refine' block_use ?wqB ?wqF ?wqX ?wqN ?wqT ?wqkk ?wqhd ?wqhu ?wqhc ?wqhz ?_; (case wqB => k_asm); (case wqF => k_asm); (case wqX => k_asm); (case wqN => k_asm); (case wqT => k_asm); (case wqkk => first | exact rfl | assumption); (case wqhd => ktr_room); (case wqhu => ktr_units); (case wqhc => assumption); (case wqhz => assumption)); intro D9 W9 H9 V9 u91 u92 u93 h9 tk9 hb9 F9 N9 l9; have lraw9 := l9; (try k_lt l9)))); trivial
theorem wordWLaw2_14 : True := by (k_with "call builtin:str.join" => ((k_here; k_dflt (refine' join_two ?wql ?wqb1 ?wqb2 ?_; (case wql => is_list); (case wqb1 => exact BRes.lenT (by with_reducible assumption)); (case wqb2 => exact BRes.lenT (by with_reducible assumption)); k_whole); intro _ _))); trivial
theorem wordWLaw2_15 : True := by (k_with "call ref" => ((k_here; k_dflt (refine' heard_two ?wqB ?wqF ?wqX ?wqN ?wqT ?wqkk ?wqhd ?wqhu ?wqb1 ?wqb2 ?_; (case wqB => k_asm); (case wqF => k_asm); (case wqX => k_asm); (case wqN => k_asm); (case wqT => k_asm); (case wqkk => first | exact rfl | assumption); (case wqhd => ktr_room); (case wqhu => ktr_units); (case wqb1 => assumption); (case wqb2 => assumption)); intro D9 t91 t92 k9 h9 tk9 F9 N9 l9; (try k_lt l9)))); trivial
theorem wordWLaw2_16 : True := by (k_with "compareOp NotEq ref ref" => ((k_here; k_dflt (refine' ne_txs ?wqa ?wqb ?wqi ?wqj ?wqc ?wqu ?_; (case wqa => is_list); (case wqb => is_list); (case wqi => exact .cons _ _ (.cons _ _ .nil)); (case wqj => exact .cons _ _ (.cons _ _ .nil)); (case wqc => exact asc_two (BRes.asc (by with_reducible assumption)).2 (BRes.asc (by with_reducible assumption)).2); (case wqu => ke_room); k_whole)))); trivial
theorem wordWLaw2_17 : True := by (k_with "compareOp NotEq ref ref" => ((k_here; k_dflt (refine' ne_txs ?wqa ?wqb ?wqi ?wqj ?wqc ?wqu ?_; (case wqa => is_list); (case wqb => is_list); (case wqi => exact .cons _ _ .nil); (case wqj => exact .cons _ _ .nil); (case wqc => exact asc_one (BRes.asc (by with_reducible assumption)).1); (case wqu => ke_room); k_whole)))); trivial
local macro_rules | `(tactic| tb_start) => `(tactic| ((repeat (apply Cx.cons)); exact Cx.nil))
local macro_rules | `(tactic| tb_rel) => `(tactic| first | exact List.forall_mem_nil _ | (refine' List.forall_mem_cons.mpr ⟨?a1, ?b⟩; (case a1 => first | exact Ne2.off (by with_reducible assumption) | exact Ne2.off (ne2_of (ltN (by omega)))); (case b => tb_rel)))
local macro_rules | `(tactic| k_room) => `(tactic| ktr_room)
theorem wordWLaw2_19 : True := by (k_with "UnrEnd" => ((k_dflt (refine' unr_tail ?wqF ?wqN ?wqd ?wqcx ?wqhz ?wqhI ?wqoff ?_; (case wqF => k_asm); (case wqN => k_asm); (case wqd => (repeat (first | exact Aft.here | apply Aft.there))); (case wqcx => tb_start); (case wqhz => assumption); (case wqhI => exact ne2_of (ltN (by omega))); (case wqoff => (repeat (first | exact List.forall_mem_nil _ | refine List.forall_mem_cons.mpr ⟨Nat.ne_of_lt (ltN (by omega)), ?_⟩))))))); trivial
theorem wordWLaw2_20 : True := by (k_with "call ref" => ((k_here; k_dflt (refine' sent_use ?wqB ?wqF ?wqX ?wqN ?wqT ?wqkk ?wqcx ?wqhz ?wqhp ?wqC1 ?wqC2 ?wqhb ?wqhzz ?wqhn ?wqhtu ?wqhd ?wqhu ?_; (case wqB => k_asm); (case wqF => k_asm); (case wqX => k_asm); (case wqN => k_asm); (case wqT => k_asm); (case wqC1 => kn_code); (case wqC2 => kn_code); (case wqkk => first | exact rfl | assumption); (case wqhd => ktr_room); (case wqhu => ktr_units); (case wqcx => tb_start); (case wqhz => assumption); (case wqhp => tb_rel); (case wqhb => assumption); (case wqhzz => assumption); (case wqhn => exact wid_ok); (case wqhtu => exact turn_ok)); intro d9 lt9 pl9 t91 t92 zn9 h9 tk9 hlt9 hpl9 g9 hz9 F9 N9; (have z9 := ne2_of g9); (try simp only [List.cons_append, List.nil_append] at N9)))); trivial
theorem wordWLaw2_21 : True := by (k_with "call ref" => ((k_here; k_dflt (refine' found_use ?wqB ?wqF ?wqX ?wqN ?wqT ?wqkk ?wqhd ?wqhu ?wqhb ?wqhz ?wqhn ?wqhtu ?wqhlt ?wqhpl ?_; (case wqB => k_asm); (case wqF => k_asm); (case wqX => k_asm); (case wqN => k_asm); (case wqT => k_asm); (case wqkk => first | exact rfl | assumption); (case wqhd => ktr_room); (case wqhu => ktr_units); (case wqhb => assumption); (case wqhz => assumption); (case wqhlt => assumption); (case wqhpl => assumption); (case wqhn => exact wid_ok); (case wqhtu => exact turn_ok)); intro d9 t9 k9 h9 tk9 F9 N9 l9; (try k_lt l9)))); trivial
theorem wordWLaw2_22 : True := by (k_with "subscriptTail Name Name ref int" => ((k_here; k_dflt (refine' item_lit ?wqa ?wqb ?wqc ?wqd ?_; (case wqa => is_list); (case wqb => decide); (case wqc => decide); (case wqd => rfl); k_whole)))); trivial
theorem wordWLaw2_23 : True := by (k_with "subscriptTail Name BinOp ref int" => ((k_here; k_dflt (refine' item_lit ?wqa ?wqb ?wqc ?wqd ?_; (case wqa => is_list); (case wqb => decide); (case wqc => decide); (case wqd => rfl); k_whole)))); trivial
theorem wordWLaw2_24 : True := by (k_with "subscriptTail Name Constant ref int" => ((k_here; k_dflt (refine' item_lit ?wqa ?wqb ?wqc ?wqd ?_; (case wqa => is_list); (case wqb => decide); (case wqc => decide); (case wqd => rfl); k_whole)))); trivial
theorem wordWLaw2_25 : True := by (k_with "subscriptTail" => ((k_here; k_dflt (refine' item_tupleT ?wqt ?wqa ?wqb ?wqc ?wqd ?_; (case wqt => exact News.isTup (by k_asm) (by k_mem)); (case wqa => decide); (case wqb => decide); (case wqc => rfl); (case wqd => rfl); k_whole)))); trivial
theorem wordWLaw2_26 : True := by (k_with "subscriptTail Name Constant ref int" => ((k_here; k_dflt (refine' item_tupleT ?wqt ?wqa ?wqb ?wqc ?wqd ?_; (case wqt => exact News.isTup (by k_asm) (by k_mem)); (case wqa => decide); (case wqb => decide); (case wqc => rfl); (case wqd => rfl); k_whole)))); trivial
theorem wordWLaw2_27 : True := by (k_with "FinE" => (((unfold LCg.FinE); intro D' h' tk' F' N' o1'; k_dflt (have z1' := ne2_off o1' (by k_mem) (by k_mem)); clear o1'; (try simp only [List.nil_append, List.cons_append] at N'); (try dsimp only)))); trivial
theorem wordWLaw2_28 : True := by (k_with "FinA" => (((unfold LCg.FinA); intro D' h' tk' F' N' o1'; k_dflt (have z1' := ne2_off o1' (by k_mem) (by k_mem)); clear o1'; (try simp only [List.nil_append, List.cons_append] at N'); (try dsimp only)))); trivial
theorem wordWLaw2_29 : True := by (k_with "exec Assign cons ListComp" => ((k_here; k_dflt (refine LCg.Assign_ListComp_U (F₀ := by k_asm) (by rfl) (by with_unfolding_all rfl) (by with_unfolding_all rfl) (by decide) (by rfl) (by decide) (by rfl) (by rfl) (by rfl) ?_); k_dflt lcg_toSrc))); trivial
theorem wordWLaw2_30 : True := by (k_with "CompRest" => ((with_unfolding_all first
  | (refine LCg.CompRest.succ ?_; intro v' I' oI' C' oC' D' m' h' tk' E' hv' hC' hx' F' N' off' ne'; (first | lcg_open hv' | (obtain ⟨t9', hv9'⟩ := hv'; subst hv9')))
  | refine LCg.CompRest.zero ?_))); trivial
theorem wordWLaw2_31 : True := by (k_with "CompEnd" => ((first
  | (refine' end_grow ?wqF ?wqN ?wqoff ?wqlt ?wqsrc ?_; (case wqF => k_asm); (case wqN => k_asm); (case wqoff => with_reducible assumption); (case wqlt => with_reducible assumption); (case wqsrc => first | exact True.intro | exact Or.inr ⟨_, by k_mem, rfl, _, rfl⟩))
  | (refine' end_same ?wqF ?wqN ?wqoff ?wqsrc ?_; (case wqF => k_asm); (case wqN => k_asm); (case wqoff => with_reducible assumption); (case wqsrc => first | exact True.intro | exact Or.inr ⟨_, by k_mem, rfl, _, rfl⟩))))); trivial
theorem wordWLaw2_32 : True := by (k_with "CompSrc" => ((k_here; k_dflt (first
  | (refine LCg.CompSrc.ledger (by rfl) (by k_asm) (by k_asm) (by k_mem) (by first | size_fits | exact Nat.le_of_ble_eq_true rfl) ?_; intro g'; lcg_lit)
  | (refine LCg.CompSrc.range (by rfl) (by k_asm) (by k_asm) (by assumption) (by first | decide | rfl) (by first | rfl | decide) (by first | size_fits | exact Nat.le_of_ble_eq_true rfl) ?_; intro g'; lcg_lit))))); trivial
theorem wordWLaw4_0 : True := by (k_with "execs cons" => ((with_reducible show wpAny _ _ (execs (Stmt.For (Expr.Name (Str.ofString "k") _) _ _ _ _ :: _) _) _ _ _); k_dflt (refine' loop_two HL ?wqF ?wqN ?wqih ?wqeh ?wqib ?wqeb ?wqit ?wqet ?wqi1 ?wqf1 ?wqi2 ?wqf2 ?wqi30 ?wqe30 ?wqi37 ?wqe37 ?wqgh ?wqgb ?wqgt ?wqg1 ?wqg2 ?wqr1 ?wqr2 ?wqz1 ?wqz2; (case wqF => k_asm); (case wqN => k_asm); (case wqih => k_mem); (case wqeh => rfl); (case wqib => k_mem); (case wqeb => rfl); (case wqit => k_mem); (case wqet => rfl); (case wqi1 => k_mem); (case wqf1 => rfl); (case wqi2 => k_mem); (case wqf2 => rfl); (case wqi30 => k_mem); (case wqe30 => rfl); (case wqi37 => k_mem); (case wqe37 => rfl); (case wqgh => exact ltN (by omega)); (case wqgb => first | with_reducible assumption | exact ne2_of (ltN (by omega))); (case wqgt => first | with_reducible assumption | exact ne2_of (ltN (by omega))); (case wqg1 => first | with_reducible assumption | exact ne2_of (ltN (by omega))); (case wqg2 => first | with_reducible assumption | exact ne2_of (ltN (by omega))); (case wqr1 => assumption); (case wqr2 => assumption); (case wqz1 => assumption); (case wqz2 => assumption)))); trivial
theorem wordWLaw4_1 : True := by (k_with "execs cons" => ((with_reducible show wpAny _ _ (execs (Stmt.For (Expr.Name (Str.ofString "k") _) _ _ _ _ :: _) _) _ _ _); k_dflt (refine' loop_three HL ?wqF ?wqN ?wqih ?wqeh ?wqib ?wqeb ?wqit ?wqet ?wqi1 ?wqf1 ?wqi2 ?wqf2 ?wqi3 ?wqf3 ?wqi30 ?wqe30 ?wqi37 ?wqe37 ?wqgh ?wqgb ?wqgt ?wqg1 ?wqg2 ?wqg3 ?wqr1 ?wqr2 ?wqr3 ?wqz1 ?wqz2 ?wqz3; (case wqF => k_asm); (case wqN => k_asm); (case wqih => k_mem); (case wqeh => rfl); (case wqib => k_mem); (case wqeb => rfl); (case wqit => k_mem); (case wqet => rfl); (case wqi1 => k_mem); (case wqf1 => rfl); (case wqi2 => k_mem); (case wqf2 => rfl); (case wqi3 => k_mem); (case wqf3 => rfl); (case wqi30 => k_mem); (case wqe30 => rfl); (case wqi37 => k_mem); (case wqe37 => rfl); (case wqgh => exact ltN (by omega)); (case wqgb => first | with_reducible assumption | exact ne2_of (ltN (by omega))); (case wqgt => first | with_reducible assumption | exact ne2_of (ltN (by omega))); (case wqg1 => first | with_reducible assumption | exact ne2_of (ltN (by omega))); (case wqg2 => first | with_reducible assumption | exact ne2_of (ltN (by omega))); (case wqg3 => first | with_reducible assumption | exact ne2_of (ltN (by omega))); (case wqr1 => assumption); (case wqr2 => assumption); (case wqr3 => assumption); (case wqz1 => assumption); (case wqz2 => assumption); (case wqz3 => assumption)))); trivial
theorem wordWLaw4_2 : True := by (k_with "call builtin:len" => ((k_here; (with_reducible show wpAny _ _ (call (Value.builtin "len") [Value.ref _]) _ _ _); (refine KM.len_K (by k_asm) (by k_dflt k_mem) (size_arr _) (le_62b (by assumption)) ?_)))); trivial
theorem wordWLaw4_3 : True := by (k_with "pyIter ref" => ((k_here; (with_reducible show wpAny _ _ (pyIter _) (fun it s₂ => LoopAtV _ _ _ _ _ _ _ _ _ it s₂) _ _); k_dflt (refine' iter_n ?wqhh ?wqhr ?wqhz ?wqF ?wqN ?_; (case wqhh => with_unfolding_all rfl); (case wqhr => assumption); (case wqhz => exact ⟨.inl rfl, by omega, by omega⟩); (case wqF => k_asm); (case wqN => k_asm); k_whole); intro I9 l9i; (try k_lt l9i)))); trivial
theorem wordWLaw4_4 : True := by (k_with "subscriptTail Name Name ref int" => ((k_here; k_dflt (refine' item_at ?wqa ?wqb ?wqc ?_; (case wqa => is_list); (case wqb => assumption); (case wqc => assumption); k_whole)))); trivial
set_option maxHeartbeats 8000000 in
theorem walk1 : rw0.Holds := by
  refine top0 ?_
  conv =>
    arg 6
    delta d0
    conv => arg 2; whnf
    conv => arg 3; whnf
    conv => arg 4; whnf
    conv => arg 5; whnf
  k_fill
  intro w s₀ s₁ mg mb G Y fa o pm cd doc dV kV ho hd hcd hD hmg hg args vals as hpre hlay hrd hwl hlo
  have KX := km_in_of Y
  have hT9 := tabs0 Y
  have X := (Ground.X G).1
  have V := (Ground.X G).2
  refine Ground.open G ?_
  intro T B D TE TW
  try (refine guard_noD D (by decide +kernel) ?_; clear D)
  clear hmg
  wrow_args hpre hlay hrd hwl hlo
  all_goals (
    first | refine callC_kw (enter_call ?_) | refine enter_call ?_
    w_top on
    refine my_post hT9 ?_
    w_call any ho hd hcd hD T F
    clear hd
    kn_ghosts F T
    k_drop
    skip)
  rename Frag.In _ _ => X8
  revert X8
  k_fill
  intro X8
  try k_fold
  refine gen_post ?_
  intro Q9 hQ9
  k_steps
  · exact SPost.intro ⟨_, _, _, _, _, siz_of, siz_of, by assumption, by assumption, by (repeat (first | exact List.forall_mem_nil _ | refine List.forall_mem_cons.mpr ⟨ltN (by omega), ?_⟩))⟩
  · exact SPost.intro ⟨_, _, _, _, ⟨.e0 rfl (by assumption) (by assumption), .inl ⟨rfl, fun e => absurd ((Eq.symm (by assumption)).trans e) (by decide : ¬ (0 : Int) = 2), rfl⟩⟩, by assumption, News.sub (by assumption) (by (repeat (first | exact List.forall_mem_nil _ | refine sub2 (by k_mem) ?_))), by (repeat (first | exact List.forall_mem_nil _ | refine List.forall_mem_cons.mpr ⟨ltN (by omega), ?_⟩))⟩
  · exact SPost.intro ⟨_, _, _, _, ⟨.e1 rfl (by assumption) (by assumption), .inl ⟨rfl, fun e => absurd ((Eq.symm (by assumption)).trans e) (by decide : ¬ (1 : Int) = 2), rfl⟩⟩, by assumption, News.sub (by assumption) (by (repeat (first | exact List.forall_mem_nil _ | refine sub2 (by k_mem) ?_))), by (repeat (first | exact List.forall_mem_nil _ | refine List.forall_mem_cons.mpr ⟨ltN (by omega), ?_⟩))⟩
  · exact SPost.intro ⟨_, _, _, _, ⟨.e2 rfl (by assumption) (by assumption), .inr ⟨rfl, by assumption, rfl⟩⟩, by assumption, News.sub (by assumption) (by (repeat (first | exact List.forall_mem_nil _ | refine sub2 (by k_mem) ?_))), by (repeat (first | exact List.forall_mem_nil _ | refine List.forall_mem_cons.mpr ⟨ltN (by omega), ?_⟩))⟩
  · rename RowOk _ _ _ _ _ _ => hR9
    rcases hR9.2 with ⟨_, hne, _⟩ | ⟨hy, _, _⟩
    · exact absurd (by assumption) hne
    · rw [hy]
      exact SPost.intro ⟨_, _, _, _, .cons _ _ (.cons _ _ (.cons _ _ .nil)), by assumption, ltN (by omega), by assumption, News.sub (by assumption) (by (repeat (first | exact List.forall_mem_nil _ | refine sub2 (by k_mem) ?_)))⟩
  · rename RowOk _ _ _ _ _ _ => hR9
    rcases hR9.2 with ⟨hy, _, _⟩ | ⟨_, he, _⟩
    · rw [hy]
      exact SPost.intro ⟨_, _, _, _, .cons _ _ (.cons _ _ .nil), by assumption, ltN (by omega), by assumption, News.sub (by assumption) (by (repeat (first | exact List.forall_mem_nil _ | refine sub2 (by k_mem) ?_)))⟩
    · exact absurd he (by assumption)
  · rename RowOk _ _ _ _ _ _ => hR9
    rename Heap.IsGen _ _ _ => hA9
    rename GenState.bare _ = true => hb9
    rename (∀ _ _, GOk _ _ _ → GCap _ _ _ _ _ _ _ _ _ _ _) => cap9
    rename News _ _ _ _ => N9
    rename Fr _ _ _ _ => F9
    rename (_ = #[]) => hg9
    k_dflt (refine loop_use F9 N9 (cap9 _ _ hR9.1) push_last (bare_push hg9 hb9) hA9 (by k_mem) (row_pos hR9) ?_ (by assumption) (by assumption) (by (repeat (first | exact List.forall_mem_nil _ | refine List.forall_mem_cons.mpr ⟨ltN (by omega), ?_⟩))) ?_ ?_)
    · exact List.forall_mem_cons.mpr ⟨notIt_cell (by assumption), List.forall_mem_cons.mpr ⟨notIt_list, List.forall_mem_cons.mpr ⟨notIt_row hR9.1, List.forall_mem_cons.mpr ⟨notIt_list, List.forall_mem_cons.mpr ⟨notIt_cell (by assumption), List.forall_mem_cons.mpr ⟨notIt_tab, List.forall_mem_cons.mpr ⟨notIt_tab, List.forall_mem_nil _⟩⟩⟩⟩⟩⟩⟩
    · intro j y t vs o tl h tk gens hy hI F9 N9 off hsub hb
      clear cap9
      rcases hR9.2 with ⟨e, _, e2⟩ | ⟨e, _, e2⟩
      all_goals (clear hR9; subst e; subst e2)
      · rcases j with _ | _ | j
        · cases hy
          rcases hI with _ | _
          refine gen_post2 ?_
          intro Q8 hQ8
          k_steps
          refine hQ8 _ _ ?_
          exact GTurn.nx (.inl rfl) (by assumption) (by assumption) (.cons _ _ .nil)
        · cases hy
          rcases hI with _ | ⟨_, _, _ | _⟩
          refine gen_post2 ?_
          intro Q8 hQ8
          k_steps
          refine hQ8 _ _ ?_
          exact GTurn.nx (.inl rfl) (by assumption) (by assumption) (.cons _ _ (.cons _ _ .nil))
        · exact absurd hy (by simp)
      · rcases j with _ | _ | _ | j
        · cases hy
          rcases hI with _ | _
          refine gen_post2 ?_
          intro Q8 hQ8
          k_steps
          refine hQ8 _ _ ?_
          exact GTurn.nx (.inr (by simp)) (by assumption) (by assumption) (.cons _ _ .nil)
        · cases hy
          rcases hI with _ | ⟨_, _, _ | _⟩
          refine gen_post2 ?_
          intro Q8 hQ8
          k_steps
          refine hQ8 _ _ ?_
          exact GTurn.nx (.inr (by simp)) (by assumption) (by assumption) (.cons _ _ (.cons _ _ .nil))
        · cases hy
          rcases hI with _ | ⟨_, _, _ | ⟨_, _, _ | _⟩⟩
          refine gen_post2 ?_
          intro Q8 hQ8
          k_steps
          refine hQ8 _ _ ?_
          exact GTurn.bk (LPost.intro hb ⟨_, _, _, .cons _ _ (.cons _ _ (.cons _ _ .nil)), fr_twice (by assumption), News.sub (by assumption) (List.forall_mem_cons.mpr ⟨.head _, fun p hp => .tail _ (hsub p hp)⟩)⟩)
        · exact absurd hy (by simp)
    · intro vs o h tk gens _ a1 a2 a3 a4
      exact LPost.intro a4 ⟨vs, _, o, a1, a2, a3⟩
  · unfold Hold
    change wpAny _ _ _ _ _ _
    rename RowOk _ _ _ _ _ _ => hR9
    rename (IntsAre _ _) => hI9
    revert hI9
    rename (IntsAre _ _) => hI8
    intro hI9
    rename Fr _ _ _ _ => F9
    rename News _ _ _ _ => N9
    refine cut_loop F9 N9 ?hL ?hH
    case hL =>
      have hvl := Nat.le_trans (Nat.le_of_eq hI9.length) (row_len hR9)
      intro lh lb d1 d2 d3 hv bv kh o1 o2 o3 zn h tk gh nh nb nt n1 n2 n3 hz rows F N
      clear F9 N9 hR9 hI9 hI8
      try dsimp only
      k_steps
      refine range5 (Str.ofString "sent") (Str.ofString "turn") (Str.ofString "letters") (Str.ofString "places") (Str.ofString "k") (S := List (Addr × Obj)) (fun z9 => (lh, listOf hv.toArray kh) :: (lb, LCg.lst bv) :: (_, _) :: (d1, o1) :: (d2, o2) :: (d3, o3) :: z9) (fun _ _ _ _ _ _ z9 => TabZ [] z9) zn rfl ?start ?zero ?succ
      case start => exact hz
      case zero =>
        intro p1 p2 p3 p4 p5 z9 hz9
        k_steps
        refine' hQ9 _ _ (law_end (by assumption) (by assumption) (by assumption) ?cx hz9)
        case cx => tb_start
      case succ =>
        intro k i p1 p2 p3 p4 p5 z9 hi hz9 ih
        obtain ⟨x, tx, d, W, V, H, t1, t2, t3, th, e1, e2, e3, hm, hb, hs, hd2⟩ := rows i (by omega)
        have hi8 : i ≤ 8 := by omega
        have hdI := mem3_lt hm l9i.2.2.2.1 l9i.2.2.2.2.1 l9i.2.2.2.2.2.1
        refine Mine.RangeRest.sub (dup_sub (.tail _ (.tail _ (.tail _ (mem3_app hm))))) ?_
        k_steps
        refine ih _ _ _ (by assumption) (fun y e1 e2 e3 e4 e5 => ?nm) (fun p hp => .tail _ hp)
        ((repeat (refine (if_neg (by assumption)).trans ?_)); refine Eq.symm ?_; (repeat (refine (if_neg (by assumption)).trans ?_)); exact rfl)
    case hH =>
      intro HL
      rcases hR9.2 with ⟨hy, hne, _⟩ | ⟨hy, he, _⟩
      all_goals (clear hR9; subst hy)
      · rcases hI9 with _ | ⟨_, tA, _ | ⟨_, tB, _ | _⟩⟩
        rcases hI8 with _ | ⟨_, tC, _ | ⟨_, tD, _ | _⟩⟩
        k_steps
      · rcases hI9 with _ | ⟨_, tA, _ | ⟨_, tB, _ | ⟨_, tE, _ | _⟩⟩⟩
        rcases hI8 with _ | ⟨_, tC, _ | ⟨_, tD, _ | ⟨_, tG, _ | _⟩⟩⟩
        k_steps
end Mine
end PartWLaw4

set_option maxRecDepth 100000 in
set_option maxHeartbeats 8000000 in
theorem PySem.Challenge.cw_ul0025_01_holds : PySem.Challenge.rw_ul0025_01.Holds := by
  exact Mine.walk1
