import PyProof.Rows.All
import Wide.All
import OpenK.AllK
import Wide.FinOn
import Lean
import PySem.Challenge.RW_xe0047_01
set_option Elab.async false
local macro_rules | `(tactic| walk_at $s:str) => `(tactic| k_extra $s)
section
open PySem PySem.W PyProof.Rows PySem.Calls PySem.Spec
set_option Elab.async false
set_option maxRecDepth 100000
noncomputable section
set_option linter.unusedVariables false
namespace Mine
noncomputable abbrev pw : Program := PySem.Challenge.pw_xe0047_01
noncomputable def stm (i : Nat) : Stmt := match pw.main.body[i]? with
  | some s => s
  | none => .Pass ⟨0, 0, 0, 0⟩
noncomputable def fnO (i : Nat) (glob : Addr) (pm code : Value) (blt : Addr) : FuncData := match stm i with
  | .FunctionDef name params body _ _ _ scope _ _ _ => { name, qualname := name, params, body := .stmts body, scope, globals := glob, closure := [], defaults := .none, kwdefaults := .none, pyModule := pm, code, builtins := blt }
  | _ => { name := "", qualname := "", params := ⟨[], [], none, [], [], none, []⟩, body := .stmts [], scope := { kind := .function, names := [], isGenerator := false, isCoroutine := false, more := [] }, globals := 0, closure := [], defaults := .none, kwdefaults := .none }
noncomputable def lifeT : Life := PySem.Life.mk [] [] [] 0 [] [] Bool.false #[] [] 0 Bool.false Bool.false Bool.false 0 [2000, 10, 10] Bool.false 0 Bool.true [] [] 0 Bool.false
noncomputable def o3 (P : Params) : Obj := PySem.Obj.mk (PySem.Value.type "dict") Option.none
  (PySem.Data.dict
    #[PySem.DictEntry.mk (PySem.PyData.keyHash P (PySem.Str.ofString "__name__"))
        (PySem.Value.str (PySem.Str.ofString "__name__") 165)
        (PySem.Value.str (PySem.Str.ofString "law_xe0047_01") 2319),
      PySem.DictEntry.mk (PySem.PyData.keyHash P (PySem.Str.ofString "__doc__"))
        (PySem.Value.str (PySem.Str.ofString "__doc__") 166) PySem.Value.none,
      PySem.DictEntry.mk (PySem.PyData.keyHash P (PySem.Str.ofString "__package__"))
        (PySem.Value.str (PySem.Str.ofString "__package__") 167) PySem.Value.none,
      PySem.DictEntry.mk (PySem.PyData.keyHash P (PySem.Str.ofString "__loader__"))
        (PySem.Value.str (PySem.Str.ofString "__loader__") 168) (PySem.Value.builtin "__main__.__loader__#opaque"),
      PySem.DictEntry.mk (PySem.PyData.keyHash P (PySem.Str.ofString "__spec__"))
        (PySem.Value.str (PySem.Str.ofString "__spec__") 169) PySem.Value.none,
      PySem.DictEntry.mk (PySem.PyData.keyHash P (PySem.Str.ofString "__annotations__"))
        (PySem.Value.str (PySem.Str.ofString "__annotations__") 170) (PySem.Value.ref 6),
      PySem.DictEntry.mk (PySem.PyData.keyHash P (PySem.Str.ofString "__builtins__"))
        (PySem.Value.str (PySem.Str.ofString "__builtins__") 171) (PySem.Value.ref 4),
      PySem.DictEntry.mk (PySem.PyData.keyHash P (PySem.Str.ofString "__file__"))
        (PySem.Value.str (PySem.Str.ofString "__file__") 173)
        (PySem.Value.str (PySem.Str.ofString "/claim/cut.py") 172),
      PySem.DictEntry.mk (PySem.PyData.keyHash P (PySem.Str.ofString "__cached__"))
        (PySem.Value.str (PySem.Str.ofString "__cached__") 174) PySem.Value.none,
      PySem.DictEntry.mk (PySem.PyData.keyHash P (PySem.Str.ofString "_DIV_LIMIT"))
        (PySem.Value.str (PySem.Str.ofString "_DIV_LIMIT") 190) (PySem.Value.int 4000 189),
      PySem.DictEntry.mk (PySem.PyData.keyHash P (PySem.Str.ofString "_div2n1n"))
        (PySem.Value.str (PySem.Str.ofString "_div2n1n") 207) (PySem.Value.ref 21),
      PySem.DictEntry.mk (PySem.PyData.keyHash P (PySem.Str.ofString "_div3n2n"))
        (PySem.Value.str (PySem.Str.ofString "_div3n2n") 221) (PySem.Value.ref 28),
      PySem.DictEntry.mk (PySem.PyData.keyHash P (PySem.Str.ofString "_int2digits"))
        (PySem.Value.str (PySem.Str.ofString "_int2digits") 232) (PySem.Value.ref 35),
      PySem.DictEntry.mk (PySem.PyData.keyHash P (PySem.Str.ofString "_digits2int"))
        (PySem.Value.str (PySem.Str.ofString "_digits2int") 243) (PySem.Value.ref 42),
      PySem.DictEntry.mk (PySem.PyData.keyHash P (PySem.Str.ofString "add_func_stats"))
        (PySem.Value.str (PySem.Str.ofString "add_func_stats") 263) (PySem.Value.ref 49),
      PySem.DictEntry.mk (PySem.PyData.keyHash P (PySem.Str.ofString "add_callers"))
        (PySem.Value.str (PySem.Str.ofString "add_callers") 274) (PySem.Value.ref 56),
      PySem.DictEntry.mk (PySem.PyData.keyHash P (PySem.Str.ofString "count_calls"))
        (PySem.Value.str (PySem.Str.ofString "count_calls") 283) (PySem.Value.ref 63),
      PySem.DictEntry.mk (PySem.PyData.keyHash P (PySem.Str.ofString "b1_set"))
        (PySem.Value.str (PySem.Str.ofString "b1_set") 345) (PySem.Value.ref 71),
      PySem.DictEntry.mk (PySem.PyData.keyHash P (PySem.Str.ofString "in_table_b1"))
        (PySem.Value.str (PySem.Str.ofString "in_table_b1") 352) (PySem.Value.ref 81),
      PySem.DictEntry.mk (PySem.PyData.keyHash P (PySem.Str.ofString "b3_exceptions"))
        (PySem.Value.str (PySem.Str.ofString "b3_exceptions") 2303) (PySem.Value.ref 82),
      PySem.DictEntry.mk (PySem.PyData.keyHash P (PySem.Str.ofString "map_table_b3"))
        (PySem.Value.str (PySem.Str.ofString "map_table_b3") 2311) (PySem.Value.ref 127),
      PySem.DictEntry.mk (PySem.PyData.keyHash P (PySem.Str.ofString "in_table_c11"))
        (PySem.Value.str (PySem.Str.ofString "in_table_c11") 2318) (PySem.Value.ref 134),
      PySem.DictEntry.mk (PySem.PyData.keyHash P (PySem.Str.ofString "_law_word"))
        (PySem.Value.str (PySem.Str.ofString "_law_word") 2330) (PySem.Value.ref 141),
      PySem.DictEntry.mk (PySem.PyData.keyHash P (PySem.Str.ofString "_law_spelled"))
        (PySem.Value.str (PySem.Str.ofString "_law_spelled") 2336) (PySem.Value.ref 146),
      PySem.DictEntry.mk (PySem.PyData.keyHash P (PySem.Str.ofString "_law_prepared"))
        (PySem.Value.str (PySem.Str.ofString "_law_prepared") 2345) (PySem.Value.ref 153),
      PySem.DictEntry.mk (PySem.PyData.keyHash P (PySem.Str.ofString "_law_counted"))
        (PySem.Value.str (PySem.Str.ofString "_law_counted") 2354) (PySem.Value.ref 160),
      PySem.DictEntry.mk (PySem.PyData.keyHash P (PySem.Str.ofString "_law_pairings"))
        (PySem.Value.str (PySem.Str.ofString "_law_pairings") 2368) (PySem.Value.ref 167),
      PySem.DictEntry.mk (PySem.PyData.keyHash P (PySem.Str.ofString "_law_orders"))
        (PySem.Value.str (PySem.Str.ofString "_law_orders") 2377) (PySem.Value.ref 174),
      PySem.DictEntry.mk (PySem.PyData.keyHash P (PySem.Str.ofString "_law_alike"))
        (PySem.Value.str (PySem.Str.ofString "_law_alike") 2387) (PySem.Value.ref 181),
      PySem.DictEntry.mk (PySem.PyData.keyHash P (PySem.Str.ofString "_law_arrangements"))
        (PySem.Value.str (PySem.Str.ofString "_law_arrangements") 2393) (PySem.Value.ref 186),
      PySem.DictEntry.mk (PySem.PyData.keyHash P (PySem.Str.ofString "_law_entry"))
        (PySem.Value.str (PySem.Str.ofString "_law_entry") 2402) (PySem.Value.ref 193),
      PySem.DictEntry.mk (PySem.PyData.keyHash P (PySem.Str.ofString "law"))
        (PySem.Value.str (PySem.Str.ofString "law") 2408) (PySem.Value.ref 198)]
    32)
  #[]
noncomputable def o11 (P : Params) : Obj := PySem.Obj.mk (PySem.Value.type "tuple") Option.none (PySem.Data.seq #[]) #[]
noncomputable def o12 (P : Params) : Obj := PySem.Obj.mk PySem.Value.none Option.none
  (PySem.Data.fields
    #[PySem.Value.int 3 0, PySem.Value.int 0 0, PySem.Value.ref 20, PySem.Value.int 19 0, PySem.Value.int 0 0,
      PySem.Value.ref 27, PySem.Value.int 29 0, PySem.Value.int 0 0, PySem.Value.ref 34, PySem.Value.int 45 0,
      PySem.Value.int 0 0, PySem.Value.ref 41, PySem.Value.int 55 0, PySem.Value.int 0 0, PySem.Value.ref 48,
      PySem.Value.int 59 0, PySem.Value.int 0 0, PySem.Value.ref 55, PySem.Value.int 72 0, PySem.Value.int 0 0,
      PySem.Value.ref 62, PySem.Value.int 79 0, PySem.Value.int 0 0, PySem.Value.ref 80, PySem.Value.int 82 0,
      PySem.Value.int 0 0, PySem.Value.ref 126, PySem.Value.int 87 0, PySem.Value.int 0 0, PySem.Value.ref 133,
      PySem.Value.int 90 0, PySem.Value.int 0 0, PySem.Value.ref 140, PySem.Value.int 96 0, PySem.Value.int 0 0,
      PySem.Value.ref 145, PySem.Value.int 111 0, PySem.Value.int 0 0, PySem.Value.ref 152, PySem.Value.int 119 0,
      PySem.Value.int 0 0, PySem.Value.ref 159, PySem.Value.int 126 0, PySem.Value.int 0 0, PySem.Value.ref 166,
      PySem.Value.int 136 0, PySem.Value.int 0 0, PySem.Value.ref 173, PySem.Value.int 141 0, PySem.Value.int 0 0,
      PySem.Value.ref 180, PySem.Value.int 146 0, PySem.Value.int 0 0, PySem.Value.ref 185, PySem.Value.int 152 0,
      PySem.Value.int 0 0, PySem.Value.ref 192, PySem.Value.int 157 0, PySem.Value.int 0 0, PySem.Value.ref 197])
  #[]
noncomputable def o13 (P : Params) : Obj := PySem.Obj.mk (PySem.Value.type "code") Option.none
  (PySem.Data.fields
    #[PySem.Value.str (PySem.Str.ofString "<module>") 182, PySem.Value.str (PySem.Str.ofString "<module>") 183,
      PySem.Value.str (PySem.Str.ofString "/claim/cut.py") 184, PySem.Value.int 1 0, PySem.Value.int 0 0,
      PySem.Value.int 0 0, PySem.Value.int 0 0, PySem.Value.int 0 0, PySem.Value.ref 11, PySem.Value.bool Bool.false,
      PySem.Value.int 181 0, PySem.Value.ref 12, PySem.Value.none, PySem.Value.none, PySem.Value.none, PySem.Value.none,
      PySem.Value.int 185 0, PySem.Value.int 1 0, PySem.Value.str (PySem.Str.ofString "/claim/cut.py") 186])
  #[]
noncomputable def o14 (P : Params) : Obj := PySem.Obj.mk (PySem.Value.type "frame") Option.none PySem.Data.plain
  #[Option.some (PySem.Value.ref 13), Option.some (PySem.Value.ref 3), Option.some (PySem.Value.ref 3), Option.none,
    Option.some (PySem.Value.str (PySem.Str.ofString "__main__") 164), Option.none, Option.some (PySem.Value.ref 0)]
noncomputable def o15 (P : Params) : Obj := PySem.Obj.mk (PySem.Value.type "tuple") Option.none (PySem.Data.seq #[]) #[]
noncomputable def o16 (P : Params) : Obj := PySem.Obj.mk PySem.Value.none Option.none (PySem.Data.fields #[]) #[]
noncomputable def o17 (P : Params) : Obj := PySem.Obj.mk (PySem.Value.type "tuple") Option.none
  (PySem.Data.seq
    #[PySem.Value.str (PySem.Str.ofString "a") 194, PySem.Value.str (PySem.Str.ofString "b") 195,
      PySem.Value.str (PySem.Str.ofString "n") 196, PySem.Value.str (PySem.Str.ofString "pad") 197,
      PySem.Value.str (PySem.Str.ofString "half_n") 198, PySem.Value.str (PySem.Str.ofString "mask") 199,
      PySem.Value.str (PySem.Str.ofString "b1") 200, PySem.Value.str (PySem.Str.ofString "b2") 201,
      PySem.Value.str (PySem.Str.ofString "q1") 202, PySem.Value.str (PySem.Str.ofString "r") 203,
      PySem.Value.str (PySem.Str.ofString "q2") 204])
  #[]
noncomputable def o18 (P : Params) : Obj := PySem.Obj.mk (PySem.Value.type "tuple") Option.none (PySem.Data.seq #[]) #[]
noncomputable def o19 (P : Params) : Obj := { cls := PySem.Value.none, dict := none, data := .func (fnO 2 0 (PySem.Value.none) (PySem.Value.none) 0), slots := #[] }
noncomputable def o20 (P : Params) : Obj := PySem.Obj.mk (PySem.Value.type "code") Option.none
  (PySem.Data.fields
    #[PySem.Value.str (PySem.Str.ofString "_div2n1n") 191, PySem.Value.str (PySem.Str.ofString "_div2n1n") 192,
      PySem.Value.str (PySem.Str.ofString "/claim/cut.py") 193, PySem.Value.int 3 0, PySem.Value.int 3 0,
      PySem.Value.int 0 0, PySem.Value.int 0 0, PySem.Value.int 3 0, PySem.Value.ref 15, PySem.Value.bool Bool.true,
      PySem.Value.int 181 0, PySem.Value.ref 16, PySem.Value.none, PySem.Value.ref 17, PySem.Value.ref 18,
      PySem.Value.ref 19, PySem.Value.int 205 0, PySem.Value.int 3 0,
      PySem.Value.str (PySem.Str.ofString "/claim/cut.py") 206])
  #[]
noncomputable def o21 (P : Params) : Obj := { cls := PySem.Value.type "function", dict := none, data := .func (fnO 2 3 (PySem.Value.str (PySem.Str.ofString "cpy313._pylong") 187) (PySem.Value.ref 20) 0), slots := #[] }
noncomputable def o22 (P : Params) : Obj := PySem.Obj.mk (PySem.Value.type "tuple") Option.none (PySem.Data.seq #[]) #[]
noncomputable def o23 (P : Params) : Obj := PySem.Obj.mk PySem.Value.none Option.none (PySem.Data.fields #[]) #[]
noncomputable def o24 (P : Params) : Obj := PySem.Obj.mk (PySem.Value.type "tuple") Option.none
  (PySem.Data.seq
    #[PySem.Value.str (PySem.Str.ofString "a12") 211, PySem.Value.str (PySem.Str.ofString "a3") 212,
      PySem.Value.str (PySem.Str.ofString "b") 213, PySem.Value.str (PySem.Str.ofString "b1") 214,
      PySem.Value.str (PySem.Str.ofString "b2") 215, PySem.Value.str (PySem.Str.ofString "n") 216,
      PySem.Value.str (PySem.Str.ofString "q") 217, PySem.Value.str (PySem.Str.ofString "r") 218])
  #[]
noncomputable def o25 (P : Params) : Obj := PySem.Obj.mk (PySem.Value.type "tuple") Option.none (PySem.Data.seq #[]) #[]
noncomputable def o26 (P : Params) : Obj := { cls := PySem.Value.none, dict := none, data := .func (fnO 3 0 (PySem.Value.none) (PySem.Value.none) 0), slots := #[] }
noncomputable def o27 (P : Params) : Obj := PySem.Obj.mk (PySem.Value.type "code") Option.none
  (PySem.Data.fields
    #[PySem.Value.str (PySem.Str.ofString "_div3n2n") 208, PySem.Value.str (PySem.Str.ofString "_div3n2n") 209,
      PySem.Value.str (PySem.Str.ofString "/claim/cut.py") 210, PySem.Value.int 19 0, PySem.Value.int 6 0,
      PySem.Value.int 0 0, PySem.Value.int 0 0, PySem.Value.int 3 0, PySem.Value.ref 22, PySem.Value.bool Bool.true,
      PySem.Value.int 181 0, PySem.Value.ref 23, PySem.Value.none, PySem.Value.ref 24, PySem.Value.ref 25,
      PySem.Value.ref 26, PySem.Value.int 219 0, PySem.Value.int 19 0,
      PySem.Value.str (PySem.Str.ofString "/claim/cut.py") 220])
  #[]
noncomputable def o28 (P : Params) : Obj := { cls := PySem.Value.type "function", dict := none, data := .func (fnO 3 3 (PySem.Value.str (PySem.Str.ofString "cpy313._pylong") 187) (PySem.Value.ref 27) 0), slots := #[] }
noncomputable def o29 (P : Params) : Obj := PySem.Obj.mk (PySem.Value.type "tuple") Option.none (PySem.Data.seq #[]) #[]
noncomputable def o30 (P : Params) : Obj := PySem.Obj.mk PySem.Value.none Option.none (PySem.Data.fields #[]) #[]
noncomputable def o31 (P : Params) : Obj := PySem.Obj.mk (PySem.Value.type "tuple") Option.none
  (PySem.Data.seq #[PySem.Value.str (PySem.Str.ofString "a") 225, PySem.Value.str (PySem.Str.ofString "n") 226]) #[]
noncomputable def o32 (P : Params) : Obj := PySem.Obj.mk (PySem.Value.type "tuple") Option.none
  (PySem.Data.seq
    #[PySem.Value.str (PySem.Str.ofString "n") 227, PySem.Value.str (PySem.Str.ofString "a_digits") 228,
      PySem.Value.str (PySem.Str.ofString "inner") 229])
  #[]
noncomputable def o33 (P : Params) : Obj := { cls := PySem.Value.none, dict := none, data := .func (fnO 4 0 (PySem.Value.none) (PySem.Value.none) 0), slots := #[] }
noncomputable def o34 (P : Params) : Obj := PySem.Obj.mk (PySem.Value.type "code") Option.none
  (PySem.Data.fields
    #[PySem.Value.str (PySem.Str.ofString "_int2digits") 222, PySem.Value.str (PySem.Str.ofString "_int2digits") 223,
      PySem.Value.str (PySem.Str.ofString "/claim/cut.py") 224, PySem.Value.int 29 0, PySem.Value.int 2 0,
      PySem.Value.int 0 0, PySem.Value.int 0 0, PySem.Value.int 3 0, PySem.Value.ref 29, PySem.Value.bool Bool.true,
      PySem.Value.int 181 0, PySem.Value.ref 30, PySem.Value.none, PySem.Value.ref 31, PySem.Value.ref 32,
      PySem.Value.ref 33, PySem.Value.int 230 0, PySem.Value.int 29 0,
      PySem.Value.str (PySem.Str.ofString "/claim/cut.py") 231])
  #[]
noncomputable def o35 (P : Params) : Obj := { cls := PySem.Value.type "function", dict := none, data := .func (fnO 4 3 (PySem.Value.str (PySem.Str.ofString "cpy313._pylong") 187) (PySem.Value.ref 34) 0), slots := #[] }
noncomputable def o36 (P : Params) : Obj := PySem.Obj.mk (PySem.Value.type "tuple") Option.none (PySem.Data.seq #[]) #[]
noncomputable def o37 (P : Params) : Obj := PySem.Obj.mk PySem.Value.none Option.none (PySem.Data.fields #[]) #[]
noncomputable def o38 (P : Params) : Obj := PySem.Obj.mk (PySem.Value.type "tuple") Option.none
  (PySem.Data.seq #[PySem.Value.str (PySem.Str.ofString "digits") 236, PySem.Value.str (PySem.Str.ofString "n") 237])
  #[]
noncomputable def o39 (P : Params) : Obj := PySem.Obj.mk (PySem.Value.type "tuple") Option.none
  (PySem.Data.seq
    #[PySem.Value.str (PySem.Str.ofString "digits") 238, PySem.Value.str (PySem.Str.ofString "n") 239,
      PySem.Value.str (PySem.Str.ofString "inner") 240])
  #[]
noncomputable def o40 (P : Params) : Obj := { cls := PySem.Value.none, dict := none, data := .func (fnO 5 0 (PySem.Value.none) (PySem.Value.none) 0), slots := #[] }
noncomputable def o41 (P : Params) : Obj := PySem.Obj.mk (PySem.Value.type "code") Option.none
  (PySem.Data.fields
    #[PySem.Value.str (PySem.Str.ofString "_digits2int") 233, PySem.Value.str (PySem.Str.ofString "_digits2int") 234,
      PySem.Value.str (PySem.Str.ofString "/claim/cut.py") 235, PySem.Value.int 45 0, PySem.Value.int 2 0,
      PySem.Value.int 0 0, PySem.Value.int 0 0, PySem.Value.int 3 0, PySem.Value.ref 36, PySem.Value.bool Bool.true,
      PySem.Value.int 181 0, PySem.Value.ref 37, PySem.Value.none, PySem.Value.ref 38, PySem.Value.ref 39,
      PySem.Value.ref 40, PySem.Value.int 241 0, PySem.Value.int 45 0,
      PySem.Value.str (PySem.Str.ofString "/claim/cut.py") 242])
  #[]
noncomputable def o42 (P : Params) : Obj := { cls := PySem.Value.type "function", dict := none, data := .func (fnO 5 3 (PySem.Value.str (PySem.Str.ofString "cpy313._pylong") 187) (PySem.Value.ref 41) 0), slots := #[] }
noncomputable def o43 (P : Params) : Obj := PySem.Obj.mk (PySem.Value.type "tuple") Option.none (PySem.Data.seq #[]) #[]
noncomputable def o44 (P : Params) : Obj := PySem.Obj.mk PySem.Value.none Option.none (PySem.Data.fields #[]) #[]
noncomputable def o45 (P : Params) : Obj := PySem.Obj.mk (PySem.Value.type "tuple") Option.none
  (PySem.Data.seq
    #[PySem.Value.str (PySem.Str.ofString "target") 249, PySem.Value.str (PySem.Str.ofString "source") 250,
      PySem.Value.str (PySem.Str.ofString "cc") 251, PySem.Value.str (PySem.Str.ofString "nc") 252,
      PySem.Value.str (PySem.Str.ofString "tt") 253, PySem.Value.str (PySem.Str.ofString "ct") 254,
      PySem.Value.str (PySem.Str.ofString "callers") 255, PySem.Value.str (PySem.Str.ofString "t_cc") 256,
      PySem.Value.str (PySem.Str.ofString "t_nc") 257, PySem.Value.str (PySem.Str.ofString "t_tt") 258,
      PySem.Value.str (PySem.Str.ofString "t_ct") 259, PySem.Value.str (PySem.Str.ofString "t_callers") 260])
  #[]
noncomputable def o46 (P : Params) : Obj := PySem.Obj.mk (PySem.Value.type "tuple") Option.none (PySem.Data.seq #[]) #[]
noncomputable def o47 (P : Params) : Obj := { cls := PySem.Value.none, dict := none, data := .func (fnO 7 0 (PySem.Value.none) (PySem.Value.none) 0), slots := #[] }
noncomputable def o48 (P : Params) : Obj := PySem.Obj.mk (PySem.Value.type "code") Option.none
  (PySem.Data.fields
    #[PySem.Value.str (PySem.Str.ofString "add_func_stats") 246,
      PySem.Value.str (PySem.Str.ofString "add_func_stats") 247,
      PySem.Value.str (PySem.Str.ofString "/claim/cut.py") 248, PySem.Value.int 55 0, PySem.Value.int 2 0,
      PySem.Value.int 0 0, PySem.Value.int 0 0, PySem.Value.int 3 0, PySem.Value.ref 43, PySem.Value.bool Bool.true,
      PySem.Value.int 181 0, PySem.Value.ref 44, PySem.Value.none, PySem.Value.ref 45, PySem.Value.ref 46,
      PySem.Value.ref 47, PySem.Value.int 261 0, PySem.Value.int 55 0,
      PySem.Value.str (PySem.Str.ofString "/claim/cut.py") 262])
  #[]
noncomputable def o49 (P : Params) : Obj := { cls := PySem.Value.type "function", dict := none, data := .func (fnO 7 3 (PySem.Value.str (PySem.Str.ofString "cpy313.pstats") 244) (PySem.Value.ref 48) 0), slots := #[] }
noncomputable def o50 (P : Params) : Obj := PySem.Obj.mk (PySem.Value.type "tuple") Option.none (PySem.Data.seq #[]) #[]
noncomputable def o51 (P : Params) : Obj := PySem.Obj.mk PySem.Value.none Option.none (PySem.Data.fields #[]) #[]
noncomputable def o52 (P : Params) : Obj := PySem.Obj.mk (PySem.Value.type "tuple") Option.none
  (PySem.Data.seq
    #[PySem.Value.str (PySem.Str.ofString "target") 267, PySem.Value.str (PySem.Str.ofString "source") 268,
      PySem.Value.str (PySem.Str.ofString "new_callers") 269, PySem.Value.str (PySem.Str.ofString "func") 270,
      PySem.Value.str (PySem.Str.ofString "caller") 271])
  #[]
noncomputable def o53 (P : Params) : Obj := PySem.Obj.mk (PySem.Value.type "tuple") Option.none (PySem.Data.seq #[]) #[]
noncomputable def o54 (P : Params) : Obj := { cls := PySem.Value.none, dict := none, data := .func (fnO 8 0 (PySem.Value.none) (PySem.Value.none) 0), slots := #[] }
noncomputable def o55 (P : Params) : Obj := PySem.Obj.mk (PySem.Value.type "code") Option.none
  (PySem.Data.fields
    #[PySem.Value.str (PySem.Str.ofString "add_callers") 264, PySem.Value.str (PySem.Str.ofString "add_callers") 265,
      PySem.Value.str (PySem.Str.ofString "/claim/cut.py") 266, PySem.Value.int 59 0, PySem.Value.int 2 0,
      PySem.Value.int 0 0, PySem.Value.int 0 0, PySem.Value.int 3 0, PySem.Value.ref 50, PySem.Value.bool Bool.true,
      PySem.Value.int 181 0, PySem.Value.ref 51, PySem.Value.none, PySem.Value.ref 52, PySem.Value.ref 53,
      PySem.Value.ref 54, PySem.Value.int 272 0, PySem.Value.int 59 0,
      PySem.Value.str (PySem.Str.ofString "/claim/cut.py") 273])
  #[]
noncomputable def o56 (P : Params) : Obj := { cls := PySem.Value.type "function", dict := none, data := .func (fnO 8 3 (PySem.Value.str (PySem.Str.ofString "cpy313.pstats") 244) (PySem.Value.ref 55) 0), slots := #[] }
noncomputable def o57 (P : Params) : Obj := PySem.Obj.mk (PySem.Value.type "tuple") Option.none (PySem.Data.seq #[]) #[]
noncomputable def o58 (P : Params) : Obj := PySem.Obj.mk PySem.Value.none Option.none (PySem.Data.fields #[]) #[]
noncomputable def o59 (P : Params) : Obj := PySem.Obj.mk (PySem.Value.type "tuple") Option.none
  (PySem.Data.seq
    #[PySem.Value.str (PySem.Str.ofString "callers") 278, PySem.Value.str (PySem.Str.ofString "nc") 279,
      PySem.Value.str (PySem.Str.ofString "calls") 280])
  #[]
noncomputable def o60 (P : Params) : Obj := PySem.Obj.mk (PySem.Value.type "tuple") Option.none (PySem.Data.seq #[]) #[]
noncomputable def o61 (P : Params) : Obj := { cls := PySem.Value.none, dict := none, data := .func (fnO 9 0 (PySem.Value.none) (PySem.Value.none) 0), slots := #[] }
noncomputable def o62 (P : Params) : Obj := PySem.Obj.mk (PySem.Value.type "code") Option.none
  (PySem.Data.fields
    #[PySem.Value.str (PySem.Str.ofString "count_calls") 275, PySem.Value.str (PySem.Str.ofString "count_calls") 276,
      PySem.Value.str (PySem.Str.ofString "/claim/cut.py") 277, PySem.Value.int 72 0, PySem.Value.int 1 0,
      PySem.Value.int 0 0, PySem.Value.int 0 0, PySem.Value.int 3 0, PySem.Value.ref 57, PySem.Value.bool Bool.true,
      PySem.Value.int 181 0, PySem.Value.ref 58, PySem.Value.none, PySem.Value.ref 59, PySem.Value.ref 60,
      PySem.Value.ref 61, PySem.Value.int 281 0, PySem.Value.int 72 0,
      PySem.Value.str (PySem.Str.ofString "/claim/cut.py") 282])
  #[]
noncomputable def o63 (P : Params) : Obj := { cls := PySem.Value.type "function", dict := none, data := .func (fnO 9 3 (PySem.Value.str (PySem.Str.ofString "cpy313.pstats") 244) (PySem.Value.ref 62) 0), slots := #[] }
noncomputable def o64 (P : Params) : Obj := PySem.Obj.mk (PySem.Value.type "list") Option.none
  (PySem.Data.seq
    #[PySem.Value.int 173 286, PySem.Value.int 847 287, PySem.Value.int 6150 288, PySem.Value.int 6155 289,
      PySem.Value.int 6156 290, PySem.Value.int 6157 291, PySem.Value.int 8203 292, PySem.Value.int 8204 293,
      PySem.Value.int 8205 294, PySem.Value.int 8288 295, PySem.Value.int 65279 296])
  #[]
noncomputable def o65 (P : Params) : Obj := PySem.Obj.mk (PySem.Value.type "range") Option.none
  (PySem.Data.fields #[PySem.Value.int 65024 297, PySem.Value.int 65040 298, PySem.Value.int 1 299]) #[]
noncomputable def o66 (P : Params) : Obj := PySem.Obj.mk (PySem.Value.type "list") Option.none
  (PySem.Data.seq
    #[PySem.Value.int 65024 302, PySem.Value.int 65025 303, PySem.Value.int 65026 304, PySem.Value.int 65027 305,
      PySem.Value.int 65028 306, PySem.Value.int 65029 307, PySem.Value.int 65030 308, PySem.Value.int 65031 309,
      PySem.Value.int 65032 310, PySem.Value.int 65033 311, PySem.Value.int 65034 312, PySem.Value.int 65035 313,
      PySem.Value.int 65036 314, PySem.Value.int 65037 315, PySem.Value.int 65038 316, PySem.Value.int 65039 317]
    18)
  #[]
noncomputable def o67 (P : Params) : Obj := PySem.Obj.mk (PySem.Value.type "range_iterator") Option.none
  (PySem.Data.fields #[PySem.Value.int 65040 0, PySem.Value.int 0 0, PySem.Value.int 1 0]) #[]
noncomputable def o68 (P : Params) : Obj := PySem.Obj.mk (PySem.Value.type "tuple") Option.none (PySem.Data.seq #[]) #[]
noncomputable def o69 (P : Params) : Obj := PySem.Obj.mk (PySem.Value.type "StopIteration") Option.none
  (PySem.Data.fields
    #[PySem.Value.ref 68, PySem.Value.none, PySem.Value.none, PySem.Value.none, PySem.Value.bool Bool.false,
      PySem.Value.none])
  #[]
noncomputable def o70 (P : Params) : Obj := PySem.Obj.mk (PySem.Value.type "list") Option.none
  (PySem.Data.seq
    #[PySem.Value.int 173 286, PySem.Value.int 847 287, PySem.Value.int 6150 288, PySem.Value.int 6155 289,
      PySem.Value.int 6156 290, PySem.Value.int 6157 291, PySem.Value.int 8203 292, PySem.Value.int 8204 293,
      PySem.Value.int 8205 294, PySem.Value.int 8288 295, PySem.Value.int 65279 296, PySem.Value.int 65024 302,
      PySem.Value.int 65025 303, PySem.Value.int 65026 304, PySem.Value.int 65027 305, PySem.Value.int 65028 306,
      PySem.Value.int 65029 307, PySem.Value.int 65030 308, PySem.Value.int 65031 309, PySem.Value.int 65032 310,
      PySem.Value.int 65033 311, PySem.Value.int 65034 312, PySem.Value.int 65035 313, PySem.Value.int 65036 314,
      PySem.Value.int 65037 315, PySem.Value.int 65038 316, PySem.Value.int 65039 317])
  #[]
noncomputable def o71 (P : Params) : Obj := PySem.Obj.mk (PySem.Value.type "set") Option.none
  (PySem.Data.set
    #[(65024, PySem.Value.int 65024 302), (65025, PySem.Value.int 65025 303), (65026, PySem.Value.int 65026 304),
      (65027, PySem.Value.int 65027 305), (65028, PySem.Value.int 65028 306), (65029, PySem.Value.int 65029 307),
      (6150, PySem.Value.int 6150 288), (65030, PySem.Value.int 65030 308), (65031, PySem.Value.int 65031 309),
      (65032, PySem.Value.int 65032 310), (65033, PySem.Value.int 65033 311), (6155, PySem.Value.int 6155 289),
      (6156, PySem.Value.int 6156 290), (6157, PySem.Value.int 6157 291), (8203, PySem.Value.int 8203 292),
      (8204, PySem.Value.int 8204 293), (8205, PySem.Value.int 8205 294), (65034, PySem.Value.int 65034 312),
      (65035, PySem.Value.int 65035 313), (65036, PySem.Value.int 65036 314), (65037, PySem.Value.int 65037 315),
      (65038, PySem.Value.int 65038 316), (65039, PySem.Value.int 65039 317), (173, PySem.Value.int 173 286),
      (847, PySem.Value.int 847 287), (8288, PySem.Value.int 8288 295), (65279, PySem.Value.int 65279 296)]
    29
    (PySem.SetTable.mk 127
      #[0, 1, 2, 3, 4, 5, 6, 7, 8, 9, 10, 11, 12, 13, 14, 15, 16, 17, 18, 19, 20, 21, 22, 45, 79, 96, 127] #[] 0
      (!(P.followText "set-order")) 2 Bool.true))
  #[]
noncomputable def o72 (P : Params) : Obj := PySem.Obj.mk (PySem.Value.type "list_iterator") Option.none
  (PySem.Data.fields #[PySem.Value.none, PySem.Value.int 27 0]) #[]
noncomputable def o73 (P : Params) : Obj := PySem.Obj.mk (PySem.Value.type "tuple") Option.none (PySem.Data.seq #[]) #[]
noncomputable def o74 (P : Params) : Obj := PySem.Obj.mk (PySem.Value.type "StopIteration") Option.none
  (PySem.Data.fields
    #[PySem.Value.ref 73, PySem.Value.none, PySem.Value.none, PySem.Value.none, PySem.Value.bool Bool.false,
      PySem.Value.none])
  #[]
noncomputable def o75 (P : Params) : Obj := PySem.Obj.mk (PySem.Value.type "tuple") Option.none (PySem.Data.seq #[]) #[]
noncomputable def o76 (P : Params) : Obj := PySem.Obj.mk PySem.Value.none Option.none (PySem.Data.fields #[]) #[]
noncomputable def o77 (P : Params) : Obj := PySem.Obj.mk (PySem.Value.type "tuple") Option.none (PySem.Data.seq #[PySem.Value.str (PySem.Str.ofString "code") 349])
  #[]
noncomputable def o78 (P : Params) : Obj := PySem.Obj.mk (PySem.Value.type "tuple") Option.none (PySem.Data.seq #[]) #[]
noncomputable def o79 (P : Params) : Obj := { cls := PySem.Value.none, dict := none, data := .func (fnO 12 0 (PySem.Value.none) (PySem.Value.none) 0), slots := #[] }
noncomputable def o80 (P : Params) : Obj := PySem.Obj.mk (PySem.Value.type "code") Option.none
  (PySem.Data.fields
    #[PySem.Value.str (PySem.Str.ofString "in_table_b1") 346, PySem.Value.str (PySem.Str.ofString "in_table_b1") 347,
      PySem.Value.str (PySem.Str.ofString "/claim/cut.py") 348, PySem.Value.int 79 0, PySem.Value.int 1 0,
      PySem.Value.int 0 0, PySem.Value.int 0 0, PySem.Value.int 3 0, PySem.Value.ref 75, PySem.Value.bool Bool.true,
      PySem.Value.int 181 0, PySem.Value.ref 76, PySem.Value.none, PySem.Value.ref 77, PySem.Value.ref 78,
      PySem.Value.ref 79, PySem.Value.int 350 0, PySem.Value.int 79 0,
      PySem.Value.str (PySem.Str.ofString "/claim/cut.py") 351])
  #[]
noncomputable def o81 (P : Params) : Obj := { cls := PySem.Value.type "function", dict := none, data := .func (fnO 12 3 (PySem.Value.str (PySem.Str.ofString "cpy313.stringprep") 284) (PySem.Value.ref 80) 0), slots := #[] }
noncomputable def o121 (P : Params) : Obj := PySem.Obj.mk (PySem.Value.type "tuple") Option.none (PySem.Data.seq #[]) #[]
noncomputable def o122 (P : Params) : Obj := PySem.Obj.mk PySem.Value.none Option.none (PySem.Data.fields #[]) #[]
noncomputable def o123 (P : Params) : Obj := PySem.Obj.mk (PySem.Value.type "tuple") Option.none
  (PySem.Data.seq #[PySem.Value.str (PySem.Str.ofString "code") 2307, PySem.Value.str (PySem.Str.ofString "r") 2308])
  #[]
noncomputable def o124 (P : Params) : Obj := PySem.Obj.mk (PySem.Value.type "tuple") Option.none (PySem.Data.seq #[]) #[]
noncomputable def o125 (P : Params) : Obj := { cls := PySem.Value.none, dict := none, data := .func (fnO 14 0 (PySem.Value.none) (PySem.Value.none) 0), slots := #[] }
noncomputable def o126 (P : Params) : Obj := PySem.Obj.mk (PySem.Value.type "code") Option.none
  (PySem.Data.fields
    #[PySem.Value.str (PySem.Str.ofString "map_table_b3") 2304,
      PySem.Value.str (PySem.Str.ofString "map_table_b3") 2305,
      PySem.Value.str (PySem.Str.ofString "/claim/cut.py") 2306, PySem.Value.int 82 0, PySem.Value.int 1 0,
      PySem.Value.int 0 0, PySem.Value.int 0 0, PySem.Value.int 3 0, PySem.Value.ref 121, PySem.Value.bool Bool.true,
      PySem.Value.int 181 0, PySem.Value.ref 122, PySem.Value.none, PySem.Value.ref 123, PySem.Value.ref 124,
      PySem.Value.ref 125, PySem.Value.int 2309 0, PySem.Value.int 82 0,
      PySem.Value.str (PySem.Str.ofString "/claim/cut.py") 2310])
  #[]
noncomputable def o127 (P : Params) : Obj := { cls := PySem.Value.type "function", dict := none, data := .func (fnO 14 3 (PySem.Value.str (PySem.Str.ofString "cpy313.stringprep") 284) (PySem.Value.ref 126) 0), slots := #[] }
noncomputable def o128 (P : Params) : Obj := PySem.Obj.mk (PySem.Value.type "tuple") Option.none (PySem.Data.seq #[]) #[]
noncomputable def o129 (P : Params) : Obj := PySem.Obj.mk PySem.Value.none Option.none (PySem.Data.fields #[]) #[]
noncomputable def o130 (P : Params) : Obj := PySem.Obj.mk (PySem.Value.type "tuple") Option.none (PySem.Data.seq #[PySem.Value.str (PySem.Str.ofString "code") 2315])
  #[]
noncomputable def o131 (P : Params) : Obj := PySem.Obj.mk (PySem.Value.type "tuple") Option.none (PySem.Data.seq #[]) #[]
noncomputable def o132 (P : Params) : Obj := { cls := PySem.Value.none, dict := none, data := .func (fnO 15 0 (PySem.Value.none) (PySem.Value.none) 0), slots := #[] }
noncomputable def o133 (P : Params) : Obj := PySem.Obj.mk (PySem.Value.type "code") Option.none
  (PySem.Data.fields
    #[PySem.Value.str (PySem.Str.ofString "in_table_c11") 2312,
      PySem.Value.str (PySem.Str.ofString "in_table_c11") 2313,
      PySem.Value.str (PySem.Str.ofString "/claim/cut.py") 2314, PySem.Value.int 87 0, PySem.Value.int 1 0,
      PySem.Value.int 0 0, PySem.Value.int 0 0, PySem.Value.int 3 0, PySem.Value.ref 128, PySem.Value.bool Bool.true,
      PySem.Value.int 181 0, PySem.Value.ref 129, PySem.Value.none, PySem.Value.ref 130, PySem.Value.ref 131,
      PySem.Value.ref 132, PySem.Value.int 2316 0, PySem.Value.int 87 0,
      PySem.Value.str (PySem.Str.ofString "/claim/cut.py") 2317])
  #[]
noncomputable def o134 (P : Params) : Obj := { cls := PySem.Value.type "function", dict := none, data := .func (fnO 15 3 (PySem.Value.str (PySem.Str.ofString "cpy313.stringprep") 284) (PySem.Value.ref 133) 0), slots := #[] }
noncomputable def o135 (P : Params) : Obj := PySem.Obj.mk (PySem.Value.type "tuple") Option.none (PySem.Data.seq #[]) #[]
noncomputable def o136 (P : Params) : Obj := PySem.Obj.mk PySem.Value.none Option.none (PySem.Data.fields #[]) #[]
noncomputable def o137 (P : Params) : Obj := PySem.Obj.mk (PySem.Value.type "tuple") Option.none
  (PySem.Data.seq
    #[PySem.Value.str (PySem.Str.ofString "number") 2324, PySem.Value.str (PySem.Str.ofString "size") 2325,
      PySem.Value.str (PySem.Str.ofString "word") 2326, PySem.Value.str (PySem.Str.ofString "place") 2327])
  #[]
noncomputable def o138 (P : Params) : Obj := PySem.Obj.mk (PySem.Value.type "tuple") Option.none (PySem.Data.seq #[]) #[]
noncomputable def o139 (P : Params) : Obj := { cls := PySem.Value.none, dict := none, data := .func (fnO 17 0 (PySem.Value.none) (PySem.Value.none) 0), slots := #[] }
noncomputable def o140 (P : Params) : Obj := PySem.Obj.mk (PySem.Value.type "code") Option.none
  (PySem.Data.fields
    #[PySem.Value.str (PySem.Str.ofString "_law_word") 2321, PySem.Value.str (PySem.Str.ofString "_law_word") 2322,
      PySem.Value.str (PySem.Str.ofString "/claim/cut.py") 2323, PySem.Value.int 90 0, PySem.Value.int 2 0,
      PySem.Value.int 0 0, PySem.Value.int 0 0, PySem.Value.int 3 0, PySem.Value.ref 135, PySem.Value.bool Bool.true,
      PySem.Value.int 181 0, PySem.Value.ref 136, PySem.Value.none, PySem.Value.ref 137, PySem.Value.ref 138,
      PySem.Value.ref 139, PySem.Value.int 2328 0, PySem.Value.int 90 0,
      PySem.Value.str (PySem.Str.ofString "/claim/cut.py") 2329])
  #[]
noncomputable def o141 (P : Params) : Obj := { cls := PySem.Value.type "function", dict := none, data := .func (fnO 17 3 (PySem.Value.str (PySem.Str.ofString "law_xe0047_01") 2319) (PySem.Value.ref 140) 0), slots := #[] }
noncomputable def o142 (P : Params) : Obj := PySem.Obj.mk (PySem.Value.type "tuple") Option.none (PySem.Data.seq #[]) #[]
noncomputable def o143 (P : Params) : Obj := PySem.Obj.mk PySem.Value.none Option.none (PySem.Data.fields #[]) #[]
noncomputable def o144 (P : Params) : Obj := { cls := PySem.Value.none, dict := none, data := .func (fnO 18 0 (PySem.Value.none) (PySem.Value.none) 0), slots := #[] }
noncomputable def o145 (P : Params) : Obj := PySem.Obj.mk (PySem.Value.type "code") Option.none
  (PySem.Data.fields
    #[PySem.Value.str (PySem.Str.ofString "_law_spelled") 2331,
      PySem.Value.str (PySem.Str.ofString "_law_spelled") 2332,
      PySem.Value.str (PySem.Str.ofString "/claim/cut.py") 2333, PySem.Value.int 96 0, PySem.Value.int 2 0,
      PySem.Value.int 0 0, PySem.Value.int 0 0, PySem.Value.int 3 0, PySem.Value.ref 142, PySem.Value.bool Bool.true,
      PySem.Value.int 181 0, PySem.Value.ref 143, PySem.Value.none, PySem.Value.none, PySem.Value.none,
      PySem.Value.ref 144, PySem.Value.int 2334 0, PySem.Value.int 96 0,
      PySem.Value.str (PySem.Str.ofString "/claim/cut.py") 2335])
  #[]
noncomputable def o146 (P : Params) : Obj := { cls := PySem.Value.type "function", dict := none, data := .func (fnO 18 3 (PySem.Value.str (PySem.Str.ofString "law_xe0047_01") 2319) (PySem.Value.ref 145) 0), slots := #[] }
noncomputable def o147 (P : Params) : Obj := PySem.Obj.mk (PySem.Value.type "tuple") Option.none (PySem.Data.seq #[]) #[]
noncomputable def o148 (P : Params) : Obj := PySem.Obj.mk PySem.Value.none Option.none (PySem.Data.fields #[]) #[]
noncomputable def o149 (P : Params) : Obj := PySem.Obj.mk (PySem.Value.type "tuple") Option.none
  (PySem.Data.seq
    #[PySem.Value.str (PySem.Str.ofString "line") 2340, PySem.Value.str (PySem.Str.ofString "words") 2341,
      PySem.Value.str (PySem.Str.ofString "sign") 2342])
  #[]
noncomputable def o150 (P : Params) : Obj := PySem.Obj.mk (PySem.Value.type "tuple") Option.none (PySem.Data.seq #[]) #[]
noncomputable def o151 (P : Params) : Obj := { cls := PySem.Value.none, dict := none, data := .func (fnO 19 0 (PySem.Value.none) (PySem.Value.none) 0), slots := #[] }
noncomputable def o152 (P : Params) : Obj := PySem.Obj.mk (PySem.Value.type "code") Option.none
  (PySem.Data.fields
    #[PySem.Value.str (PySem.Str.ofString "_law_prepared") 2337,
      PySem.Value.str (PySem.Str.ofString "_law_prepared") 2338,
      PySem.Value.str (PySem.Str.ofString "/claim/cut.py") 2339, PySem.Value.int 111 0, PySem.Value.int 1 0,
      PySem.Value.int 0 0, PySem.Value.int 0 0, PySem.Value.int 3 0, PySem.Value.ref 147, PySem.Value.bool Bool.true,
      PySem.Value.int 181 0, PySem.Value.ref 148, PySem.Value.none, PySem.Value.ref 149, PySem.Value.ref 150,
      PySem.Value.ref 151, PySem.Value.int 2343 0, PySem.Value.int 111 0,
      PySem.Value.str (PySem.Str.ofString "/claim/cut.py") 2344])
  #[]
noncomputable def o153 (P : Params) : Obj := { cls := PySem.Value.type "function", dict := none, data := .func (fnO 19 3 (PySem.Value.str (PySem.Str.ofString "law_xe0047_01") 2319) (PySem.Value.ref 152) 0), slots := #[] }
noncomputable def o154 (P : Params) : Obj := PySem.Obj.mk (PySem.Value.type "tuple") Option.none (PySem.Data.seq #[]) #[]
noncomputable def o155 (P : Params) : Obj := PySem.Obj.mk PySem.Value.none Option.none (PySem.Data.fields #[]) #[]
noncomputable def o156 (P : Params) : Obj := PySem.Obj.mk (PySem.Value.type "tuple") Option.none
  (PySem.Data.seq
    #[PySem.Value.str (PySem.Str.ofString "words") 2349, PySem.Value.str (PySem.Str.ofString "table") 2350,
      PySem.Value.str (PySem.Str.ofString "letter") 2351])
  #[]
noncomputable def o157 (P : Params) : Obj := PySem.Obj.mk (PySem.Value.type "tuple") Option.none (PySem.Data.seq #[]) #[]
noncomputable def o158 (P : Params) : Obj := { cls := PySem.Value.none, dict := none, data := .func (fnO 20 0 (PySem.Value.none) (PySem.Value.none) 0), slots := #[] }
noncomputable def o159 (P : Params) : Obj := PySem.Obj.mk (PySem.Value.type "code") Option.none
  (PySem.Data.fields
    #[PySem.Value.str (PySem.Str.ofString "_law_counted") 2346,
      PySem.Value.str (PySem.Str.ofString "_law_counted") 2347,
      PySem.Value.str (PySem.Str.ofString "/claim/cut.py") 2348, PySem.Value.int 119 0, PySem.Value.int 1 0,
      PySem.Value.int 0 0, PySem.Value.int 0 0, PySem.Value.int 3 0, PySem.Value.ref 154, PySem.Value.bool Bool.true,
      PySem.Value.int 181 0, PySem.Value.ref 155, PySem.Value.none, PySem.Value.ref 156, PySem.Value.ref 157,
      PySem.Value.ref 158, PySem.Value.int 2352 0, PySem.Value.int 119 0,
      PySem.Value.str (PySem.Str.ofString "/claim/cut.py") 2353])
  #[]
noncomputable def o160 (P : Params) : Obj := { cls := PySem.Value.type "function", dict := none, data := .func (fnO 20 3 (PySem.Value.str (PySem.Str.ofString "law_xe0047_01") 2319) (PySem.Value.ref 159) 0), slots := #[] }
noncomputable def o161 (P : Params) : Obj := PySem.Obj.mk (PySem.Value.type "tuple") Option.none (PySem.Data.seq #[]) #[]
noncomputable def o162 (P : Params) : Obj := PySem.Obj.mk PySem.Value.none Option.none (PySem.Data.fields #[]) #[]
noncomputable def o163 (P : Params) : Obj := PySem.Obj.mk (PySem.Value.type "tuple") Option.none
  (PySem.Data.seq
    #[PySem.Value.str (PySem.Str.ofString "table") 2358, PySem.Value.str (PySem.Str.ofString "width") 2359,
      PySem.Value.str (PySem.Str.ofString "product") 2360, PySem.Value.str (PySem.Str.ofString "ahead") 2361,
      PySem.Value.str (PySem.Str.ofString "behind") 2362, PySem.Value.str (PySem.Str.ofString "figures") 2363,
      PySem.Value.str (PySem.Str.ofString "ways") 2364, PySem.Value.str (PySem.Str.ofString "k") 2365])
  #[]
noncomputable def o164 (P : Params) : Obj := PySem.Obj.mk (PySem.Value.type "tuple") Option.none (PySem.Data.seq #[]) #[]
noncomputable def o165 (P : Params) : Obj := { cls := PySem.Value.none, dict := none, data := .func (fnO 21 0 (PySem.Value.none) (PySem.Value.none) 0), slots := #[] }
noncomputable def o166 (P : Params) : Obj := PySem.Obj.mk (PySem.Value.type "code") Option.none
  (PySem.Data.fields
    #[PySem.Value.str (PySem.Str.ofString "_law_pairings") 2355,
      PySem.Value.str (PySem.Str.ofString "_law_pairings") 2356,
      PySem.Value.str (PySem.Str.ofString "/claim/cut.py") 2357, PySem.Value.int 126 0, PySem.Value.int 2 0,
      PySem.Value.int 0 0, PySem.Value.int 0 0, PySem.Value.int 3 0, PySem.Value.ref 161, PySem.Value.bool Bool.true,
      PySem.Value.int 181 0, PySem.Value.ref 162, PySem.Value.none, PySem.Value.ref 163, PySem.Value.ref 164,
      PySem.Value.ref 165, PySem.Value.int 2366 0, PySem.Value.int 126 0,
      PySem.Value.str (PySem.Str.ofString "/claim/cut.py") 2367])
  #[]
noncomputable def o167 (P : Params) : Obj := { cls := PySem.Value.type "function", dict := none, data := .func (fnO 21 3 (PySem.Value.str (PySem.Str.ofString "law_xe0047_01") 2319) (PySem.Value.ref 166) 0), slots := #[] }
noncomputable def o168 (P : Params) : Obj := PySem.Obj.mk (PySem.Value.type "tuple") Option.none (PySem.Data.seq #[]) #[]
noncomputable def o169 (P : Params) : Obj := PySem.Obj.mk PySem.Value.none Option.none (PySem.Data.fields #[]) #[]
noncomputable def o170 (P : Params) : Obj := PySem.Obj.mk (PySem.Value.type "tuple") Option.none
  (PySem.Data.seq
    #[PySem.Value.str (PySem.Str.ofString "number") 2372, PySem.Value.str (PySem.Str.ofString "product") 2373,
      PySem.Value.str (PySem.Str.ofString "k") 2374])
  #[]
noncomputable def o171 (P : Params) : Obj := PySem.Obj.mk (PySem.Value.type "tuple") Option.none (PySem.Data.seq #[]) #[]
noncomputable def o172 (P : Params) : Obj := { cls := PySem.Value.none, dict := none, data := .func (fnO 22 0 (PySem.Value.none) (PySem.Value.none) 0), slots := #[] }
noncomputable def o173 (P : Params) : Obj := PySem.Obj.mk (PySem.Value.type "code") Option.none
  (PySem.Data.fields
    #[PySem.Value.str (PySem.Str.ofString "_law_orders") 2369, PySem.Value.str (PySem.Str.ofString "_law_orders") 2370,
      PySem.Value.str (PySem.Str.ofString "/claim/cut.py") 2371, PySem.Value.int 136 0, PySem.Value.int 1 0,
      PySem.Value.int 0 0, PySem.Value.int 0 0, PySem.Value.int 3 0, PySem.Value.ref 168, PySem.Value.bool Bool.true,
      PySem.Value.int 181 0, PySem.Value.ref 169, PySem.Value.none, PySem.Value.ref 170, PySem.Value.ref 171,
      PySem.Value.ref 172, PySem.Value.int 2375 0, PySem.Value.int 136 0,
      PySem.Value.str (PySem.Str.ofString "/claim/cut.py") 2376])
  #[]
noncomputable def o174 (P : Params) : Obj := { cls := PySem.Value.type "function", dict := none, data := .func (fnO 22 3 (PySem.Value.str (PySem.Str.ofString "law_xe0047_01") 2319) (PySem.Value.ref 173) 0), slots := #[] }
noncomputable def o175 (P : Params) : Obj := PySem.Obj.mk (PySem.Value.type "tuple") Option.none (PySem.Data.seq #[]) #[]
noncomputable def o176 (P : Params) : Obj := PySem.Obj.mk PySem.Value.none Option.none (PySem.Data.fields #[]) #[]
noncomputable def o177 (P : Params) : Obj := PySem.Obj.mk (PySem.Value.type "tuple") Option.none
  (PySem.Data.seq
    #[PySem.Value.str (PySem.Str.ofString "table") 2381, PySem.Value.str (PySem.Str.ofString "product") 2382,
      PySem.Value.str (PySem.Str.ofString "ahead") 2383, PySem.Value.str (PySem.Str.ofString "behind") 2384])
  #[]
noncomputable def o178 (P : Params) : Obj := PySem.Obj.mk (PySem.Value.type "tuple") Option.none (PySem.Data.seq #[]) #[]
noncomputable def o179 (P : Params) : Obj := { cls := PySem.Value.none, dict := none, data := .func (fnO 23 0 (PySem.Value.none) (PySem.Value.none) 0), slots := #[] }
noncomputable def o180 (P : Params) : Obj := PySem.Obj.mk (PySem.Value.type "code") Option.none
  (PySem.Data.fields
    #[PySem.Value.str (PySem.Str.ofString "_law_alike") 2378, PySem.Value.str (PySem.Str.ofString "_law_alike") 2379,
      PySem.Value.str (PySem.Str.ofString "/claim/cut.py") 2380, PySem.Value.int 141 0, PySem.Value.int 1 0,
      PySem.Value.int 0 0, PySem.Value.int 0 0, PySem.Value.int 3 0, PySem.Value.ref 175, PySem.Value.bool Bool.true,
      PySem.Value.int 181 0, PySem.Value.ref 176, PySem.Value.none, PySem.Value.ref 177, PySem.Value.ref 178,
      PySem.Value.ref 179, PySem.Value.int 2385 0, PySem.Value.int 141 0,
      PySem.Value.str (PySem.Str.ofString "/claim/cut.py") 2386])
  #[]
noncomputable def o181 (P : Params) : Obj := { cls := PySem.Value.type "function", dict := none, data := .func (fnO 23 3 (PySem.Value.str (PySem.Str.ofString "law_xe0047_01") 2319) (PySem.Value.ref 180) 0), slots := #[] }
noncomputable def o182 (P : Params) : Obj := PySem.Obj.mk (PySem.Value.type "tuple") Option.none (PySem.Data.seq #[]) #[]
noncomputable def o183 (P : Params) : Obj := PySem.Obj.mk PySem.Value.none Option.none (PySem.Data.fields #[]) #[]
noncomputable def o184 (P : Params) : Obj := { cls := PySem.Value.none, dict := none, data := .func (fnO 24 0 (PySem.Value.none) (PySem.Value.none) 0), slots := #[] }
noncomputable def o185 (P : Params) : Obj := PySem.Obj.mk (PySem.Value.type "code") Option.none
  (PySem.Data.fields
    #[PySem.Value.str (PySem.Str.ofString "_law_arrangements") 2388,
      PySem.Value.str (PySem.Str.ofString "_law_arrangements") 2389,
      PySem.Value.str (PySem.Str.ofString "/claim/cut.py") 2390, PySem.Value.int 146 0, PySem.Value.int 1 0,
      PySem.Value.int 0 0, PySem.Value.int 0 0, PySem.Value.int 3 0, PySem.Value.ref 182, PySem.Value.bool Bool.true,
      PySem.Value.int 181 0, PySem.Value.ref 183, PySem.Value.none, PySem.Value.none, PySem.Value.none,
      PySem.Value.ref 184, PySem.Value.int 2391 0, PySem.Value.int 146 0,
      PySem.Value.str (PySem.Str.ofString "/claim/cut.py") 2392])
  #[]
noncomputable def o186 (P : Params) : Obj := { cls := PySem.Value.type "function", dict := none, data := .func (fnO 24 3 (PySem.Value.str (PySem.Str.ofString "law_xe0047_01") 2319) (PySem.Value.ref 185) 0), slots := #[] }
noncomputable def o187 (P : Params) : Obj := PySem.Obj.mk (PySem.Value.type "tuple") Option.none (PySem.Data.seq #[]) #[]
noncomputable def o188 (P : Params) : Obj := PySem.Obj.mk PySem.Value.none Option.none (PySem.Data.fields #[]) #[]
noncomputable def o189 (P : Params) : Obj := PySem.Obj.mk (PySem.Value.type "tuple") Option.none
  (PySem.Data.seq
    #[PySem.Value.str (PySem.Str.ofString "hits") 2397, PySem.Value.str (PySem.Str.ofString "entry") 2398,
      PySem.Value.str (PySem.Str.ofString "hit") 2399])
  #[]
noncomputable def o190 (P : Params) : Obj := PySem.Obj.mk (PySem.Value.type "tuple") Option.none (PySem.Data.seq #[]) #[]
noncomputable def o191 (P : Params) : Obj := { cls := PySem.Value.none, dict := none, data := .func (fnO 25 0 (PySem.Value.none) (PySem.Value.none) 0), slots := #[] }
noncomputable def o192 (P : Params) : Obj := PySem.Obj.mk (PySem.Value.type "code") Option.none
  (PySem.Data.fields
    #[PySem.Value.str (PySem.Str.ofString "_law_entry") 2394, PySem.Value.str (PySem.Str.ofString "_law_entry") 2395,
      PySem.Value.str (PySem.Str.ofString "/claim/cut.py") 2396, PySem.Value.int 152 0, PySem.Value.int 1 0,
      PySem.Value.int 0 0, PySem.Value.int 0 0, PySem.Value.int 3 0, PySem.Value.ref 187, PySem.Value.bool Bool.true,
      PySem.Value.int 181 0, PySem.Value.ref 188, PySem.Value.none, PySem.Value.ref 189, PySem.Value.ref 190,
      PySem.Value.ref 191, PySem.Value.int 2400 0, PySem.Value.int 152 0,
      PySem.Value.str (PySem.Str.ofString "/claim/cut.py") 2401])
  #[]
noncomputable def o193 (P : Params) : Obj := { cls := PySem.Value.type "function", dict := none, data := .func (fnO 25 3 (PySem.Value.str (PySem.Str.ofString "law_xe0047_01") 2319) (PySem.Value.ref 192) 0), slots := #[] }
noncomputable def o194 (P : Params) : Obj := PySem.Obj.mk (PySem.Value.type "tuple") Option.none (PySem.Data.seq #[]) #[]
noncomputable def o195 (P : Params) : Obj := PySem.Obj.mk PySem.Value.none Option.none (PySem.Data.fields #[]) #[]
noncomputable def o196 (P : Params) : Obj := { cls := PySem.Value.none, dict := none, data := .func (fnO 26 0 (PySem.Value.none) (PySem.Value.none) 0), slots := #[] }
noncomputable def o197 (P : Params) : Obj := PySem.Obj.mk (PySem.Value.type "code") Option.none
  (PySem.Data.fields
    #[PySem.Value.str (PySem.Str.ofString "law") 2403, PySem.Value.str (PySem.Str.ofString "law") 2404,
      PySem.Value.str (PySem.Str.ofString "/claim/cut.py") 2405, PySem.Value.int 157 0, PySem.Value.int 1 0,
      PySem.Value.int 0 0, PySem.Value.int 0 0, PySem.Value.int 3 0, PySem.Value.ref 194, PySem.Value.bool Bool.true,
      PySem.Value.int 181 0, PySem.Value.ref 195, PySem.Value.none, PySem.Value.none, PySem.Value.none,
      PySem.Value.ref 196, PySem.Value.int 2406 0, PySem.Value.int 157 0,
      PySem.Value.str (PySem.Str.ofString "/claim/cut.py") 2407])
  #[]
noncomputable def o198 (P : Params) : Obj := { cls := PySem.Value.type "function", dict := none, data := .func (fnO 26 3 (PySem.Value.str (PySem.Str.ofString "law_xe0047_01") 2319) (PySem.Value.ref 197) 0), slots := #[] }
noncomputable def o12_a (P : Params) : Obj := PySem.Obj.mk PySem.Value.none Option.none (PySem.Data.fields #[]) #[]
noncomputable def o12_b (P : Params) : Obj := PySem.Obj.mk PySem.Value.none Option.none (PySem.Data.fields #[]) #[]
noncomputable def o3_10 (P : Params) : Obj := PySem.Obj.mk (PySem.Value.type "dict") Option.none
  (PySem.Data.dict
    #[PySem.DictEntry.mk (PySem.PyData.keyHash P (PySem.Str.ofString "__name__"))
        (PySem.Value.str (PySem.Str.ofString "__name__") 165)
        (PySem.Value.str (PySem.Str.ofString "cpy313.stringprep") 284),
      PySem.DictEntry.mk (PySem.PyData.keyHash P (PySem.Str.ofString "__doc__"))
        (PySem.Value.str (PySem.Str.ofString "__doc__") 166) PySem.Value.none,
      PySem.DictEntry.mk (PySem.PyData.keyHash P (PySem.Str.ofString "__package__"))
        (PySem.Value.str (PySem.Str.ofString "__package__") 167) PySem.Value.none,
      PySem.DictEntry.mk (PySem.PyData.keyHash P (PySem.Str.ofString "__loader__"))
        (PySem.Value.str (PySem.Str.ofString "__loader__") 168) (PySem.Value.builtin "__main__.__loader__#opaque"),
      PySem.DictEntry.mk (PySem.PyData.keyHash P (PySem.Str.ofString "__spec__"))
        (PySem.Value.str (PySem.Str.ofString "__spec__") 169) PySem.Value.none,
      PySem.DictEntry.mk (PySem.PyData.keyHash P (PySem.Str.ofString "__annotations__"))
        (PySem.Value.str (PySem.Str.ofString "__annotations__") 170) (PySem.Value.ref 6),
      PySem.DictEntry.mk (PySem.PyData.keyHash P (PySem.Str.ofString "__builtins__"))
        (PySem.Value.str (PySem.Str.ofString "__builtins__") 171) (PySem.Value.ref 4),
      PySem.DictEntry.mk (PySem.PyData.keyHash P (PySem.Str.ofString "__file__"))
        (PySem.Value.str (PySem.Str.ofString "__file__") 173)
        (PySem.Value.str (PySem.Str.ofString "/claim/cut.py") 172),
      PySem.DictEntry.mk (PySem.PyData.keyHash P (PySem.Str.ofString "__cached__"))
        (PySem.Value.str (PySem.Str.ofString "__cached__") 174) PySem.Value.none,
      PySem.DictEntry.mk (PySem.PyData.keyHash P (PySem.Str.ofString "_DIV_LIMIT"))
        (PySem.Value.str (PySem.Str.ofString "_DIV_LIMIT") 190) (PySem.Value.int 4000 189),
      PySem.DictEntry.mk (PySem.PyData.keyHash P (PySem.Str.ofString "_div2n1n"))
        (PySem.Value.str (PySem.Str.ofString "_div2n1n") 207) (PySem.Value.ref 21),
      PySem.DictEntry.mk (PySem.PyData.keyHash P (PySem.Str.ofString "_div3n2n"))
        (PySem.Value.str (PySem.Str.ofString "_div3n2n") 221) (PySem.Value.ref 28),
      PySem.DictEntry.mk (PySem.PyData.keyHash P (PySem.Str.ofString "_int2digits"))
        (PySem.Value.str (PySem.Str.ofString "_int2digits") 232) (PySem.Value.ref 35),
      PySem.DictEntry.mk (PySem.PyData.keyHash P (PySem.Str.ofString "_digits2int"))
        (PySem.Value.str (PySem.Str.ofString "_digits2int") 243) (PySem.Value.ref 42),
      PySem.DictEntry.mk (PySem.PyData.keyHash P (PySem.Str.ofString "add_func_stats"))
        (PySem.Value.str (PySem.Str.ofString "add_func_stats") 263) (PySem.Value.ref 49),
      PySem.DictEntry.mk (PySem.PyData.keyHash P (PySem.Str.ofString "add_callers"))
        (PySem.Value.str (PySem.Str.ofString "add_callers") 274) (PySem.Value.ref 56),
      PySem.DictEntry.mk (PySem.PyData.keyHash P (PySem.Str.ofString "count_calls"))
        (PySem.Value.str (PySem.Str.ofString "count_calls") 283) (PySem.Value.ref 63)]
    17)
  #[]
noncomputable def o12_10 (P : Params) : Obj := PySem.Obj.mk PySem.Value.none Option.none
  (PySem.Data.fields
    #[PySem.Value.int 3 0, PySem.Value.int 0 0, PySem.Value.ref 20, PySem.Value.int 19 0, PySem.Value.int 0 0,
      PySem.Value.ref 27, PySem.Value.int 29 0, PySem.Value.int 0 0, PySem.Value.ref 34, PySem.Value.int 45 0,
      PySem.Value.int 0 0, PySem.Value.ref 41, PySem.Value.int 55 0, PySem.Value.int 0 0, PySem.Value.ref 48,
      PySem.Value.int 59 0, PySem.Value.int 0 0, PySem.Value.ref 55, PySem.Value.int 72 0, PySem.Value.int 0 0,
      PySem.Value.ref 62])
  #[]
noncomputable def o3_11 (P : Params) : Obj := PySem.Obj.mk (PySem.Value.type "dict") Option.none
  (PySem.Data.dict
    #[PySem.DictEntry.mk (PySem.PyData.keyHash P (PySem.Str.ofString "__name__"))
        (PySem.Value.str (PySem.Str.ofString "__name__") 165)
        (PySem.Value.str (PySem.Str.ofString "cpy313.stringprep") 284),
      PySem.DictEntry.mk (PySem.PyData.keyHash P (PySem.Str.ofString "__doc__"))
        (PySem.Value.str (PySem.Str.ofString "__doc__") 166) PySem.Value.none,
      PySem.DictEntry.mk (PySem.PyData.keyHash P (PySem.Str.ofString "__package__"))
        (PySem.Value.str (PySem.Str.ofString "__package__") 167) PySem.Value.none,
      PySem.DictEntry.mk (PySem.PyData.keyHash P (PySem.Str.ofString "__loader__"))
        (PySem.Value.str (PySem.Str.ofString "__loader__") 168) (PySem.Value.builtin "__main__.__loader__#opaque"),
      PySem.DictEntry.mk (PySem.PyData.keyHash P (PySem.Str.ofString "__spec__"))
        (PySem.Value.str (PySem.Str.ofString "__spec__") 169) PySem.Value.none,
      PySem.DictEntry.mk (PySem.PyData.keyHash P (PySem.Str.ofString "__annotations__"))
        (PySem.Value.str (PySem.Str.ofString "__annotations__") 170) (PySem.Value.ref 6),
      PySem.DictEntry.mk (PySem.PyData.keyHash P (PySem.Str.ofString "__builtins__"))
        (PySem.Value.str (PySem.Str.ofString "__builtins__") 171) (PySem.Value.ref 4),
      PySem.DictEntry.mk (PySem.PyData.keyHash P (PySem.Str.ofString "__file__"))
        (PySem.Value.str (PySem.Str.ofString "__file__") 173)
        (PySem.Value.str (PySem.Str.ofString "/claim/cut.py") 172),
      PySem.DictEntry.mk (PySem.PyData.keyHash P (PySem.Str.ofString "__cached__"))
        (PySem.Value.str (PySem.Str.ofString "__cached__") 174) PySem.Value.none,
      PySem.DictEntry.mk (PySem.PyData.keyHash P (PySem.Str.ofString "_DIV_LIMIT"))
        (PySem.Value.str (PySem.Str.ofString "_DIV_LIMIT") 190) (PySem.Value.int 4000 189),
      PySem.DictEntry.mk (PySem.PyData.keyHash P (PySem.Str.ofString "_div2n1n"))
        (PySem.Value.str (PySem.Str.ofString "_div2n1n") 207) (PySem.Value.ref 21),
      PySem.DictEntry.mk (PySem.PyData.keyHash P (PySem.Str.ofString "_div3n2n"))
        (PySem.Value.str (PySem.Str.ofString "_div3n2n") 221) (PySem.Value.ref 28),
      PySem.DictEntry.mk (PySem.PyData.keyHash P (PySem.Str.ofString "_int2digits"))
        (PySem.Value.str (PySem.Str.ofString "_int2digits") 232) (PySem.Value.ref 35),
      PySem.DictEntry.mk (PySem.PyData.keyHash P (PySem.Str.ofString "_digits2int"))
        (PySem.Value.str (PySem.Str.ofString "_digits2int") 243) (PySem.Value.ref 42),
      PySem.DictEntry.mk (PySem.PyData.keyHash P (PySem.Str.ofString "add_func_stats"))
        (PySem.Value.str (PySem.Str.ofString "add_func_stats") 263) (PySem.Value.ref 49),
      PySem.DictEntry.mk (PySem.PyData.keyHash P (PySem.Str.ofString "add_callers"))
        (PySem.Value.str (PySem.Str.ofString "add_callers") 274) (PySem.Value.ref 56),
      PySem.DictEntry.mk (PySem.PyData.keyHash P (PySem.Str.ofString "count_calls"))
        (PySem.Value.str (PySem.Str.ofString "count_calls") 283) (PySem.Value.ref 63),
      PySem.DictEntry.mk (PySem.PyData.keyHash P (PySem.Str.ofString "b1_set"))
        (PySem.Value.str (PySem.Str.ofString "b1_set") 345) (PySem.Value.ref 71)]
    18)
  #[]
noncomputable def o12_11 (P : Params) : Obj := PySem.Obj.mk PySem.Value.none Option.none
  (PySem.Data.fields
    #[PySem.Value.int 3 0, PySem.Value.int 0 0, PySem.Value.ref 20, PySem.Value.int 19 0, PySem.Value.int 0 0,
      PySem.Value.ref 27, PySem.Value.int 29 0, PySem.Value.int 0 0, PySem.Value.ref 34, PySem.Value.int 45 0,
      PySem.Value.int 0 0, PySem.Value.ref 41, PySem.Value.int 55 0, PySem.Value.int 0 0, PySem.Value.ref 48,
      PySem.Value.int 59 0, PySem.Value.int 0 0, PySem.Value.ref 55, PySem.Value.int 72 0, PySem.Value.int 0 0,
      PySem.Value.ref 62])
  #[]
noncomputable def o3_12 (P : Params) : Obj := PySem.Obj.mk (PySem.Value.type "dict") Option.none
  (PySem.Data.dict
    #[PySem.DictEntry.mk (PySem.PyData.keyHash P (PySem.Str.ofString "__name__"))
        (PySem.Value.str (PySem.Str.ofString "__name__") 165)
        (PySem.Value.str (PySem.Str.ofString "cpy313.stringprep") 284),
      PySem.DictEntry.mk (PySem.PyData.keyHash P (PySem.Str.ofString "__doc__"))
        (PySem.Value.str (PySem.Str.ofString "__doc__") 166) PySem.Value.none,
      PySem.DictEntry.mk (PySem.PyData.keyHash P (PySem.Str.ofString "__package__"))
        (PySem.Value.str (PySem.Str.ofString "__package__") 167) PySem.Value.none,
      PySem.DictEntry.mk (PySem.PyData.keyHash P (PySem.Str.ofString "__loader__"))
        (PySem.Value.str (PySem.Str.ofString "__loader__") 168) (PySem.Value.builtin "__main__.__loader__#opaque"),
      PySem.DictEntry.mk (PySem.PyData.keyHash P (PySem.Str.ofString "__spec__"))
        (PySem.Value.str (PySem.Str.ofString "__spec__") 169) PySem.Value.none,
      PySem.DictEntry.mk (PySem.PyData.keyHash P (PySem.Str.ofString "__annotations__"))
        (PySem.Value.str (PySem.Str.ofString "__annotations__") 170) (PySem.Value.ref 6),
      PySem.DictEntry.mk (PySem.PyData.keyHash P (PySem.Str.ofString "__builtins__"))
        (PySem.Value.str (PySem.Str.ofString "__builtins__") 171) (PySem.Value.ref 4),
      PySem.DictEntry.mk (PySem.PyData.keyHash P (PySem.Str.ofString "__file__"))
        (PySem.Value.str (PySem.Str.ofString "__file__") 173)
        (PySem.Value.str (PySem.Str.ofString "/claim/cut.py") 172),
      PySem.DictEntry.mk (PySem.PyData.keyHash P (PySem.Str.ofString "__cached__"))
        (PySem.Value.str (PySem.Str.ofString "__cached__") 174) PySem.Value.none,
      PySem.DictEntry.mk (PySem.PyData.keyHash P (PySem.Str.ofString "_DIV_LIMIT"))
        (PySem.Value.str (PySem.Str.ofString "_DIV_LIMIT") 190) (PySem.Value.int 4000 189),
      PySem.DictEntry.mk (PySem.PyData.keyHash P (PySem.Str.ofString "_div2n1n"))
        (PySem.Value.str (PySem.Str.ofString "_div2n1n") 207) (PySem.Value.ref 21),
      PySem.DictEntry.mk (PySem.PyData.keyHash P (PySem.Str.ofString "_div3n2n"))
        (PySem.Value.str (PySem.Str.ofString "_div3n2n") 221) (PySem.Value.ref 28),
      PySem.DictEntry.mk (PySem.PyData.keyHash P (PySem.Str.ofString "_int2digits"))
        (PySem.Value.str (PySem.Str.ofString "_int2digits") 232) (PySem.Value.ref 35),
      PySem.DictEntry.mk (PySem.PyData.keyHash P (PySem.Str.ofString "_digits2int"))
        (PySem.Value.str (PySem.Str.ofString "_digits2int") 243) (PySem.Value.ref 42),
      PySem.DictEntry.mk (PySem.PyData.keyHash P (PySem.Str.ofString "add_func_stats"))
        (PySem.Value.str (PySem.Str.ofString "add_func_stats") 263) (PySem.Value.ref 49),
      PySem.DictEntry.mk (PySem.PyData.keyHash P (PySem.Str.ofString "add_callers"))
        (PySem.Value.str (PySem.Str.ofString "add_callers") 274) (PySem.Value.ref 56),
      PySem.DictEntry.mk (PySem.PyData.keyHash P (PySem.Str.ofString "count_calls"))
        (PySem.Value.str (PySem.Str.ofString "count_calls") 283) (PySem.Value.ref 63),
      PySem.DictEntry.mk (PySem.PyData.keyHash P (PySem.Str.ofString "b1_set"))
        (PySem.Value.str (PySem.Str.ofString "b1_set") 345) (PySem.Value.ref 71),
      PySem.DictEntry.mk (PySem.PyData.keyHash P (PySem.Str.ofString "in_table_b1"))
        (PySem.Value.str (PySem.Str.ofString "in_table_b1") 352) (PySem.Value.ref 81)]
    19)
  #[]
noncomputable def o12_12 (P : Params) : Obj := PySem.Obj.mk PySem.Value.none Option.none
  (PySem.Data.fields
    #[PySem.Value.int 3 0, PySem.Value.int 0 0, PySem.Value.ref 20, PySem.Value.int 19 0, PySem.Value.int 0 0,
      PySem.Value.ref 27, PySem.Value.int 29 0, PySem.Value.int 0 0, PySem.Value.ref 34, PySem.Value.int 45 0,
      PySem.Value.int 0 0, PySem.Value.ref 41, PySem.Value.int 55 0, PySem.Value.int 0 0, PySem.Value.ref 48,
      PySem.Value.int 59 0, PySem.Value.int 0 0, PySem.Value.ref 55, PySem.Value.int 72 0, PySem.Value.int 0 0,
      PySem.Value.ref 62, PySem.Value.int 79 0, PySem.Value.int 0 0, PySem.Value.ref 80])
  #[]
noncomputable def o3_13 (P : Params) : Obj := PySem.Obj.mk (PySem.Value.type "dict") Option.none
  (PySem.Data.dict
    #[PySem.DictEntry.mk (PySem.PyData.keyHash P (PySem.Str.ofString "__name__"))
        (PySem.Value.str (PySem.Str.ofString "__name__") 165)
        (PySem.Value.str (PySem.Str.ofString "cpy313.stringprep") 284),
      PySem.DictEntry.mk (PySem.PyData.keyHash P (PySem.Str.ofString "__doc__"))
        (PySem.Value.str (PySem.Str.ofString "__doc__") 166) PySem.Value.none,
      PySem.DictEntry.mk (PySem.PyData.keyHash P (PySem.Str.ofString "__package__"))
        (PySem.Value.str (PySem.Str.ofString "__package__") 167) PySem.Value.none,
      PySem.DictEntry.mk (PySem.PyData.keyHash P (PySem.Str.ofString "__loader__"))
        (PySem.Value.str (PySem.Str.ofString "__loader__") 168) (PySem.Value.builtin "__main__.__loader__#opaque"),
      PySem.DictEntry.mk (PySem.PyData.keyHash P (PySem.Str.ofString "__spec__"))
        (PySem.Value.str (PySem.Str.ofString "__spec__") 169) PySem.Value.none,
      PySem.DictEntry.mk (PySem.PyData.keyHash P (PySem.Str.ofString "__annotations__"))
        (PySem.Value.str (PySem.Str.ofString "__annotations__") 170) (PySem.Value.ref 6),
      PySem.DictEntry.mk (PySem.PyData.keyHash P (PySem.Str.ofString "__builtins__"))
        (PySem.Value.str (PySem.Str.ofString "__builtins__") 171) (PySem.Value.ref 4),
      PySem.DictEntry.mk (PySem.PyData.keyHash P (PySem.Str.ofString "__file__"))
        (PySem.Value.str (PySem.Str.ofString "__file__") 173)
        (PySem.Value.str (PySem.Str.ofString "/claim/cut.py") 172),
      PySem.DictEntry.mk (PySem.PyData.keyHash P (PySem.Str.ofString "__cached__"))
        (PySem.Value.str (PySem.Str.ofString "__cached__") 174) PySem.Value.none,
      PySem.DictEntry.mk (PySem.PyData.keyHash P (PySem.Str.ofString "_DIV_LIMIT"))
        (PySem.Value.str (PySem.Str.ofString "_DIV_LIMIT") 190) (PySem.Value.int 4000 189),
      PySem.DictEntry.mk (PySem.PyData.keyHash P (PySem.Str.ofString "_div2n1n"))
        (PySem.Value.str (PySem.Str.ofString "_div2n1n") 207) (PySem.Value.ref 21),
      PySem.DictEntry.mk (PySem.PyData.keyHash P (PySem.Str.ofString "_div3n2n"))
        (PySem.Value.str (PySem.Str.ofString "_div3n2n") 221) (PySem.Value.ref 28),
      PySem.DictEntry.mk (PySem.PyData.keyHash P (PySem.Str.ofString "_int2digits"))
        (PySem.Value.str (PySem.Str.ofString "_int2digits") 232) (PySem.Value.ref 35),
      PySem.DictEntry.mk (PySem.PyData.keyHash P (PySem.Str.ofString "_digits2int"))
        (PySem.Value.str (PySem.Str.ofString "_digits2int") 243) (PySem.Value.ref 42),
      PySem.DictEntry.mk (PySem.PyData.keyHash P (PySem.Str.ofString "add_func_stats"))
        (PySem.Value.str (PySem.Str.ofString "add_func_stats") 263) (PySem.Value.ref 49),
      PySem.DictEntry.mk (PySem.PyData.keyHash P (PySem.Str.ofString "add_callers"))
        (PySem.Value.str (PySem.Str.ofString "add_callers") 274) (PySem.Value.ref 56),
      PySem.DictEntry.mk (PySem.PyData.keyHash P (PySem.Str.ofString "count_calls"))
        (PySem.Value.str (PySem.Str.ofString "count_calls") 283) (PySem.Value.ref 63),
      PySem.DictEntry.mk (PySem.PyData.keyHash P (PySem.Str.ofString "b1_set"))
        (PySem.Value.str (PySem.Str.ofString "b1_set") 345) (PySem.Value.ref 71),
      PySem.DictEntry.mk (PySem.PyData.keyHash P (PySem.Str.ofString "in_table_b1"))
        (PySem.Value.str (PySem.Str.ofString "in_table_b1") 352) (PySem.Value.ref 81),
      PySem.DictEntry.mk (PySem.PyData.keyHash P (PySem.Str.ofString "b3_exceptions"))
        (PySem.Value.str (PySem.Str.ofString "b3_exceptions") 2303) (PySem.Value.ref 82)]
    20)
  #[]
noncomputable def o12_13 (P : Params) : Obj := PySem.Obj.mk PySem.Value.none Option.none
  (PySem.Data.fields
    #[PySem.Value.int 3 0, PySem.Value.int 0 0, PySem.Value.ref 20, PySem.Value.int 19 0, PySem.Value.int 0 0,
      PySem.Value.ref 27, PySem.Value.int 29 0, PySem.Value.int 0 0, PySem.Value.ref 34, PySem.Value.int 45 0,
      PySem.Value.int 0 0, PySem.Value.ref 41, PySem.Value.int 55 0, PySem.Value.int 0 0, PySem.Value.ref 48,
      PySem.Value.int 59 0, PySem.Value.int 0 0, PySem.Value.ref 55, PySem.Value.int 72 0, PySem.Value.int 0 0,
      PySem.Value.ref 62, PySem.Value.int 79 0, PySem.Value.int 0 0, PySem.Value.ref 80])
  #[]
noncomputable def T_a (P : Params) : BT := (.node (boot_o_0 P) (.node (boot_o_1 P) (.node (boot_o_3 P) (.node (boot_o_7 P) .nil .nil) (.node (o11 P) .nil .nil)) (.node (boot_o_5 P) (.node (boot_o_9 P) .nil .nil) (.node (o13 P) .nil .nil))) (.node (boot_o_2 P) (.node (boot_o_4 P) (.node (boot_o_8 P) .nil .nil) (.node (o12_a P) .nil .nil)) (.node (boot_o_6 P) (.node (boot_o_10 P) .nil .nil) (.node (o14 P) .nil .nil))))
noncomputable def S_a (w : World) (os : OsState) : SharedT := ⟨T_a w.params, 15, lifeT, #[], ⟨0, 0, 0, 0⟩, 187, os⟩
noncomputable def T_b (P : Params) : BT := (.node (boot_o_0 P) (.node (boot_o_1 P) (.node (boot_o_3 P) (.node (boot_o_7 P) .nil .nil) (.node (o11 P) .nil .nil)) (.node (boot_o_5 P) (.node (boot_o_9 P) .nil .nil) (.node (o13 P) .nil .nil))) (.node (boot_o_2 P) (.node (boot_o_4 P) (.node (boot_o_8 P) .nil .nil) (.node (o12_b P) .nil .nil)) (.node (boot_o_6 P) (.node (boot_o_10 P) .nil .nil) (.node (o14 P) .nil .nil))))
noncomputable def S_b (w : World) (os : OsState) : SharedT := ⟨T_b w.params, 15, lifeT, #[], ⟨0, 0, 0, 0⟩, 187, os⟩
noncomputable def T_10 (P : Params) : BT := (.node (boot_o_0 P) (.node (boot_o_1 P) (.node (o3_10 P) (.node (boot_o_7 P) (.node (o15 P) (.node (o31 P) (.node (o63 P) .nil .nil) .nil) (.node (o47 P) .nil .nil)) (.node (o23 P) (.node (o39 P) .nil .nil) (.node (o55 P) .nil .nil))) (.node (o11 P) (.node (o19 P) (.node (o35 P) .nil .nil) (.node (o51 P) .nil .nil)) (.node (o27 P) (.node (o43 P) .nil .nil) (.node (o59 P) .nil .nil)))) (.node (boot_o_5 P) (.node (boot_o_9 P) (.node (o17 P) (.node (o33 P) .nil .nil) (.node (o49 P) .nil .nil)) (.node (o25 P) (.node (o41 P) .nil .nil) (.node (o57 P) .nil .nil))) (.node (o13 P) (.node (o21 P) (.node (o37 P) .nil .nil) (.node (o53 P) .nil .nil)) (.node (o29 P) (.node (o45 P) .nil .nil) (.node (o61 P) .nil .nil))))) (.node (boot_o_2 P) (.node (boot_o_4 P) (.node (boot_o_8 P) (.node (o16 P) (.node (o32 P) .nil .nil) (.node (o48 P) .nil .nil)) (.node (o24 P) (.node (o40 P) .nil .nil) (.node (o56 P) .nil .nil))) (.node (o12_10 P) (.node (o20 P) (.node (o36 P) .nil .nil) (.node (o52 P) .nil .nil)) (.node (o28 P) (.node (o44 P) .nil .nil) (.node (o60 P) .nil .nil)))) (.node (boot_o_6 P) (.node (boot_o_10 P) (.node (o18 P) (.node (o34 P) .nil .nil) (.node (o50 P) .nil .nil)) (.node (o26 P) (.node (o42 P) .nil .nil) (.node (o58 P) .nil .nil))) (.node (o14 P) (.node (o22 P) (.node (o38 P) .nil .nil) (.node (o54 P) .nil .nil)) (.node (o30 P) (.node (o46 P) .nil .nil) (.node (o62 P) .nil .nil))))))
noncomputable def S_10 (w : World) (os : OsState) : SharedT := ⟨T_10 w.params, 64, lifeT, #[], ⟨0, 0, 0, 0⟩, 286, os⟩
noncomputable def T_11 (P : Params) : BT := (.node (boot_o_0 P) (.node (boot_o_1 P) (.node (o3_11 P) (.node (boot_o_7 P) (.node (o15 P) (.node (o31 P) (.node (o63 P) .nil .nil) .nil) (.node (o47 P) .nil .nil)) (.node (o23 P) (.node (o39 P) (.node (o71 P) .nil .nil) .nil) (.node (o55 P) .nil .nil))) (.node (o11 P) (.node (o19 P) (.node (o35 P) (.node (o67 P) .nil .nil) .nil) (.node (o51 P) .nil .nil)) (.node (o27 P) (.node (o43 P) .nil .nil) (.node (o59 P) .nil .nil)))) (.node (boot_o_5 P) (.node (boot_o_9 P) (.node (o17 P) (.node (o33 P) (.node (o65 P) .nil .nil) .nil) (.node (o49 P) .nil .nil)) (.node (o25 P) (.node (o41 P) (.node (o73 P) .nil .nil) .nil) (.node (o57 P) .nil .nil))) (.node (o13 P) (.node (o21 P) (.node (o37 P) (.node (o69 P) .nil .nil) .nil) (.node (o53 P) .nil .nil)) (.node (o29 P) (.node (o45 P) .nil .nil) (.node (o61 P) .nil .nil))))) (.node (boot_o_2 P) (.node (boot_o_4 P) (.node (boot_o_8 P) (.node (o16 P) (.node (o32 P) (.node (o64 P) .nil .nil) .nil) (.node (o48 P) .nil .nil)) (.node (o24 P) (.node (o40 P) (.node (o72 P) .nil .nil) .nil) (.node (o56 P) .nil .nil))) (.node (o12_11 P) (.node (o20 P) (.node (o36 P) (.node (o68 P) .nil .nil) .nil) (.node (o52 P) .nil .nil)) (.node (o28 P) (.node (o44 P) .nil .nil) (.node (o60 P) .nil .nil)))) (.node (boot_o_6 P) (.node (boot_o_10 P) (.node (o18 P) (.node (o34 P) (.node (o66 P) .nil .nil) .nil) (.node (o50 P) .nil .nil)) (.node (o26 P) (.node (o42 P) (.node (o74 P) .nil .nil) .nil) (.node (o58 P) .nil .nil))) (.node (o14 P) (.node (o22 P) (.node (o38 P) (.node (o70 P) .nil .nil) .nil) (.node (o54 P) .nil .nil)) (.node (o30 P) (.node (o46 P) .nil .nil) (.node (o62 P) .nil .nil))))))
noncomputable def S_11 (w : World) (os : OsState) : SharedT := ⟨T_11 w.params, 75, lifeT, #[], ⟨0, 0, 0, 0⟩, 346, os⟩
noncomputable def T_12 (P : Params) : BT := (.node (boot_o_0 P) (.node (boot_o_1 P) (.node (o3_12 P) (.node (boot_o_7 P) (.node (o15 P) (.node (o31 P) (.node (o63 P) .nil .nil) .nil) (.node (o47 P) (.node (o79 P) .nil .nil) .nil)) (.node (o23 P) (.node (o39 P) (.node (o71 P) .nil .nil) .nil) (.node (o55 P) .nil .nil))) (.node (o11 P) (.node (o19 P) (.node (o35 P) (.node (o67 P) .nil .nil) .nil) (.node (o51 P) .nil .nil)) (.node (o27 P) (.node (o43 P) (.node (o75 P) .nil .nil) .nil) (.node (o59 P) .nil .nil)))) (.node (boot_o_5 P) (.node (boot_o_9 P) (.node (o17 P) (.node (o33 P) (.node (o65 P) .nil .nil) .nil) (.node (o49 P) (.node (o81 P) .nil .nil) .nil)) (.node (o25 P) (.node (o41 P) (.node (o73 P) .nil .nil) .nil) (.node (o57 P) .nil .nil))) (.node (o13 P) (.node (o21 P) (.node (o37 P) (.node (o69 P) .nil .nil) .nil) (.node (o53 P) .nil .nil)) (.node (o29 P) (.node (o45 P) (.node (o77 P) .nil .nil) .nil) (.node (o61 P) .nil .nil))))) (.node (boot_o_2 P) (.node (boot_o_4 P) (.node (boot_o_8 P) (.node (o16 P) (.node (o32 P) (.node (o64 P) .nil .nil) .nil) (.node (o48 P) (.node (o80 P) .nil .nil) .nil)) (.node (o24 P) (.node (o40 P) (.node (o72 P) .nil .nil) .nil) (.node (o56 P) .nil .nil))) (.node (o12_12 P) (.node (o20 P) (.node (o36 P) (.node (o68 P) .nil .nil) .nil) (.node (o52 P) .nil .nil)) (.node (o28 P) (.node (o44 P) (.node (o76 P) .nil .nil) .nil) (.node (o60 P) .nil .nil)))) (.node (boot_o_6 P) (.node (boot_o_10 P) (.node (o18 P) (.node (o34 P) (.node (o66 P) .nil .nil) .nil) (.node (o50 P) .nil .nil)) (.node (o26 P) (.node (o42 P) (.node (o74 P) .nil .nil) .nil) (.node (o58 P) .nil .nil))) (.node (o14 P) (.node (o22 P) (.node (o38 P) (.node (o70 P) .nil .nil) .nil) (.node (o54 P) .nil .nil)) (.node (o30 P) (.node (o46 P) (.node (o78 P) .nil .nil) .nil) (.node (o62 P) .nil .nil))))))
noncomputable def S_12 (w : World) (os : OsState) : SharedT := ⟨T_12 w.params, 82, lifeT, #[], ⟨0, 0, 0, 0⟩, 353, os⟩
noncomputable def T_13 (f : Nat → Obj) (P : Params) : BT := (.node (boot_o_0 P) (.node (boot_o_1 P) (.node (o3_13 P) (.node (boot_o_7 P) (.node (o15 P) (.node (o31 P) (.node (o63 P) .nil .nil) (.node (f 95) .nil .nil)) (.node (o47 P) (.node (o79 P) .nil .nil) (.node (f 111) .nil .nil))) (.node (o23 P) (.node (o39 P) (.node (o71 P) .nil .nil) (.node (f 103) .nil .nil)) (.node (o55 P) (.node (f 87) .nil .nil) (.node (f 119) .nil .nil)))) (.node (o11 P) (.node (o19 P) (.node (o35 P) (.node (o67 P) .nil .nil) (.node (f 99) .nil .nil)) (.node (o51 P) (.node (f 83) .nil .nil) (.node (f 115) .nil .nil))) (.node (o27 P) (.node (o43 P) (.node (o75 P) .nil .nil) (.node (f 107) .nil .nil)) (.node (o59 P) (.node (f 91) .nil .nil) .nil)))) (.node (boot_o_5 P) (.node (boot_o_9 P) (.node (o17 P) (.node (o33 P) (.node (o65 P) .nil .nil) (.node (f 97) .nil .nil)) (.node (o49 P) (.node (o81 P) .nil .nil) (.node (f 113) .nil .nil))) (.node (o25 P) (.node (o41 P) (.node (o73 P) .nil .nil) (.node (f 105) .nil .nil)) (.node (o57 P) (.node (f 89) .nil .nil) .nil))) (.node (o13 P) (.node (o21 P) (.node (o37 P) (.node (o69 P) .nil .nil) (.node (f 101) .nil .nil)) (.node (o53 P) (.node (f 85) .nil .nil) (.node (f 117) .nil .nil))) (.node (o29 P) (.node (o45 P) (.node (o77 P) .nil .nil) (.node (f 109) .nil .nil)) (.node (o61 P) (.node (f 93) .nil .nil) .nil))))) (.node (boot_o_2 P) (.node (boot_o_4 P) (.node (boot_o_8 P) (.node (o16 P) (.node (o32 P) (.node (o64 P) .nil .nil) (.node (f 96) .nil .nil)) (.node (o48 P) (.node (o80 P) .nil .nil) (.node (f 112) .nil .nil))) (.node (o24 P) (.node (o40 P) (.node (o72 P) .nil .nil) (.node (f 104) .nil .nil)) (.node (o56 P) (.node (f 88) .nil .nil) (.node (f 120) .nil .nil)))) (.node (o12_13 P) (.node (o20 P) (.node (o36 P) (.node (o68 P) .nil .nil) (.node (f 100) .nil .nil)) (.node (o52 P) (.node (f 84) .nil .nil) (.node (f 116) .nil .nil))) (.node (o28 P) (.node (o44 P) (.node (o76 P) .nil .nil) (.node (f 108) .nil .nil)) (.node (o60 P) (.node (f 92) .nil .nil) .nil)))) (.node (boot_o_6 P) (.node (boot_o_10 P) (.node (o18 P) (.node (o34 P) (.node (o66 P) .nil .nil) (.node (f 98) .nil .nil)) (.node (o50 P) (.node (f 82) .nil .nil) (.node (f 114) .nil .nil))) (.node (o26 P) (.node (o42 P) (.node (o74 P) .nil .nil) (.node (f 106) .nil .nil)) (.node (o58 P) (.node (f 90) .nil .nil) .nil))) (.node (o14 P) (.node (o22 P) (.node (o38 P) (.node (o70 P) .nil .nil) (.node (f 102) .nil .nil)) (.node (o54 P) (.node (f 86) .nil .nil) (.node (f 118) .nil .nil))) (.node (o30 P) (.node (o46 P) (.node (o78 P) .nil .nil) (.node (f 110) .nil .nil)) (.node (o62 P) (.node (f 94) .nil .nil) .nil))))))
noncomputable def S_13 (f : Nat → Obj) (w : World) (os : OsState) : SharedT := ⟨T_13 f w.params, 121, lifeT, #[], ⟨0, 0, 0, 0⟩, 2304, os⟩
noncomputable def T_26 (f : Nat → Obj) (P : Params) : BT := (.node (boot_o_0 P) (.node (boot_o_1 P) (.node (o3 P) (.node (boot_o_7 P) (.node (o15 P) (.node (o31 P) (.node (o63 P) (.node (o127 P) .nil .nil) (.node (o191 P) .nil .nil)) (.node (f 95) (.node (o159 P) .nil .nil) .nil)) (.node (o47 P) (.node (o79 P) (.node (o143 P) .nil .nil) .nil) (.node (f 111) (.node (o175 P) .nil .nil) .nil))) (.node (o23 P) (.node (o39 P) (.node (o71 P) (.node (o135 P) .nil .nil) .nil) (.node (f 103) (.node (o167 P) .nil .nil) .nil)) (.node (o55 P) (.node (f 87) (.node (o151 P) .nil .nil) .nil) (.node (f 119) (.node (o183 P) .nil .nil) .nil)))) (.node (o11 P) (.node (o19 P) (.node (o35 P) (.node (o67 P) (.node (o131 P) .nil .nil) (.node (o195 P) .nil .nil)) (.node (f 99) (.node (o163 P) .nil .nil) .nil)) (.node (o51 P) (.node (f 83) (.node (o147 P) .nil .nil) .nil) (.node (f 115) (.node (o179 P) .nil .nil) .nil))) (.node (o27 P) (.node (o43 P) (.node (o75 P) (.node (o139 P) .nil .nil) .nil) (.node (f 107) (.node (o171 P) .nil .nil) .nil)) (.node (o59 P) (.node (f 91) (.node (o155 P) .nil .nil) .nil) (.node (o123 P) (.node (o187 P) .nil .nil) .nil))))) (.node (boot_o_5 P) (.node (boot_o_9 P) (.node (o17 P) (.node (o33 P) (.node (o65 P) (.node (o129 P) .nil .nil) (.node (o193 P) .nil .nil)) (.node (f 97) (.node (o161 P) .nil .nil) .nil)) (.node (o49 P) (.node (o81 P) (.node (o145 P) .nil .nil) .nil) (.node (f 113) (.node (o177 P) .nil .nil) .nil))) (.node (o25 P) (.node (o41 P) (.node (o73 P) (.node (o137 P) .nil .nil) .nil) (.node (f 105) (.node (o169 P) .nil .nil) .nil)) (.node (o57 P) (.node (f 89) (.node (o153 P) .nil .nil) .nil) (.node (o121 P) (.node (o185 P) .nil .nil) .nil)))) (.node (o13 P) (.node (o21 P) (.node (o37 P) (.node (o69 P) (.node (o133 P) .nil .nil) (.node (o197 P) .nil .nil)) (.node (f 101) (.node (o165 P) .nil .nil) .nil)) (.node (o53 P) (.node (f 85) (.node (o149 P) .nil .nil) .nil) (.node (f 117) (.node (o181 P) .nil .nil) .nil))) (.node (o29 P) (.node (o45 P) (.node (o77 P) (.node (o141 P) .nil .nil) .nil) (.node (f 109) (.node (o173 P) .nil .nil) .nil)) (.node (o61 P) (.node (f 93) (.node (o157 P) .nil .nil) .nil) (.node (o125 P) (.node (o189 P) .nil .nil) .nil)))))) (.node (boot_o_2 P) (.node (boot_o_4 P) (.node (boot_o_8 P) (.node (o16 P) (.node (o32 P) (.node (o64 P) (.node (o128 P) .nil .nil) (.node (o192 P) .nil .nil)) (.node (f 96) (.node (o160 P) .nil .nil) .nil)) (.node (o48 P) (.node (o80 P) (.node (o144 P) .nil .nil) .nil) (.node (f 112) (.node (o176 P) .nil .nil) .nil))) (.node (o24 P) (.node (o40 P) (.node (o72 P) (.node (o136 P) .nil .nil) .nil) (.node (f 104) (.node (o168 P) .nil .nil) .nil)) (.node (o56 P) (.node (f 88) (.node (o152 P) .nil .nil) .nil) (.node (f 120) (.node (o184 P) .nil .nil) .nil)))) (.node (o12 P) (.node (o20 P) (.node (o36 P) (.node (o68 P) (.node (o132 P) .nil .nil) (.node (o196 P) .nil .nil)) (.node (f 100) (.node (o164 P) .nil .nil) .nil)) (.node (o52 P) (.node (f 84) (.node (o148 P) .nil .nil) .nil) (.node (f 116) (.node (o180 P) .nil .nil) .nil))) (.node (o28 P) (.node (o44 P) (.node (o76 P) (.node (o140 P) .nil .nil) .nil) (.node (f 108) (.node (o172 P) .nil .nil) .nil)) (.node (o60 P) (.node (f 92) (.node (o156 P) .nil .nil) .nil) (.node (o124 P) (.node (o188 P) .nil .nil) .nil))))) (.node (boot_o_6 P) (.node (boot_o_10 P) (.node (o18 P) (.node (o34 P) (.node (o66 P) (.node (o130 P) .nil .nil) (.node (o194 P) .nil .nil)) (.node (f 98) (.node (o162 P) .nil .nil) .nil)) (.node (o50 P) (.node (f 82) (.node (o146 P) .nil .nil) .nil) (.node (f 114) (.node (o178 P) .nil .nil) .nil))) (.node (o26 P) (.node (o42 P) (.node (o74 P) (.node (o138 P) .nil .nil) .nil) (.node (f 106) (.node (o170 P) .nil .nil) .nil)) (.node (o58 P) (.node (f 90) (.node (o154 P) .nil .nil) .nil) (.node (o122 P) (.node (o186 P) .nil .nil) .nil)))) (.node (o14 P) (.node (o22 P) (.node (o38 P) (.node (o70 P) (.node (o134 P) .nil .nil) (.node (o198 P) .nil .nil)) (.node (f 102) (.node (o166 P) .nil .nil) .nil)) (.node (o54 P) (.node (f 86) (.node (o150 P) .nil .nil) .nil) (.node (f 118) (.node (o182 P) .nil .nil) .nil))) (.node (o30 P) (.node (o46 P) (.node (o78 P) (.node (o142 P) .nil .nil) .nil) (.node (f 110) (.node (o174 P) .nil .nil) .nil)) (.node (o62 P) (.node (f 94) (.node (o158 P) .nil .nil) .nil) (.node (o126 P) (.node (o190 P) .nil .nil) .nil)))))))
noncomputable def S_26 (f : Nat → Obj) (w : World) (os : OsState) : SharedT := ⟨T_26 f w.params, 199, lifeT, #[], ⟨0, 0, 0, 0⟩, 2409, os⟩

noncomputable def annE : Option Value := some (.ref 6)
noncomputable def q0 : Pos := ⟨0, 0, 0, 0⟩
noncomputable def bE : List Stmt := behindTheImports pw
noncomputable def envE : Env := { scope := pw.main.scope, locals := mainNs, globals := mainNs, cells := [], code := .ref 13, frame := some 14 }
noncomputable def cE : Code := .body bE envE
noncomputable def stsA : List Stmt := [stm 0, stm 1, stm 2, stm 3, stm 4, stm 5, stm 6, stm 7, stm 8, stm 9, stm 10]
noncomputable def stsB : List Stmt := [stm 14, stm 15, stm 16, stm 17, stm 18, stm 19, stm 20, stm 21, stm 22, stm 23, stm 24, stm 25, stm 26]
end Mine
end
end
section
local macro_rules | `(tactic| omega) => `(tactic| lia)
section
open PySem PySem.W PyProof.Rows PySem.Calls PySem.Spec
set_option Elab.async false
set_option maxRecDepth 100000
namespace Mine
section
variable {w : World} {α β : Type}

noncomputable def G (w : World) (n : Nat) (s : Shared) (t : Thread) : Option (Shared × Thread) := segGo treeTable pw w 11 annE 1 n s t

theorem G_add : ∀ {n m : Nat} {s s' : Shared} {t t' : Thread} {r : Option (Shared × Thread)}, G w n s t = some (s', t') → G w m s' t' = r → G w (n + m) s t = r
  | 0, m, s, s', t, t', r, h, k => by
    obtain ⟨rfl, rfl⟩ : s = s' ∧ t = t' := by simpa [G, segGo] using h
    rw [Nat.zero_add]; exact k
  | n + 1, m, s, s', t, t', r, h, k => by
    rw [show n + 1 + m = n + m + 1 by omega]
    unfold G segGo at h ⊢
    cases he : endAt 1 t with
    | some f => rw [he] at h; cases h
    | none =>
      rw [he] at h
      cases hk : stepOk 11 annE t with
      | false => rw [hk] at h; cases h
      | true =>
        rw [hk] at h
        cases hs : step (denote treeTable) pw w s t with
        | halt o s₂ => rw [hs] at h; cases h
        | go s₂ t₂ => rw [hs] at h; exact G_add h k

noncomputable def StV (w : World) (n : Nat) (s : Shared) (t : Sem α) (s' : Shared) (a : α) : Prop :=
  ∀ (K : α → Sem Fin) (H : Value → Sem Fin) (gd : Bool → Bool) (lv : List Value → List Value) (c : Code) (p : Pos) (F : Frame) (st : List Frame), ∃ p', G w n s ⟨t.wrap K H gd lv, c, p, F :: st⟩ = some (s', ⟨K a, c, p', F :: st⟩)

theorem StV.pure {s : Shared} {a : α} : StV w 0 s (Sem.pure a) s a := fun K H gd lv c p F st => ⟨p, rfl⟩
theorem StV.wrap {n m : Nat} {s s₁ s₂ : Shared} {t : Sem α} {K : α → Sem β} {H : Value → Sem β} {gd : Bool → Bool} {lv : List Value → List Value} {a : α} {b : β} (h : StV w n s t s₁ a) (k : StV w m s₁ (K a) s₂ b) : StV w (n + m) s (t.wrap K H gd lv) s₂ b := fun K' H' gd' lv' c p F st => by
  rw [Sem.wrap_wrap]
  obtain ⟨p₁, h₁⟩ := h (fun a => (K a).wrap K' H' gd' lv') (fun e => (H e).wrap K' H' gd' lv') (fun b => gd' (gd b)) (fun l => lv' (lv l)) c p F st
  obtain ⟨p₂, h₂⟩ := k K' H' gd' lv' c p₁ F st
  exact ⟨p₂, G_add h₁ h₂⟩
theorem StV.bind {n m : Nat} {s s₁ s₂ : Shared} {t : Sem α} {f : α → Sem β} {a : α} {b : β} (h : StV w n s t s₁ a) (k : StV w m s₁ (f a) s₂ b) : StV w (n + m) s (t.bind f) s₂ b := by
  rw [Sem.bind_eq_wrap]; exact h.wrap k
theorem StV.keep {n : Nat} {s s' : Shared} {t : Sem α} {a : α} (vs : List Value) (h : StV w n s t s' a) : StV w n s (t.keep vs) s' a := by
  rw [Sem.keep_eq_wrap]; exact StV.wrap (m := 0) h StV.pure
theorem StV.onRaise {n : Nat} {s s' : Shared} {t : Sem α} {a : α} {f : Value → Sem Unit} (h : StV w n s t s' a) : StV w n s (t.onRaise f) s' a := by
  rw [Sem.onRaise_eq_wrap]; exact StV.wrap (m := 0) h StV.pure
theorem StV.holding {n : Nat} {s s' : Shared} {t : Sem α} {a : α} (vs : List Value) (h : StV w n s t s' a) : StV w n s (holding vs t) s' a := by
  rw [holding_eq_keep]; exact h.keep _

theorem StV.load {s : Shared} {a : Addr} {p : Option Value} {o : Obj} (h : s.heap.get? a = some o) : StV w 1 s (Sem.load a p Sem.pure) s o := fun K H gd lv c q F st => by
  refine ⟨q, ?_⟩
  (show segGo treeTable pw w 11 annE 1 1 s ⟨Sem.load a p _, c, q, F :: st⟩ = _; unfold segGo endAt; cases ((F :: st).length == 1) <;> (simp only [stepOk, Thread.calm, Thread.atCollectorCode, Thread.yieldsInsideHandler, step, h]; rfl))

noncomputable def sh (l : List Obj) (tk : Nat) (os : OsState) : Shared := ⟨⟨l.toArray, lifeT⟩, #[], ⟨0, 0, 0, 0⟩, tk, os⟩
variable {l : List Obj} {tk : Nat} {os : OsState}
theorem sh_get {i : Addr} {o : Obj} (h : l[i]? = some o) (hf : o.isFreed = false) : (sh l tk os).heap.get? i = some o := by
  have e : (sh l tk os).heap.objs[i]? = some o := by show l.toArray[i]? = _; rw [List.getElem?_toArray]; exact h
  obtain ⟨c, d, dt, sl⟩ := o
  unfold Heap.get?
  rw [e]
  cases dt <;> first | rfl | cases hf
theorem StV.loadL {i : Addr} {p : Option Value} {o : Obj} (h : l[i]? = some o) (hf : o.isFreed = false) : StV w 1 (sh l tk os) (Sem.load i p Sem.pure) (sh l tk os) o := .load (sh_get h hf)
theorem StV.alloc {o : Obj} : StV w 1 (sh l tk os) (Sem.alloc o Sem.pure) (sh (l ++ [o]) tk os) l.length := fun K H gd lv c q F st => by
  refine ⟨q, ?_⟩
  have e : Heap.push ⟨l.toArray, lifeT⟩ o = ⟨(l ++ [o]).toArray, lifeT⟩ := by show Heap.mk (l.toArray.push o) lifeT = _; rw [List.push_toArray]
  (show segGo treeTable pw w 11 annE 1 1 _ ⟨Sem.alloc o _, c, q, F :: st⟩ = _; unfold segGo endAt; cases ((F :: st).length == 1) <;> (simp only [stepOk, Thread.calm, Thread.atCollectorCode, Thread.yieldsInsideHandler, step, sh, e, List.size_toArray]; rfl))
theorem StV.update {i : Addr} {p : Option Value} {o : Obj} {f : Obj → Obj} (h : l[i]? = some o) (hf : o.isFreed = false) (hi : 11 ≤ i) : StV w 1 (sh l tk os) (Sem.update i p f Sem.pure) (sh (l.set i (f o)) tk os) () := fun K H gd lv c q F st => by
  refine ⟨q, ?_⟩
  have e : Heap.update ⟨l.toArray, lifeT⟩ i f = ⟨(l.set i (f o)).toArray, lifeT⟩ := by
    show Heap.mk (l.toArray.modify i f) lifeT = _
    congr 1
    apply Array.ext_getElem?
    intro j
    rw [Array.getElem?_modify, List.getElem?_toArray, List.getElem?_toArray, List.getElem?_set]
    by_cases hj : i = j
    · subst hj; rw [h]; simp [(List.getElem?_eq_some_iff.mp h).1]
    · simp [hj]
  have g : (Heap.get? ⟨l.toArray, lifeT⟩ i).isSome = true := by rw [show Heap.get? ⟨l.toArray, lifeT⟩ i = some o from sh_get (tk := tk) (os := os) h hf]; rfl
  have b : Nat.ble 11 i = true := Nat.ble_eq_true_of_le hi
  (show segGo treeTable pw w 11 annE 1 1 _ ⟨Sem.update i p f _, c, q, F :: st⟩ = _; unfold segGo endAt; cases ((F :: st).length == 1) <;> (simp only [stepOk, Thread.calm, Thread.atCollectorCode, Thread.yieldsInsideHandler, step, sh, g, b, e, if_true]; rfl))
theorem StV.fresh : StV w 1 (sh l tk os) (Sem.fresh Sem.pure) (sh l (tk + 1) os) tk := fun K H gd lv c q F st => by
  refine ⟨q, ?_⟩
  (show segGo treeTable pw w 11 annE 1 1 _ ⟨Sem.fresh _, c, q, F :: st⟩ = _; unfold segGo endAt; cases ((F :: st).length == 1) <;> rfl)
theorem StV.rule {tag : String} {s : Shared} : StV w 1 s (Sem.rule tag Sem.pure) s () := fun K H gd lv c q F st => by
  refine ⟨q, ?_⟩
  (show segGo treeTable pw w 11 annE 1 1 _ ⟨Sem.rule tag _, c, q, F :: st⟩ = _; unfold segGo endAt; cases ((F :: st).length == 1) <;> rfl)
theorem StV.at {p : Pos} {s : Shared} : StV w 1 s (Sem.at p Sem.pure) s () := fun K H gd lv c q F st => by
  refine ⟨p, ?_⟩
  (show segGo treeTable pw w 11 annE 1 1 _ ⟨Sem.at p _, c, q, F :: st⟩ = _; unfold segGo endAt; cases ((F :: st).length == 1) <;> rfl)
theorem StV.cast {n n' : Nat} {s s' : Shared} {t : Sem α} {a : α} (h : StV w n s t s' a) (e : n = n') : StV w n' s t s' a := e ▸ h

-- dict operations
noncomputable abbrev dO (es : List DictEntry) (n : Nat) : Obj := { cls := .type "dict", data := .dict es.toArray n }
theorem StV.dictEntries {d : Addr} {es : List DictEntry} {n : Nat} {p : Option Value} (h : l[d]? = some (dO es n)) : StV w 1 (sh l tk os) (PySem.dictEntries d p) (sh l tk os) es.toArray :=
  StV.bind (n := 1) (m := 0) (StV.loadL h rfl) StV.pure
theorem StV.dictEpoch {d : Addr} {es : List DictEntry} {n : Nat} {p : Option Value} (h : l[d]? = some (dO es n)) : StV w 1 (sh l tk os) (PySem.dictEpoch d p) (sh l tk os) n :=
  StV.bind (n := 1) (m := 0) (StV.loadL h rfl) StV.pure
theorem StV.putKeys {d : Addr} {es : List DictEntry} {n : Nat} {p : Option Value} {e : DictEntry} (h : l[d]? = some (dO es n)) (hd : 11 ≤ d) (hz : es.length ≤ 1000) :
    StV w 3 (sh l tk os) (updateDictKeys d (·.push e) p) (sh (l.set d (dO (es ++ [e]) (n + 1))) tk os) () := by
  refine StV.bind (n := 1) (m := 2) (StV.loadL h rfl) ?_
  refine StV.bind (n := 1) (m := 1) (StV.update h rfl hd) ?_
  have e1 : Obj.mapDictKeys (·.push e) (dO es n) = dO (es ++ [e]) (n + 1) := by show Obj.mk _ _ (Data.dict (es.toArray.push e) (n + 1)) _ = _; rw [List.push_toArray]
  rw [e1]
  have g : (l.set d (dO (es ++ [e]) (n + 1)))[d]? = some (dO (es ++ [e]) (n + 1)) := by rw [List.getElem?_set]; simp [(List.getElem?_eq_some_iff.mp h).1]
  refine StV.bind (n := 1) (m := 0) (StV.loadL g rfl) ?_
  have hb : (Data.dict (es ++ [e]).toArray (n + 1)).pastItsLine = none := by
    show (if _ then _ else _) = none
    rw [if_neg]
    rw [List.size_toArray, List.length_append, sizeLine_eq]; simp; omega
  rw [show (dO (es ++ [e]) (n + 1)).data.pastItsLine = none from hb]
  exact StV.pure
theorem StV.find_none {d : Addr} {es : List DictEntry} {n : Nat} {k h : Int} {t : Tok} (g : l[d]? = some (dO es n)) (hp : placesWithHash es.toArray.size (fun i => es.toArray[i]?.map (·.hash)) h = []) :
    StV w 1 (sh l tk os) (dictFind d (.int k t) h) (sh l tk os) none := by
  unfold dictFind
  refine StV.holding _ ?_
  refine StV.bind (n := 1) (m := 0) (StV.dictEntries g) ?_
  dsimp only
  rw [hp]
  exact StV.pure
theorem places_none {es : List DictEntry} {h : Int} (k : ∀ e ∈ es, e.hash ≠ h) : placesWithHash es.toArray.size (fun i => es.toArray[i]?.map (·.hash)) h = [] := by
  unfold placesWithHash
  rw [List.filter_eq_nil_iff]
  intro i hi
  have e0 : es.toArray[i]? = es[i]? := by rw [List.getElem?_toArray]
  show ¬((es.toArray[i]?.map (·.hash)) == some h) = true
  rw [e0]
  cases q : es[i]? with
  | none => simp
  | some e =>
    have := k e (List.mem_of_getElem? q)
    simpa using this
end
end Mine
end
section
open PySem PySem.W PyProof.Rows PySem.Calls PySem.Spec
set_option Elab.async false
set_option maxRecDepth 100000
namespace Mine
section
variable {w : World} {l : List Obj} {tk : Nat} {os : OsState}
theorem hash_run (b : Bool) (k : Int) (t : Tok) (l : List Obj) (tk : Nat) (os : OsState) (K : Int → Sem Fin) (H : Value → Sem Fin) (gd : Bool → Bool) (lv : List Value → List Value) (c : Code) (p : Pos) (F : Frame) (st : List Frame) :
    G (w.withFollow "special-get-raises" b) 5 (sh l tk os) ⟨(pyHash (.int k t)).wrap K H gd lv, c, p, F :: st⟩ = some (sh l (tk + 1) os, ⟨(pyHashByItsType.reduced (rawHash k)).wrap K H gd lv, c, p, F :: st⟩) := by
  cases st <;> cases b <;> kernel_rfl
theorem StV.hash {k : Int} {t : Tok} (h0 : 0 ≤ k) (h1 : k < 2 ^ 61 - 1) : StV w 5 (sh l tk os) (pyHash (.int k t)) (sh l (tk + 1) os) k := fun K H gd lv c p F st => by
  have e : pyHashByItsType.reduced (rawHash k) = Sem.pure k := by
    have hr : rawHash k = k := by
      unfold rawHash
      have e1 : ((k.natAbs : Int) % ((2 ^ 61 - 1 : Nat) : Int)) = k := by
        rw [Int.emod_eq_of_lt] <;> omega
      simp only [e1]
      rw [if_neg (show ¬ k < 0 by omega), if_neg (by simp; omega)]
    rw [hr]
    unfold pyHashByItsType.reduced
    rw [if_pos (by simp; omega)]
    show Sem.pure (if (k == -1) = true then -2 else k) = _
    rw [if_neg (by simp; omega)]
  have h := hash_run (w := w) (w.params.followText "special-get-raises") k t l tk os K H gd lv c p F st
  rw [World.withFollow_self] at h
  exact ⟨p, by rw [h, e]; rfl⟩
theorem StV.mkInt {k : Int} : StV w 1 (sh l tk os) (PySem.mkInt k) (sh l (tk + 1) os) (.int k tk) := StV.bind (n := 1) (m := 0) StV.fresh StV.pure
theorem StV.mkText {v : Str} : StV w 1 (sh l tk os) (PySem.mkText v) (sh l (tk + 1) os) (.str v tk) := StV.bind (n := 1) (m := 0) StV.fresh StV.pure
noncomputable def vT (v : Str) (pos : Pos) : Sem Value := do let x ← PySem.mkText v; standAt pos; pure x
theorem StV.valT {v : Str} {pos : Pos} : StV w 2 (sh l tk os) (Mine.vT v pos) (sh l (tk + 1) os) (.str v tk) := StV.bind (n := 1) (m := 1) StV.mkText (StV.bind (n := 1) (m := 0) StV.at StV.pure)
/-- a new key into a dict of the list -/
theorem StV.setNew {d : Addr} {es : List DictEntry} {n : Nat} {k : Int} {t : Tok} {v : Value} (g : l[d]? = some (dO es n)) (hd : 11 ≤ d) (hz : es.length ≤ 1000) (h0 : 0 ≤ k) (h1 : k < 2 ^ 61 - 1) (hk : ∀ e ∈ es, e.hash ≠ k) :
    StV w 5 (sh l tk os) (dictSetHashed d (.int k t) k v) (sh (l.set d (dO (es ++ [⟨k, .int k t, v⟩]) (n + 1))) tk os) () := by
  unfold dictSetHashed
  refine StV.holding _ ?_
  refine StV.bind (n := 1) (m := 4) (StV.find_none g (places_none hk)) ?_
  dsimp only
  exact StV.bind (n := 1) (m := 3) StV.rule (StV.putKeys g hd hz)
theorem StV.dictSet {d : Addr} {es : List DictEntry} {n : Nat} {k : Int} {t : Tok} {v : Value} (g : l[d]? = some (dO es n)) (hd : 11 ≤ d) (hz : es.length ≤ 1000) (h0 : 0 ≤ k) (h1 : k < 2 ^ 61 - 1) (hk : ∀ e ∈ es, e.hash ≠ k) :
    StV w 10 (sh l tk os) (PySem.dictSet d (.int k t) v) (sh (l.set d (dO (es ++ [⟨k, .int k t, v⟩]) (n + 1))) (tk + 1) os) () := by
  unfold PySem.dictSet
  refine StV.holding _ ?_
  exact StV.bind (n := 5) (m := 5) (StV.hash h0 h1) (StV.setNew g hd hz h0 h1 hk)
/-- the entries that a run of pairs lays one by one -/
noncomputable def lay3 : Nat → List (Int × Str) → List DictEntry
  | _, [] => []
  | tk, (k, v) :: r => ⟨k, .int k tk, .str v (tk + 1)⟩ :: lay3 (tk + 3) r
noncomputable def fillT (d : Addr) (ps : List (Sem Value × Sem Value)) : Sem PUnit := forIn ps PUnit.unit fun x _ => do
  let kv ← x.1
  let vv ← holding [kv] x.2
  holding [kv, vv] (PySem.dictSet d kv vv)
  pure (ForInStep.yield PUnit.unit)
noncomputable def prs (pos : Pos) (es : List (Int × Str)) : List (Sem Value × Sem Value) := es.map fun e => (PySem.mkInt e.1, vT e.2 pos)
/-- rising keys, from a bound on -/
noncomputable def Rise : Int → List (Int × Str) → Prop
  | _, [] => True
  | b, (k, _) :: r => b < k ∧ k < 2 ^ 61 - 1 ∧ Rise k r
theorem set_self {l : List Obj} {d : Nat} {o : Obj} (g : l[d]? = some o) : l.set d o = l := by
  apply List.ext_getElem?
  intro j
  rw [List.getElem?_set]
  by_cases h : d = j
  · subst h; rw [g]; simp [(List.getElem?_eq_some_iff.mp g).1]
  · simp [h]
theorem get_set {l : List Obj} {d : Nat} {o o' : Obj} (g : l[d]? = some o) : (l.set d o')[d]? = some o' := by rw [List.getElem?_set]; simp [(List.getElem?_eq_some_iff.mp g).1]
theorem StV.fill {d : Addr} {pos : Pos} : ∀ (es : List (Int × Str)) (l : List Obj) (tk : Nat) (as : List DictEntry) (n : Nat) (b : Int), l[d]? = some (dO as n) → 11 ≤ d → as.length + es.length ≤ 1000 → -1 ≤ b → Rise b es → (∀ e ∈ as, e.hash ≤ b) →
    StV w (13 * es.length) (sh l tk os) (fillT d (prs pos es)) (sh (l.set d (dO (as ++ lay3 tk es) (n + es.length))) (tk + 3 * es.length) os) PUnit.unit
  | [], l, tk, as, n, b, g, _, _, _, _, _ => by
    have e : l.set d (dO (as ++ lay3 tk []) (n + 0)) = l := by
      rw [lay3, List.append_nil]; exact set_self g
    show StV w 0 (sh l tk os) (Sem.pure PUnit.unit) (sh (l.set d (dO (as ++ lay3 tk []) (n + 0))) tk os) PUnit.unit
    rw [e]
    exact StV.pure
  | (k, v) :: r, l, tk, as, n, b, g, hd, hz, hb, hr, ha => by
    obtain ⟨hbk, hk1, hr⟩ := hr
    rw [List.length_cons] at hz
    have ih := StV.fill (d := d) (pos := pos) r (l.set d (dO (as ++ [⟨k, .int k tk, .str v (tk + 1)⟩]) (n + 1))) (tk + 3) (as ++ [⟨k, .int k tk, .str v (tk + 1)⟩]) (n + 1) k (get_set g) hd
      (by rw [List.length_append]; simp; omega) (by omega) hr (fun e he => by
        rcases List.mem_append.mp he with he | he
        · have := ha e he; omega
        · rw [List.mem_singleton.mp he]; exact Int.le_refl _)
    have e1 : (l.set d (dO (as ++ [⟨k, .int k tk, .str v (tk + 1)⟩]) (n + 1))).set d (dO ((as ++ [⟨k, .int k tk, .str v (tk + 1)⟩]) ++ lay3 (tk + 3) r) (n + 1 + r.length)) = l.set d (dO (as ++ lay3 tk ((k, v) :: r)) (n + ((k, v) :: r).length)) := by
      rw [List.set_set, List.append_assoc, List.length_cons, show n + 1 + r.length = n + (r.length + 1) by omega]; rfl
    rw [e1, show tk + 3 + 3 * r.length = tk + 3 * ((k, v) :: r).length by rw [List.length_cons]; omega] at ih
    have step : StV w 13 (sh l tk os) (do
        let kv ← PySem.mkInt k
        let vv ← PySem.holding [kv] (Mine.vT v pos)
        PySem.holding [kv, vv] (PySem.dictSet d kv vv)
        Pure.pure (ForInStep.yield PUnit.unit) : Sem (ForInStep PUnit)) (sh (l.set d (dO (as ++ [⟨k, .int k tk, .str v (tk + 1)⟩]) (n + 1))) (tk + 3) os) (ForInStep.yield PUnit.unit) := by
      refine StV.bind (n := 1) (m := 12) StV.mkInt ?_
      refine StV.bind (n := 2) (m := 10) (StV.holding _ StV.valT) ?_
      refine StV.bind (n := 10) (m := 0) (StV.holding _ (StV.dictSet g hd (by omega) (by omega) hk1 (fun e he => by have := ha e he; omega))) ?_
      exact StV.pure
    have h := StV.bind (f := fun x : ForInStep PUnit => match x with | .done b => Sem.pure b | .yield b => fillT d (prs pos r)) step ih
    refine (StV.cast (n := 13 + 13 * r.length) ?_ (by rw [List.length_cons]; omega))
    have e2 : fillT d (prs pos ((k, v) :: r)) = Sem.bind (do
        let kv ← PySem.mkInt k
        let vv ← PySem.holding [kv] (Mine.vT v pos)
        PySem.holding [kv, vv] (PySem.dictSet d kv vv)
        Pure.pure (ForInStep.yield PUnit.unit) : Sem (ForInStep PUnit)) (fun x : ForInStep PUnit => match x with | .done b => Sem.pure b | .yield b => fillT d (prs pos r)) := by
      unfold fillT prs
      rw [List.map_cons, List.forIn_cons]
      show Sem.bind _ _ = _
      congr 1
      funext x
      cases x <;> rfl
    rw [e2]
    exact h
theorem subDict_long (ps : List (Sem Value × Sem Value)) (h : ¬ ps.length ≤ 15) : subDict ps = (Sem.alloc { cls := .type "dict", data := .dict #[] } Sem.pure).bind fun d => (holding [.ref d] ((PySem.rule "dict.display.long").bind fun _ => (fillT d ps).bind fun _ => Sem.pure ())).bind fun _ => Sem.pure d := by
  unfold subDict
  simp only [if_neg h]
  rfl
theorem StV.subLong {pos : Pos} {es : List (Int × Str)} {b : Int} (hl : 15 < es.length) (hz : es.length ≤ 1000) (hd : 11 ≤ l.length) (hb : -1 ≤ b) (hr : Rise b es) :
    StV w (2 + 13 * es.length) (sh l tk os) (subDict (prs pos es)) (sh (l ++ [dO (lay3 tk es) es.length]) (tk + 3 * es.length) os) l.length := by
  rw [subDict_long _ (by rw [prs, List.length_map]; omega)]
  have g : (l ++ [dO [] 0])[l.length]? = some (dO [] 0) := by simp
  have f := StV.fill (w := w) (os := os) (pos := pos) es (l ++ [dO [] 0]) tk [] 0 b g hd (by simpa using hz) hb hr (fun e he => by cases he)
  have e : (l ++ [dO [] 0]).set l.length (dO ([] ++ lay3 tk es) (0 + es.length)) = l ++ [dO (lay3 tk es) es.length] := by simp
  rw [e] at f
  refine StV.cast (n := 1 + ((1 + (13 * es.length + 0)) + 0)) ?_ (by omega)
  refine StV.bind StV.alloc ?_
  refine StV.bind (a := ()) (StV.holding _ ?_) StV.pure
  exact StV.bind StV.rule (StV.bind f StV.pure)
end
end Mine
end
section
open PySem PySem.W PyProof.Rows PySem.Calls PySem.Spec
set_option Elab.async false
set_option maxRecDepth 100000
namespace Mine
section
variable {w : World} {l : List Obj} {tk : Nat} {os : OsState}
noncomputable def IntE (e : DictEntry) : Prop := ∃ k t, e.key = .int k t
theorem StV.dictPut {d : Addr} {es : List DictEntry} {n : Nat} {e : DictEntry} (g : l[d]? = some (dO es n)) (hd : 11 ≤ d) (hz : es.length ≤ 1000) (he : IntE e) (hk : ∀ x ∈ es, x.hash ≠ e.hash) :
    StV w 4 (sh l tk os) (PySem.dictPut d e.hash e.key e.val) (sh (l.set d (dO (es ++ [e]) (n + 1))) tk os) () := by
  obtain ⟨k, t, hkey⟩ := he
  unfold PySem.dictPut
  have ee : (⟨e.hash, .int k t, e.val⟩ : DictEntry) = e := by rw [← hkey]
  rw [hkey]
  refine StV.bind (n := 1) (m := 3) (StV.find_none g (places_none hk)) ?_
  dsimp only
  rw [ee]
  exact StV.putKeys g hd hz
theorem isI_dict {a : Addr} {es : List DictEntry} {n : Nat} (g : l[a]? = some (dO es n)) : StV w 1 (sh l tk os) (PySem.isInstance (.ref a) (.type "dict")) (sh l tk os) true := by
  unfold PySem.isInstance
  refine StV.bind (n := 1) (m := 0) (StV.bind (n := 1) (m := 0) (StV.loadL g rfl) StV.pure) ?_
  have e : isSubtype (dO es n).cls (.type "dict") = Sem.pure true := by kernel_rfl
  rw [e]
  exact StV.pure
theorem iter_dict {a : Addr} {es : List DictEntry} {n : Nat} (g : l[a]? = some (dO es n)) : StV w 1 (sh l tk os) (PySem.specialOf (.ref a) (Str.ofString "__iter__")) (sh l tk os) (some (.builtin "dict.__iter__")) := by
  unfold PySem.specialOf
  refine StV.bind (n := 1) (m := 0) (StV.bind (n := 1) (m := 0) (StV.loadL g rfl) StV.pure) ?_
  have e : typeLookup (dO es n).cls (Str.ofString "__iter__") = Sem.pure (some (.builtin "dict.__iter__")) := by kernel_rfl
  rw [e]
  exact StV.pure
noncomputable def mBody (d a epoch : Nat) (i : Nat) (_ : PUnit) : Sem (ForInStep PUnit) := do
  let es ← PySem.dictEntries a
  match es[i]? with
  | some e => do
    PySem.holding [e.key, e.val] (PySem.dictPut d e.hash e.key e.val)
    let ep ← PySem.dictEpoch a
    if (ep != epoch) = true then do
      PySem.unsupported "dict.changed-during-merge"
      Pure.pure (ForInStep.yield PUnit.unit)
    else Pure.pure (ForInStep.yield PUnit.unit)
  | _ => do
    PySem.unsupported "dict.changed-during-merge"
    Pure.pure (ForInStep.yield PUnit.unit)
theorem StV.mLoop {d a : Addr} {bs : List DictEntry} {m : Nat} (hda : d ≠ a) (hd : 11 ≤ d) : ∀ (r : List DictEntry) (j : Nat) (l : List Obj) (as : List DictEntry) (n : Nat), bs.drop j = r → l[d]? = some (dO as n) → l[a]? = some (dO bs m) → as.length + r.length ≤ 1000 →
    (∀ e ∈ r, IntE e) → (∀ x ∈ as, ∀ e ∈ r, x.hash < e.hash) → r.Pairwise (fun x y => x.hash < y.hash) →
    StV w (6 * r.length) (sh l tk os) (forIn (List.range' j r.length) PUnit.unit (mBody d a m)) (sh (l.set d (dO (as ++ r) (n + r.length))) tk os) PUnit.unit
  | [], j, l, as, n, _, g, _, _, _, _, _ => by
    have e : l.set d (dO (as ++ []) (n + 0)) = l := by rw [List.append_nil]; exact set_self g
    show StV w 0 (sh l tk os) (Sem.pure PUnit.unit) (sh (l.set d (dO (as ++ []) (n + 0))) tk os) PUnit.unit
    rw [e]
    exact StV.pure
  | e :: r, j, l, as, n, hj, g, ga, hz, hi, hlt, hp => by
    rw [List.length_cons] at hz
    have hje : bs[j]? = some e := by
      have : (bs.drop j)[0]? = some e := by rw [hj]; rfl
      rw [List.getElem?_drop] at this; simpa using this
    have hj' : bs.drop (j + 1) = r := by
      have : (bs.drop j).tail = r := by rw [hj]; rfl
      rw [List.tail_drop] at this; exact this
    have ga' : (l.set d (dO (as ++ [e]) (n + 1)))[a]? = some (dO bs m) := by rw [List.getElem?_set]; simp [hda, ga]
    have ih := StV.mLoop (d := d) (a := a) (bs := bs) (m := m) hda hd r (j + 1) (l.set d (dO (as ++ [e]) (n + 1))) (as ++ [e]) (n + 1) hj' (get_set g) ga' (by rw [List.length_append]; simp; omega)
      (fun x hx => hi x (.tail _ hx)) (fun x hx y hy => by
        rcases List.mem_append.mp hx with hx | hx
        · exact hlt x hx y (.tail _ hy)
        · rw [List.mem_singleton.mp hx]; exact (List.pairwise_cons.mp hp).1 y hy) (List.pairwise_cons.mp hp).2
    have e1 : (l.set d (dO (as ++ [e]) (n + 1))).set d (dO ((as ++ [e]) ++ r) (n + 1 + r.length)) = l.set d (dO (as ++ e :: r) (n + (e :: r).length)) := by
      rw [List.set_set, List.append_assoc, List.length_cons, show n + 1 + r.length = n + (r.length + 1) by omega]; rfl
    rw [e1] at ih
    have step : StV w 6 (sh l tk os) (mBody d a m j PUnit.unit) (sh (l.set d (dO (as ++ [e]) (n + 1))) tk os) (ForInStep.yield PUnit.unit) := by
      unfold mBody
      refine StV.bind (n := 1) (m := 5) (StV.dictEntries ga) ?_
      have e0 : bs.toArray[j]? = some e := by rw [List.getElem?_toArray]; exact hje
      rw [e0]
      dsimp only
      refine StV.bind (n := 4) (m := 1) (StV.holding _ (StV.dictPut g hd (by omega) (hi e (.head _)) (fun x hx => by have := hlt x hx e (.head _); omega))) ?_
      refine StV.bind (n := 1) (m := 0) (StV.dictEpoch ga') ?_
      rw [if_neg (by simp)]
      exact StV.pure
    have h := StV.bind (f := fun x : ForInStep PUnit => match x with | .done b => Sem.pure b | .yield b => forIn (List.range' (j + 1) r.length) b (mBody d a m)) step ih
    refine (StV.cast (n := 6 + 6 * r.length) ?_ (by rw [List.length_cons]; omega))
    have e2 : forIn (List.range' j (e :: r).length) PUnit.unit (mBody d a m) = Sem.bind (mBody d a m j PUnit.unit) (fun x : ForInStep PUnit => match x with | .done b => Sem.pure b | .yield b => forIn (List.range' (j + 1) r.length) b (mBody d a m)) := by
      rw [List.length_cons, List.range'_succ, List.forIn_cons]
      show Sem.bind _ _ = _
      congr 1
      funext x
      cases x <;> rfl
    rw [e2]
    exact h
theorem StV.merge {d a : Addr} {as bs : List DictEntry} {n m : Nat} (hda : d ≠ a) (hd : 11 ≤ d) (ha : 11 ≤ a) (g : l[d]? = some (dO as n)) (ga : l[a]? = some (dO bs m)) (h0 : as ≠ []) (hz : as.length + bs.length ≤ 1000)
    (hi : ∀ e ∈ bs, IntE e) (hlt : ∀ x ∈ as, ∀ e ∈ bs, x.hash < e.hash) (hp : bs.Pairwise (fun x y => x.hash < y.hash)) :
    StV w (5 + 6 * bs.length) (sh l tk os) (mergeMapping d (.ref a) false) (sh (l.set d (dO (as ++ bs) (n + bs.length))) tk os) () := by
  unfold mergeMapping
  refine StV.cast (n := 1 + (1 + (1 + (1 + (1 + (6 * bs.length + 0)))))) ?_ (by omega)
  refine StV.bind (isI_dict ga) ?_
  simp only [if_true]
  refine StV.bind (iter_dict ga) ?_
  have hs : (a == sysModules) = false := by
    rw [beq_eq_false_iff_ne]; intro q; rw [q] at ha; exact absurd ha (by decide)
  have hb : (some (Value.builtin "dict.__iter__") == some (Value.builtin "dict.__iter__")) = true := beq_self_eq_true _
  rw [hb]
  show StV w _ _ (if (a == sysModules) = true then _ else _) _ _
  rw [if_neg (by rw [hs]; exact Bool.false_ne_true)]
  refine StV.bind (StV.dictEntries g) ?_
  have he : as.toArray.isEmpty = false := by
    cases as with
    | nil => exact absurd rfl h0
    | cons x r => rfl
  rw [if_neg (by rw [he]; exact Bool.false_ne_true)]
  refine StV.bind (StV.dictEntries ga) ?_
  refine StV.bind (StV.dictEpoch ga) ?_
  refine StV.bind (a := PUnit.unit) ?_ StV.pure
  have hl := StV.mLoop (w := w) (tk := tk) (os := os) hda hd bs 0 l as n rfl g ga hz hi hlt hp
  rw [List.size_toArray, List.range_eq_range']
  simp only [Bool.false_eq_true, if_false]
  exact hl
end
end Mine
end
section
open PySem PySem.W PyProof.Rows PySem.Calls PySem.Spec
set_option Elab.async false
set_option maxRecDepth 100000
namespace Mine
section
variable {w : World} {l : List Obj} {tk : Nat} {os : OsState}
theorem lay3_length : ∀ (es : List (Int × Str)) (tk : Nat), (lay3 tk es).length = es.length
  | [], _ => rfl
  | _ :: r, tk => by simp [lay3, lay3_length r]
theorem lay3_int : ∀ (es : List (Int × Str)) (tk : Nat), ∀ e ∈ lay3 tk es, IntE e
  | [], _, e, h => by cases h
  | (k, v) :: r, tk, e, h => by
    rcases List.mem_cons.mp h with rfl | h
    · exact ⟨_, _, rfl⟩
    · exact lay3_int r _ e h
theorem lay3_gt : ∀ (es : List (Int × Str)) (tk : Nat) (b : Int), Rise b es → ∀ e ∈ lay3 tk es, b < e.hash
  | [], _, _, _, e, h => by cases h
  | (k, v) :: r, tk, b, hr, e, h => by
    rcases List.mem_cons.mp h with rfl | h
    · exact hr.1
    · have := lay3_gt r _ k hr.2.2 e h; have := hr.1; omega
theorem lay3_pair : ∀ (es : List (Int × Str)) (tk : Nat) (b : Int), Rise b es → (lay3 tk es).Pairwise (fun x y => x.hash < y.hash)
  | [], _, _, _ => .nil
  | (k, v) :: r, tk, b, hr => .cons (lay3_gt r _ k hr.2.2) (lay3_pair r _ k hr.2.2)
/-- the last key, or the bound -/
noncomputable def lastK : Int → List (Int × Str) → Int
  | b, [] => b
  | _, (k, _) :: r => lastK k r
theorem lastK_ge : ∀ (es : List (Int × Str)) (b : Int), Rise b es → b ≤ lastK b es
  | [], _, _ => Int.le_refl _
  | (k, v) :: r, b, h => by have := lastK_ge r k h.2.2; have := h.1; simp only [lastK]; omega
theorem lay3_le : ∀ (es : List (Int × Str)) (tk : Nat) (b : Int), Rise b es → ∀ e ∈ lay3 tk es, e.hash ≤ lastK b es
  | [], _, _, _, e, h => by cases h
  | (k, v) :: r, tk, b, hr, e, h => by
    rcases List.mem_cons.mp h with rfl | h
    · exact lastK_ge r k hr.2.2
    · exact lay3_le r _ k hr.2.2 e h
theorem rise_app : ∀ (c r : List (Int × Str)) (b : Int), Rise b (c ++ r) → Rise b c ∧ Rise (lastK b c) r
  | [], r, b, h => ⟨trivial, h⟩
  | (k, v) :: c, r, b, h => ⟨⟨h.1, h.2.1, (rise_app c r k h.2.2).1⟩, (rise_app c r k h.2.2).2⟩

noncomputable def flushT (run : List (Sem Value × Sem Value)) (main : Option Addr) : Sem (Option Addr) :=
  if run.isEmpty = true then pure main
  else
    match main with
    | none => do
      let d ← subDict run
      pure (some d)
    | some d => do
      let sub ← holding [Value.ref d] (subDict run)
      (holding [Value.ref d, Value.ref sub] (mergeMapping d (Value.ref sub) false)).onRaise fun x => do
          let _ ← holding [Value.ref d, x] (runValue (Code.builtin "proto.let_go" { }))
          pure ()
      pure (some d)
noncomputable def gath : List (Sem Value × Sem Value) → Option Addr → List (Sem Value × Sem Value) → Sem (Option Addr × List (Sem Value × Sem Value))
  | [], m, run => pure (m, run)
  | p :: ps, m, run => if ((run ++ [p]).length == 17) = true then (flushT (run ++ [p]) m).bind fun m' => gath ps m' [] else gath ps m (run ++ [p])
theorem forIn_gath (f : (Option (Sem Value) × Sem Value) → (Option Addr × List (Sem Value × Sem Value)) → Sem (ForInStep (Option Addr × List (Sem Value × Sem Value))))
    (hf : ∀ (p : Sem Value × Sem Value) (m : Option Addr) (run : List (Sem Value × Sem Value)), f (some p.1, p.2) (m, run) = if ((run ++ [p]).length == 17) = true then (flushT (run ++ [p]) m).bind fun m' => pure (.yield (m', [])) else pure (.yield (m, run ++ [p]))) :
    ∀ (ps : List (Sem Value × Sem Value)) (m : Option Addr) (run : List (Sem Value × Sem Value)), forIn (ps.map fun p => (some p.1, p.2)) (m, run) f = gath ps m run
  | [], m, run => rfl
  | p :: ps, m, run => by
    rw [List.map_cons, List.forIn_cons, hf, gath]
    split
    · show Sem.bind (Sem.bind _ _) _ = _
      rw [Sem.bind_assoc]
      congr 1
      funext m'
      exact forIn_gath f hf ps m' []
    · exact forIn_gath f hf ps m _
theorem dD_eq (ps : List (Sem Value × Sem Value)) : dictDisplay (ps.map fun p => (some p.1, p.2)) = (gath ps none []).bind fun r => (flushT r.2 r.1).bind fun o => match o with | some d => Sem.pure (.ref d) | none => newDict := by
  rw [← forIn_gath (fun x __s => match x with
          | (k, v) =>
            match k with
            | some k => if ((__s.2 ++ [(k, v)]).length == 17) = true then (flushT (__s.2 ++ [(k, v)]) __s.1).bind fun m' => pure (.yield (m', [])) else pure (.yield (__s.1, __s.2 ++ [(k, v)]))
            | none => Sem.unsupported "") (fun p m run => rfl) ps none []]
  unfold dictDisplay
  show Sem.bind _ _ = Sem.bind _ _
  congr 1
  · rw [forIn_gath _ (fun p m run => by rfl), forIn_gath _ (fun p m run => by rfl)]
end
end Mine
end
section
open PySem PySem.W PyProof.Rows PySem.Calls PySem.Spec
set_option Elab.async false
set_option maxRecDepth 100000
namespace Mine
section
variable {w : World} {l : List Obj} {tk : Nat} {os : OsState}
theorem gath_short : ∀ (ps : List (Sem Value × Sem Value)) (m : Option Addr) (run : List (Sem Value × Sem Value)), run.length + ps.length < 17 → gath ps m run = Sem.pure (m, run ++ ps)
  | [], m, run, _ => by rw [List.append_nil]; rfl
  | p :: ps, m, run, h => by
    rw [List.length_cons] at h
    rw [gath, if_neg (by simp; omega), gath_short ps m _ (by rw [List.length_append]; simp; omega), List.append_assoc]; rfl
theorem gath_full : ∀ (c ps : List (Sem Value × Sem Value)) (m : Option Addr) (run : List (Sem Value × Sem Value)), c ≠ [] → run.length + c.length = 17 → gath (c ++ ps) m run = (flushT (run ++ c) m).bind fun m' => gath ps m' []
  | [], _, _, _, h, _ => absurd rfl h
  | [p], ps, m, run, _, h => by
    show gath (p :: ps) m run = _
    rw [gath, if_pos (by simp at h ⊢; omega)]
  | p :: q :: c, ps, m, run, _, h => by
    show gath (p :: (q :: c ++ ps)) m run = _
    simp only [List.length_cons] at h
    rw [gath, if_neg (by simp; omega), gath_full (q :: c) ps m (run ++ [p]) (by simp) (by simp; omega), List.append_assoc]; rfl
theorem prs_app (pos : Pos) (a b : List (Int × Str)) : prs pos (a ++ b) = prs pos a ++ prs pos b := by simp [prs]
theorem prs_len (pos : Pos) (a : List (Int × Str)) : (prs pos a).length = a.length := by simp [prs]

theorem StV.flushL {d : Addr} {pos : Pos} {es : List (Int × Str)} {as : List DictEntry} {n : Nat} {b : Int} (hl : 15 < es.length) (hz : as.length + es.length ≤ 1000) (hd : 11 ≤ d) (hll : 11 ≤ l.length) (g : l[d]? = some (dO as n)) (h0 : as ≠ []) (hb : -1 ≤ b) (hr : Rise b es) (ha : ∀ e ∈ as, e.hash ≤ b) :
    StV w (2 + 13 * es.length + (5 + 6 * es.length)) (sh l tk os) (flushT (prs pos es) (some d))
      (sh (l.set d (dO (as ++ lay3 tk es) (n + es.length)) ++ [dO (lay3 tk es) es.length]) (tk + 3 * es.length) os) (some d) := by
  unfold flushT
  have hne : (prs pos es).isEmpty = false := by
    cases es with
    | nil => simp at hl
    | cons x r => rfl
  rw [if_neg (by rw [hne]; exact Bool.false_ne_true)]
  dsimp only
  have hdl : d < l.length := (List.getElem?_eq_some_iff.mp g).1
  refine StV.bind (n := 2 + 13 * es.length) (StV.holding _ (StV.subLong hl (by omega) hll hb hr)) ?_
  refine StV.cast (n := (5 + 6 * es.length) + 0) ?_ (by omega)
  have g' : (l ++ [dO (lay3 tk es) es.length])[d]? = some (dO as n) := by rw [List.getElem?_append_left hdl]; exact g
  have ga : (l ++ [dO (lay3 tk es) es.length])[l.length]? = some (dO (lay3 tk es) es.length) := by simp
  have m := StV.merge (w := w) (tk := tk + 3 * es.length) (os := os) (Nat.ne_of_lt hdl) hd hll g' ga h0 (by rw [lay3_length]; exact hz) (lay3_int es tk)
    (fun x hx e he => by have := ha x hx; have := lay3_gt es tk b hr e he; omega) (lay3_pair es tk b hr)
  rw [lay3_length, List.set_append_left _ _ hdl] at m
  refine StV.bind (a := ()) (StV.onRaise (StV.holding _ m)) StV.pure
theorem StV.flushN {pos : Pos} {es : List (Int × Str)} {b : Int} (hl : 15 < es.length) (hz : es.length ≤ 1000) (hll : 11 ≤ l.length) (hb : -1 ≤ b) (hr : Rise b es) :
    StV w (2 + 13 * es.length) (sh l tk os) (flushT (prs pos es) none) (sh (l ++ [dO (lay3 tk es) es.length]) (tk + 3 * es.length) os) (some l.length) := by
  unfold flushT
  have hne : (prs pos es).isEmpty = false := by
    cases es with
    | nil => simp at hl
    | cons x r => rfl
  rw [if_neg (by rw [hne]; exact Bool.false_ne_true)]
  dsimp only
  exact StV.cast (n := (2 + 13 * es.length) + 0) (StV.bind (StV.subLong hl hz hll hb hr) StV.pure) (by omega)

/-- what is left behind the gathering: tokens, the main dict's entries and count, the sub-dicts, the pairs that wait -/
noncomputable def aft : Nat → Nat → List DictEntry → Nat → List Obj → List (Int × Str) → Nat × List DictEntry × Nat × List Obj × List (Int × Str) × Nat
  | 0, tk, as, n, subs, es => (tk, as, n, subs, es, 0)
  | k + 1, tk, as, n, subs, es =>
    let r := aft k (tk + 51) (as ++ lay3 tk (es.take 17)) (n + 17) (subs ++ [dO (lay3 tk (es.take 17)) 17]) (es.drop 17)
    (r.1, r.2.1, r.2.2.1, r.2.2.2.1, r.2.2.2.2.1, 330 + r.2.2.2.2.2)
theorem gathRun {pos : Pos} {pre : List Obj} (hpre : 11 ≤ pre.length) : ∀ (k : Nat) (es : List (Int × Str)) (tk : Nat) (as : List DictEntry) (n : Nat) (subs : List Obj) (b : Int), 17 * k ≤ es.length → es.length < 17 * (k + 1) → as ≠ [] → as.length + es.length ≤ 1000 → -1 ≤ b → Rise b es → (∀ e ∈ as, e.hash ≤ b) →
    StV w (aft k tk as n subs es).2.2.2.2.2 (sh (pre ++ dO as n :: subs) tk os) (gath (prs pos es) (some pre.length) [])
      (sh (pre ++ dO (aft k tk as n subs es).2.1 (aft k tk as n subs es).2.2.1 :: (aft k tk as n subs es).2.2.2.1) (aft k tk as n subs es).1 os) (some pre.length, prs pos (aft k tk as n subs es).2.2.2.2.1)
  | 0, es, tk, as, n, subs, b, _, h2, _, _, _, _, _ => by
    rw [gath_short _ _ _ (by rw [prs_len]; simpa using h2)]
    exact StV.pure
  | k + 1, es, tk, as, n, subs, b, h1, h2, h0, hz, hb, hr, ha => by
    have ht : (es.take 17).length = 17 := by rw [List.length_take]; omega
    have hr' : Rise b (es.take 17 ++ es.drop 17) := by rw [List.take_append_drop]; exact hr
    obtain ⟨r1, r2⟩ := rise_app _ _ _ hr'
    have hdl : (es.drop 17).length = es.length - 17 := List.length_drop
    have e : gath (prs pos es) (some pre.length) [] = (flushT (prs pos (es.take 17)) (some pre.length)).bind fun m' => gath (prs pos (es.drop 17)) m' [] := by
      have := gath_full (prs pos (es.take 17)) (prs pos (es.drop 17)) (some pre.length) [] (by intro q; have := congrArg List.length q; rw [prs_len, ht] at this; cases this) (by rw [prs_len, ht]; rfl)
      rw [← prs_app, List.take_append_drop] at this
      exact this
    rw [e]
    have g : (pre ++ dO as n :: subs)[pre.length]? = some (dO as n) := by simp
    have f := StV.flushL (w := w) (tk := tk) (os := os) (pos := pos) (l := pre ++ dO as n :: subs) (es := es.take 17) (by omega) (by omega) hpre (by simp; omega) g h0 hb r1 ha
    rw [ht] at f
    have el : (pre ++ dO as n :: subs).set pre.length (dO (as ++ lay3 tk (es.take 17)) (n + 17)) ++ [dO (lay3 tk (es.take 17)) 17] = pre ++ dO (as ++ lay3 tk (es.take 17)) (n + 17) :: (subs ++ [dO (lay3 tk (es.take 17)) 17]) := by simp
    rw [el] at f
    have ih := gathRun (pos := pos) (pre := pre) hpre k (es.drop 17) (tk + 51) (as ++ lay3 tk (es.take 17)) (n + 17) (subs ++ [dO (lay3 tk (es.take 17)) 17]) (lastK b (es.take 17)) (by omega) (by omega) (by intro q; exact h0 (List.append_eq_nil_iff.mp q).1)
      (by rw [List.length_append, lay3_length]; omega) (by have := lastK_ge _ _ r1; omega) r2 (fun x hx => by
        rcases List.mem_append.mp hx with hx | hx
        · have := ha x hx; have := lastK_ge _ _ r1; omega
        · exact lay3_le _ _ _ r1 x hx)
    exact StV.cast (StV.bind f ih) (by simp only [aft])
end
end Mine
end
section
open PySem PySem.W PyProof.Rows PySem.Calls PySem.Spec
set_option Elab.async false
set_option maxRecDepth 100000
namespace Mine
section
variable {w : World} {l : List Obj} {tk : Nat} {os : OsState}
noncomputable def vals2 : Nat → List (Int × Str) → List (Value × Value)
  | _, [] => []
  | tk, (k, v) :: r => (.int k tk, .str v (tk + 1)) :: vals2 (tk + 2) r
noncomputable def lay2 : Nat → List (Int × Str) → List DictEntry
  | _, [] => []
  | tk, (k, v) :: r => ⟨k, .int k tk, .str v (tk + 1)⟩ :: lay2 (tk + 2) r
theorem lay2_length : ∀ (es : List (Int × Str)) (tk : Nat), (lay2 tk es).length = es.length
  | [], _ => rfl
  | _ :: r, tk => by simp [lay2, lay2_length r]
theorem lay2_int : ∀ (es : List (Int × Str)) (tk : Nat), ∀ e ∈ lay2 tk es, IntE e
  | [], _, e, h => by cases h
  | (k, v) :: r, tk, e, h => by
    rcases List.mem_cons.mp h with rfl | h
    · exact ⟨_, _, rfl⟩
    · exact lay2_int r _ e h
theorem lay2_gt : ∀ (es : List (Int × Str)) (tk : Nat) (b : Int), Rise b es → ∀ e ∈ lay2 tk es, b < e.hash
  | [], _, _, _, e, h => by cases h
  | (k, v) :: r, tk, b, hr, e, h => by
    rcases List.mem_cons.mp h with rfl | h
    · exact hr.1
    · have := lay2_gt r _ k hr.2.2 e h; have := hr.1; omega
theorem lay2_pair : ∀ (es : List (Int × Str)) (tk : Nat) (b : Int), Rise b es → (lay2 tk es).Pairwise (fun x y => x.hash < y.hash)
  | [], _, _, _ => .nil
  | (k, v) :: r, tk, b, hr => .cons (lay2_gt r _ k hr.2.2) (lay2_pair r _ k hr.2.2)
theorem evalPairsRun {pos : Pos} : ∀ (es : List (Int × Str)) (tk : Nat), StV w (3 * es.length) (sh l tk os) (evalPairs (prs pos es)) (sh l (tk + 2 * es.length) os) (vals2 tk es)
  | [], tk => StV.pure
  | (k, v) :: r, tk => by
    refine StV.cast (n := 1 + (2 + (3 * r.length + 0))) ?_ (by rw [List.length_cons]; omega)
    show StV w _ _ (Sem.bind (mkInt k) fun kv => Sem.bind (holding [kv] (vT v pos)) fun vv => Sem.bind (holding [kv, vv] (evalPairs (prs pos r))) fun x => Sem.pure ((kv, vv) :: x)) _ _
    refine StV.bind StV.mkInt (StV.bind (StV.holding _ StV.valT) ?_)
    have ih := evalPairsRun (pos := pos) r (tk + 1 + 1)
    rw [show tk + 1 + 1 + 2 * r.length = tk + 2 * ((k, v) :: r).length by rw [List.length_cons]; omega] at ih
    exact StV.bind (StV.holding _ ih) StV.pure
noncomputable def setAll (d : Addr) (vs : List (Value × Value)) : Sem PUnit := forIn vs PUnit.unit fun x _ => do
  dictSet d x.1 x.2
  pure (ForInStep.yield PUnit.unit)
theorem setAllRun {d : Addr} : ∀ (es : List (Int × Str)) (l : List Obj) (tv tk : Nat) (as : List DictEntry) (n : Nat) (b : Int), l[d]? = some (dO as n) → 11 ≤ d → as.length + es.length ≤ 1000 → -1 ≤ b → Rise b es → (∀ e ∈ as, e.hash ≤ b) →
    StV w (10 * es.length) (sh l tk os) (setAll d (vals2 tv es)) (sh (l.set d (dO (as ++ lay2 tv es) (n + es.length))) (tk + es.length) os) PUnit.unit
  | [], l, tv, tk, as, n, b, g, _, _, _, _, _ => by
    have e : l.set d (dO (as ++ lay2 tv []) (n + 0)) = l := by
      rw [lay2, List.append_nil]; exact set_self g
    show StV w 0 (sh l tk os) (Sem.pure PUnit.unit) (sh (l.set d (dO (as ++ lay2 tv []) (n + 0))) tk os) PUnit.unit
    rw [e]
    exact StV.pure
  | (k, v) :: r, l, tv, tk, as, n, b, g, hd, hz, hb, hr, ha => by
    obtain ⟨hbk, hk1, hr⟩ := hr
    rw [List.length_cons] at hz
    have ih := setAllRun (d := d) r (l.set d (dO (as ++ [⟨k, .int k tv, .str v (tv + 1)⟩]) (n + 1))) (tv + 2) (tk + 1) (as ++ [⟨k, .int k tv, .str v (tv + 1)⟩]) (n + 1) k (get_set g) hd
      (by rw [List.length_append]; simp; omega) (by omega) hr (fun e he => by
        rcases List.mem_append.mp he with he | he
        · have := ha e he; omega
        · rw [List.mem_singleton.mp he]; exact Int.le_refl _)
    have e1 : (l.set d (dO (as ++ [⟨k, .int k tv, .str v (tv + 1)⟩]) (n + 1))).set d (dO ((as ++ [⟨k, .int k tv, .str v (tv + 1)⟩]) ++ lay2 (tv + 2) r) (n + 1 + r.length)) = l.set d (dO (as ++ lay2 tv ((k, v) :: r)) (n + ((k, v) :: r).length)) := by
      rw [List.set_set, List.append_assoc, List.length_cons, show n + 1 + r.length = n + (r.length + 1) by omega]; rfl
    rw [e1, show tk + 1 + r.length = tk + ((k, v) :: r).length by rw [List.length_cons]; omega] at ih
    have step : StV w 10 (sh l tk os) (do
        dictSet d (.int k tv) (.str v (tv + 1))
        pure (ForInStep.yield PUnit.unit) : Sem (ForInStep PUnit)) (sh (l.set d (dO (as ++ [⟨k, .int k tv, .str v (tv + 1)⟩]) (n + 1))) (tk + 1) os) (ForInStep.yield PUnit.unit) :=
      StV.bind (n := 10) (m := 0) (StV.dictSet g hd (by omega) (by omega) hk1 (fun e he => by have := ha e he; omega)) StV.pure
    have h := StV.bind (f := fun x : ForInStep PUnit => match x with | .done b => Sem.pure b | .yield b => setAll d (vals2 (tv + 2) r)) step ih
    refine (StV.cast (n := 10 + 10 * r.length) ?_ (by rw [List.length_cons]; omega))
    have e2 : setAll d (vals2 tv ((k, v) :: r)) = Sem.bind (do
        dictSet d (.int k tv) (.str v (tv + 1))
        pure (ForInStep.yield PUnit.unit) : Sem (ForInStep PUnit)) (fun x : ForInStep PUnit => match x with | .done b => Sem.pure b | .yield b => setAll d (vals2 (tv + 2) r)) := by
      unfold setAll
      rw [vals2, List.forIn_cons]
      show Sem.bind _ _ = _
      congr 1
      funext x
      cases x <;> rfl
    rw [e2]
    exact h
theorem subDict_short (ps : List (Sem Value × Sem Value)) (h : ps.length ≤ 15) : subDict ps = (Sem.alloc { cls := .type "dict", data := .dict #[] } Sem.pure).bind fun d => (holding [.ref d] ((evalPairs ps).bind fun vs => holding (vs.flatMap fun (k, v) => [k, v]) ((setAll d vs).bind fun _ => Sem.pure ()))).bind fun _ => Sem.pure d := by
  unfold subDict
  simp only [if_pos h]
  rfl
theorem StV.subShort {pos : Pos} {es : List (Int × Str)} {b : Int} (hl : es.length ≤ 15) (hd : 11 ≤ l.length) (hb : -1 ≤ b) (hr : Rise b es) :
    StV w (1 + 13 * es.length) (sh l tk os) (subDict (prs pos es)) (sh (l ++ [dO (lay2 tk es) es.length]) (tk + 3 * es.length) os) l.length := by
  rw [subDict_short _ (by rw [prs, List.length_map]; omega)]
  have g : (l ++ [dO [] 0])[l.length]? = some (dO [] 0) := by simp
  have f := setAllRun (w := w) (os := os) es (l ++ [dO [] 0]) tk (tk + 2 * es.length) [] 0 b g hd (by simp; omega) hb hr (fun e he => by cases he)
  have e : (l ++ [dO [] 0]).set l.length (dO ([] ++ lay2 tk es) (0 + es.length)) = l ++ [dO (lay2 tk es) es.length] := by simp
  rw [e, show tk + 2 * es.length + es.length = tk + 3 * es.length by omega] at f
  refine StV.cast (n := 1 + ((3 * es.length + (10 * es.length + 0)) + 0)) ?_ (by omega)
  refine StV.bind StV.alloc ?_
  refine StV.bind (a := ()) (StV.holding _ ?_) StV.pure
  exact StV.bind (evalPairsRun es tk) (StV.holding _ (StV.bind f StV.pure))
theorem StV.flushS {d : Addr} {pos : Pos} {es : List (Int × Str)} {as : List DictEntry} {n : Nat} {b : Int} (hl : es.length ≤ 15) (he0 : es ≠ []) (hz : as.length + es.length ≤ 1000) (hd : 11 ≤ d) (hll : 11 ≤ l.length) (g : l[d]? = some (dO as n)) (h0 : as ≠ []) (hb : -1 ≤ b) (hr : Rise b es) (ha : ∀ e ∈ as, e.hash ≤ b) :
    StV w (1 + 13 * es.length + (5 + 6 * es.length)) (sh l tk os) (flushT (prs pos es) (some d))
      (sh (l.set d (dO (as ++ lay2 tk es) (n + es.length)) ++ [dO (lay2 tk es) es.length]) (tk + 3 * es.length) os) (some d) := by
  unfold flushT
  have hne : (prs pos es).isEmpty = false := by
    cases es with
    | nil => exact absurd rfl he0
    | cons x r => rfl
  rw [if_neg (by rw [hne]; exact Bool.false_ne_true)]
  dsimp only
  have hdl : d < l.length := (List.getElem?_eq_some_iff.mp g).1
  refine StV.bind (n := 1 + 13 * es.length) (StV.holding _ (StV.subShort hl hll hb hr)) ?_
  refine StV.cast (n := (5 + 6 * es.length) + 0) ?_ (by omega)
  have g' : (l ++ [dO (lay2 tk es) es.length])[d]? = some (dO as n) := by rw [List.getElem?_append_left hdl]; exact g
  have ga : (l ++ [dO (lay2 tk es) es.length])[l.length]? = some (dO (lay2 tk es) es.length) := by simp
  have m := StV.merge (w := w) (tk := tk + 3 * es.length) (os := os) (Nat.ne_of_lt hdl) hd hll g' ga h0 (by rw [lay2_length]; exact hz) (lay2_int es tk)
    (fun x hx e he => by have := ha x hx; have := lay2_gt es tk b hr e he; omega) (lay2_pair es tk b hr)
  rw [lay2_length, List.set_append_left _ _ hdl] at m
  refine StV.bind (a := ()) (StV.onRaise (StV.holding _ m)) StV.pure
end
end Mine
end
section
open PySem PySem.W PyProof.Rows PySem.Calls PySem.Spec
set_option Elab.async false
set_option maxRecDepth 100000
namespace Mine
section
variable {w : World} {l : List Obj} {tk : Nat} {os : OsState}
theorem aft_ok : ∀ (k : Nat) (es : List (Int × Str)) (tk : Nat) (as : List DictEntry) (n : Nat) (subs : List Obj) (b : Int), 17 * k ≤ es.length → as ≠ [] → -1 ≤ b → Rise b es → (∀ e ∈ as, e.hash ≤ b) →
    ∃ b', -1 ≤ b' ∧ Rise b' (aft k tk as n subs es).2.2.2.2.1 ∧ (∀ e ∈ (aft k tk as n subs es).2.1, e.hash ≤ b') ∧ (aft k tk as n subs es).2.1 ≠ [] ∧ (aft k tk as n subs es).2.1.length + (aft k tk as n subs es).2.2.2.2.1.length = as.length + es.length ∧ (aft k tk as n subs es).2.2.2.2.1.length = es.length - 17 * k
  | 0, es, tk, as, n, subs, b, _, h0, hb, hr, ha => ⟨b, hb, hr, ha, h0, rfl, by simp [aft]⟩
  | k + 1, es, tk, as, n, subs, b, h1, h0, hb, hr, ha => by
    have ht : (es.take 17).length = 17 := by rw [List.length_take]; omega
    have hr' : Rise b (es.take 17 ++ es.drop 17) := by rw [List.take_append_drop]; exact hr
    obtain ⟨r1, r2⟩ := rise_app _ _ _ hr'
    have hdl : (es.drop 17).length = es.length - 17 := List.length_drop
    obtain ⟨b', k1, k2, k3, k4, k5, k6⟩ := aft_ok k (es.drop 17) (tk + 51) (as ++ lay3 tk (es.take 17)) (n + 17) (subs ++ [dO (lay3 tk (es.take 17)) 17]) (lastK b (es.take 17)) (by omega) (by intro q; exact h0 (List.append_eq_nil_iff.mp q).1)
      (by have := lastK_ge _ _ r1; omega) r2 (fun x hx => by
        rcases List.mem_append.mp hx with hx | hx
        · have := ha x hx; have := lastK_ge _ _ r1; omega
        · exact lay3_le _ _ _ r1 x hx)
    refine ⟨b', k1, k2, k3, k4, ?_, ?_⟩
    · show _ = _
      simp only [aft]
      rw [k5, List.length_append, lay3_length, ht, hdl]; omega
    · simp only [aft]
      rw [k6, hdl]; omega
/-- the display of many pairs: the objects it leaves, the tokens, the steps -/
noncomputable def dispL (k tk : Nat) (es : List (Int × Str)) : List Obj :=
  let A := aft k (tk + 51) (lay3 tk (es.take 17)) 17 [] (es.drop 17)
  dO (A.2.1 ++ lay2 A.1 A.2.2.2.2.1) (A.2.2.1 + A.2.2.2.2.1.length) :: (A.2.2.2.1 ++ [dO (lay2 A.1 A.2.2.2.2.1) A.2.2.2.2.1.length])
noncomputable def dispN (k tk : Nat) (es : List (Int × Str)) : Nat :=
  let A := aft k (tk + 51) (lay3 tk (es.take 17)) 17 [] (es.drop 17)
  223 + A.2.2.2.2.2 + (1 + 13 * A.2.2.2.2.1.length + (5 + 6 * A.2.2.2.2.1.length))
noncomputable def dispTk (k tk : Nat) (es : List (Int × Str)) : Nat :=
  let A := aft k (tk + 51) (lay3 tk (es.take 17)) 17 [] (es.drop 17)
  A.1 + 3 * A.2.2.2.2.1.length
theorem dispRun {pos : Pos} {pre : List Obj} (hpre : 11 ≤ pre.length) (k : Nat) (es : List (Int × Str)) (h1 : 17 * (k + 1) < es.length) (h2 : es.length ≤ 17 * (k + 1) + 15) (hz : es.length ≤ 1000) (hr : Rise (-1) es) :
    StV w (dispN k tk es) (sh pre tk os) (dictDisplay ((prs pos es).map fun p => (some p.1, p.2))) (sh (pre ++ dispL k tk es) (dispTk k tk es) os) (.ref pre.length) := by
  have ht : (es.take 17).length = 17 := by rw [List.length_take]; omega
  have hdl : (es.drop 17).length = es.length - 17 := List.length_drop
  have hr' : Rise (-1) (es.take 17 ++ es.drop 17) := by rw [List.take_append_drop]; exact hr
  obtain ⟨r1, r2⟩ := rise_app _ _ _ hr'
  rw [dD_eq]
  have e : gath (prs pos es) none [] = (flushT (prs pos (es.take 17)) none).bind fun m' => gath (prs pos (es.drop 17)) m' [] := by
    have := gath_full (prs pos (es.take 17)) (prs pos (es.drop 17)) none [] (by intro q; have := congrArg List.length q; rw [prs_len, ht] at this; cases this) (by rw [prs_len, ht]; rfl)
    rw [← prs_app, List.take_append_drop] at this
    exact this
  rw [e]
  have f := StV.flushN (w := w) (tk := tk) (os := os) (pos := pos) (l := pre) (es := es.take 17) (by omega) (by omega) hpre (Int.le_refl _) r1
  rw [ht] at f
  have h3ne : lay3 tk (es.take 17) ≠ [] := by intro q; have := congrArg List.length q; rw [lay3_length, ht] at this; cases this
  have gr := gathRun (w := w) (os := os) (pos := pos) (pre := pre) hpre k (es.drop 17) (tk + 51) (lay3 tk (es.take 17)) 17 [] (lastK (-1) (es.take 17)) (by omega) (by omega) h3ne (by rw [lay3_length]; omega) (lastK_ge _ _ r1) r2 (lay3_le _ _ _ r1)
  obtain ⟨b', k1, k2, k3, k4, k5, k6⟩ := aft_ok k (es.drop 17) (tk + 51) (lay3 tk (es.take 17)) 17 [] (lastK (-1) (es.take 17)) (by omega) h3ne (lastK_ge _ _ r1) r2 (lay3_le _ _ _ r1)
  unfold dispN dispL dispTk
  dsimp only
  generalize aft k (tk + 51) (lay3 tk (es.take 17)) 17 [] (es.drop 17) = A at gr k2 k3 k4 k5 k6 ⊢
  obtain ⟨atk, aas, an, asubs, aes, ast⟩ := A
  dsimp only at gr k2 k3 k4 k5 k6 ⊢
  rw [lay3_length, ht] at k5
  have g : (pre ++ dO aas an :: asubs)[pre.length]? = some (dO aas an) := by simp
  have fs := StV.flushS (w := w) (tk := atk) (os := os) (pos := pos) (l := pre ++ dO aas an :: asubs) (es := aes) (by omega) (by intro q; rw [q] at k6; simp at k6; omega) (by omega) hpre (by simp; omega) g k4 k1 k2 k3
  have el : (pre ++ dO aas an :: asubs).set pre.length (dO (aas ++ lay2 atk aes) (an + aes.length)) ++ [dO (lay2 atk aes) aes.length] = pre ++ dO (aas ++ lay2 atk aes) (an + aes.length) :: (asubs ++ [dO (lay2 atk aes) aes.length]) := by simp
  rw [el] at fs
  refine StV.cast (n := ((2 + 13 * 17) + ast) + ((1 + 13 * aes.length + (5 + 6 * aes.length)) + 0)) ?_ (by omega)
  refine StV.bind (StV.bind f gr) (StV.bind fs ?_)
  exact StV.pure
end
end Mine
end
section
open PySem PySem.W PyProof.Rows PySem.Calls PySem.Spec
set_option Elab.async false
set_option maxRecDepth 100000
noncomputable section
namespace Mine
noncomputable def a13 : List Expr × List (Option Expr) × List Expr × Pos × Pos := match stm 13 with
  | .Assign tg (.Dict keys values dp) p => (tg, keys, values, dp, p)
  | _ => ([], [], [], ⟨0, 0, 0, 0⟩, ⟨0, 0, 0, 0⟩)
noncomputable def ents : List (Int × Str) := (a13.2.1.zip a13.2.2.1).filterMap fun
  | (some (.Constant (.int k) _ _), .Constant (.str s) _ _) => some (k, s)
  | _ => none
noncomputable def riseB : Int → List (Int × Str) → Bool
  | _, [] => true
  | b, (k, _) :: r => decide (b < k) && decide (k < 2 ^ 61 - 1) && riseB k r
theorem rise_of : ∀ (es : List (Int × Str)) (b : Int), riseB b es = true → Rise b es
  | [], _, _ => trivial
  | (k, v) :: r, b, h => by
    simp only [riseB, Bool.and_eq_true, decide_eq_true_eq] at h
    exact ⟨h.1.1, h.1.2, rise_of r k h.2⟩
theorem ents_rise : Rise (-1) ents := rise_of _ _ (by kernel_rfl)
theorem ents_len : ents.length = 650 := by kernel_rfl
noncomputable def tail13 (v : Value) : Sem Flow := do assignStores envE v (← swappedStores a13.1 (.Dict a13.2.1 a13.2.2.1 a13.2.2.2.1) envE) ((assignEach a13.1 envE).map (·.2))
theorem exec13 : exec (stm 13) envE = (Sem.at a13.2.2.2.2 Sem.pure).bind fun _ => ((Sem.at a13.2.2.2.1 Sem.pure).bind fun _ => dictDisplay ((evalEachOpt a13.2.1 envE).zip ((evalEach a13.2.2.1 envE).map fun v => do let x ← v; standAt a13.2.2.2.1; pure x))).bind tail13 := by kernel_rfl
theorem items13 : (evalEachOpt a13.2.1 envE).zip ((evalEach a13.2.2.1 envE).map fun v => do let x ← v; standAt a13.2.2.2.1; pure x) = (prs a13.2.2.2.1 ents).map fun p => (some p.1, p.2) := by kernel_rfl
end Mine
end
end
section
open PySem PySem.W PyProof.Rows PySem.Calls PySem.Spec
set_option Elab.async false
set_option maxRecDepth 100000
noncomputable section
namespace Mine
noncomputable def D13 : List Obj := dispL 37 353 ents
noncomputable def f13 (i : Nat) : Obj := D13.getD (i - 82) default
noncomputable def L12 (P : Params) : List Obj := (T_12 P).list 82
noncomputable def L13 (P : Params) : List Obj := (L12 P).set 3 (o3_13 P)
theorem D13_len : D13.length = 39 := by kernel_rfl
theorem N13 : dispN 37 353 ents = 12515 := by kernel_rfl
theorem tk13 : dispTk 37 353 ents = 2303 := by kernel_rfl
theorem abs12 (w : World) (os : OsState) : (S_12 w os).abs = sh (L12 w.params) 353 os := by kernel_rfl
theorem L12_len (P : Params) : (L12 P).length = 82 := by kernel_rfl
theorem list_range {D : List Obj} {n : Nat} (h : D.length = n) : D = (List.range n).map fun i => D.getD i default := by
  apply List.ext_getElem?
  intro i
  rw [List.getElem?_map]
  by_cases hi : i < n
  · rw [List.getElem?_range hi, List.getElem?_eq_getElem (by rw [h]; exact hi)]
    show _ = some (D.getD i default)
    rw [List.getD_eq_getElem?_getD, List.getElem?_eq_getElem (by rw [h]; exact hi)]; rfl
  · rw [List.getElem?_eq_none (by rw [h]; exact Nat.le_of_not_lt hi), List.getElem?_eq_none (by rw [List.length_range]; exact Nat.le_of_not_lt hi)]; rfl
theorem list39 (D : List Obj) (h : D.length = 39) : D = [D.getD 0 default, D.getD 1 default, D.getD 2 default, D.getD 3 default, D.getD 4 default, D.getD 5 default, D.getD 6 default, D.getD 7 default, D.getD 8 default, D.getD 9 default,
    D.getD 10 default, D.getD 11 default, D.getD 12 default, D.getD 13 default, D.getD 14 default, D.getD 15 default, D.getD 16 default, D.getD 17 default, D.getD 18 default, D.getD 19 default,
    D.getD 20 default, D.getD 21 default, D.getD 22 default, D.getD 23 default, D.getD 24 default, D.getD 25 default, D.getD 26 default, D.getD 27 default, D.getD 28 default, D.getD 29 default,
    D.getD 30 default, D.getD 31 default, D.getD 32 default, D.getD 33 default, D.getD 34 default, D.getD 35 default, D.getD 36 default, D.getD 37 default, D.getD 38 default] := (list_range h).trans rfl
theorem abs13' (w : World) (os : OsState) (D : List Obj) : (S_13 (fun i => D.getD (i - 82) default) w os).abs = sh (L13 w.params ++ [D.getD 0 default, D.getD 1 default, D.getD 2 default, D.getD 3 default, D.getD 4 default, D.getD 5 default, D.getD 6 default, D.getD 7 default, D.getD 8 default, D.getD 9 default,
    D.getD 10 default, D.getD 11 default, D.getD 12 default, D.getD 13 default, D.getD 14 default, D.getD 15 default, D.getD 16 default, D.getD 17 default, D.getD 18 default, D.getD 19 default,
    D.getD 20 default, D.getD 21 default, D.getD 22 default, D.getD 23 default, D.getD 24 default, D.getD 25 default, D.getD 26 default, D.getD 27 default, D.getD 28 default, D.getD 29 default,
    D.getD 30 default, D.getD 31 default, D.getD 32 default, D.getD 33 default, D.getD 34 default, D.getD 35 default, D.getD 36 default, D.getD 37 default, D.getD 38 default]) 2304 os := by kernel_rfl
theorem abs13 (w : World) (os : OsState) : (S_13 f13 w os).abs = sh (L13 w.params ++ D13) 2304 os := by
  have h := abs13' w os D13
  rw [← list39 D13 D13_len] at h
  exact h
theorem tailRun {w : World} {os : OsState} (D : List Obj) (K : Flow → Sem Fin) (H : Value → Sem Fin) (gd : Bool → Bool) (lv : List Value → List Value) (c : Code) (p : Pos) (F : Frame) (st : List Frame) :
    G w 7 (sh (L12 w.params ++ D) 2303 os) ⟨(tail13 (.ref 82)).wrap K H gd lv, c, p, F :: st⟩ = some (sh (L13 w.params ++ D) 2304 os, ⟨K .next, c, ⟨81, 0, 81, 13⟩, F :: st⟩) := by
  cases st <;> kernel_rfl
end Mine
end
end
section
open PySem PySem.W PyProof.Rows PySem.Calls PySem.Spec
set_option Elab.async false
set_option maxRecDepth 100000
namespace Mine
theorem runPre (w : World) (os : OsState) : topGo treeTable pw w 11 annE 12 ⟨boot_heap w.params, #[], boot_drawn, boot_toks, os⟩ (topStub pw) = some ((S_a w os).abs, ⟨denote treeTable cE, cE, q0, [topFrame q0]⟩) := by kernel_rfl
theorem runBlock (w : World) (os : OsState) : segRunT treeTable pw w 11 annE 1 1 (S_a w os) (blockOf bE envE cE q0 [topFrame q0]) = some (.next, S_b w os, cE, q0) := by kernel_rfl
set_option maxHeartbeats 0 in
theorem runA (w : World) (os : OsState) : segRunT treeTable pw w 11 annE 1 282 (S_b w os) (piecesOf stsA envE cE q0 [topFrame q0]) = some (.next, S_10 w os, cE, ⟨77, 0, 77, 8⟩) := by kernel_rfl
set_option maxHeartbeats 0 in
theorem run12 (w : World) (os : OsState) : segRunT treeTable pw w 11 annE 1 30 (S_11 w os) (piecesOf [stm 12] envE cE ⟨78, 0, 78, 6⟩ [topFrame q0]) = some (.next, S_12 w os, cE, ⟨79, 0, 80, 30⟩) := by kernel_rfl
set_option maxHeartbeats 0 in
theorem run14 (f : Nat → Obj) (w : World) (os : OsState) (p : Pos) : segRunT treeTable pw w 11 annE 1 371 (S_13 f w os) (piecesOf stsB envE cE p [topFrame q0]) = some (.next, S_26 f w os, cE, ⟨157, 0, 188, 45⟩) := by kernel_rfl
end Mine
end
section
open PySem PySem.W PyProof.Rows PySem.Calls PySem.Spec
set_option Elab.async false
set_option maxRecDepth 100000
namespace Mine
noncomputable def P11 (w : World) : Prop := ∀ os : OsState, segRunT treeTable pw w 11 annE 1 999 (S_10 w os) (piecesOf [stm 11] envE cE ⟨77, 0, 77, 8⟩ [topFrame q0]) = some (.next, S_11 w os, cE, ⟨78, 0, 78, 6⟩)
set_option maxHeartbeats 0 in
theorem run11' (a b : Bool) (w : World) : P11 ((w.withFollow "set-order" a).withFollow "special-get-raises" b) := by
  intro os
  show segRunT treeTable pw _ 11 annE 1 999 (S_10 _ os) (piecesOf [stm 11] envE cE ⟨77, 0, 77, 8⟩ [topFrame q0]) = some (.next, S_11 _ os, cE, ⟨78, 0, 78, 6⟩)
  rw [PySem.W.Fast.te10110043849684766642, PySem.W.Fast.te14364793385576792824]
  cases a <;> cases b <;> kernel_rfl
theorem run11 (w : World) (os : OsState) : segRunT treeTable pw w 11 annE 1 999 (S_10 w os) (piecesOf [stm 11] envE cE ⟨77, 0, 77, 8⟩ [topFrame q0]) = some (.next, S_11 w os, cE, ⟨78, 0, 78, 6⟩) :=
  byRow2 "special-get-raises" (P := P11) (byRow2 "set-order" (P := fun w => P11 (w.withFollow "special-get-raises" false)) (run11' false false) (run11' true false)) (byRow2 "set-order" (P := fun w => P11 (w.withFollow "special-get-raises" true)) (run11' false true) (run11' true true)) w os
end Mine
end
section
open PySem PySem.W PyProof.Rows PySem.Calls PySem.Spec
set_option Elab.async false
set_option maxRecDepth 100000
noncomputable section
namespace Mine
theorem run13 (w : World) (os : OsState) : ∃ p', segRun treeTable pw w 11 annE 1 12525 (S_12 w os).abs (piecesOf [stm 13] envE cE ⟨79, 0, 80, 30⟩ [topFrame q0]) = some (.next, (S_13 f13 w os).abs, cE, p') := by
  have hd := dispRun (w := w) (os := os) (tk := 353) (pos := a13.2.2.2.1) (pre := L12 w.params) (by rw [L12_len]; decide) 37 ents (by rw [ents_len]; decide) (by rw [ents_len]; decide) (by rw [ents_len]; decide) ents_rise
  rw [N13, tk13, L12_len] at hd
  have hx : StV w (1 + (1 + 12515 + 7)) (sh (L12 w.params) 353 os) (exec (stm 13) envE) (sh (L13 w.params ++ D13) 2304 os) .next := by
    rw [exec13, items13]
    refine StV.bind StV.at (StV.bind (StV.bind StV.at hd) ?_)
    exact fun K H gd lv c p F st => ⟨_, tailRun D13 K H gd lv c p F st⟩
  obtain ⟨p', h⟩ := hx (fun f => match f with | .next => (execs [] envE).wrap doneF deadEnd id id | f => doneF f) deadEnd id id cE ⟨79, 0, 80, 30⟩ (topFrame q0) []
  refine ⟨p', ?_⟩
  rw [abs12, abs13]
  have e : (execs [stm 13] envE).wrap doneF deadEnd id id = (exec (stm 13) envE).wrap (fun f => match f with | .next => (execs [] envE).wrap doneF deadEnd id id | f => doneF f) deadEnd id id := execs_cons_wrap _ _
  show segRun treeTable pw w 11 annE 1 (1 + (1 + 12515 + 7) + 1) _ ⟨(execs [stm 13] envE).wrap doneF deadEnd id id, cE, ⟨79, 0, 80, 30⟩, [topFrame q0]⟩ = _
  rw [e]
  exact seg_go h rfl
noncomputable def H₁ (P : Params) : Heap := absHeap (T_26 f13 P) 199 lifeT
theorem bE_eq : bE = stsA ++ ([stm 11] ++ ([stm 12] ++ ([stm 13] ++ (stsB ++ [])))) := by kernel_rfl
noncomputable def Mrun : Nat := 12 + (1 + (282 + (999 + (30 + (12525 + (371 + 2))))))
theorem runAll (w : World) (os : OsState) : topRun treeTable pw w 11 annE Mrun ⟨boot_heap w.params, #[], boot_drawn, boot_toks, os⟩ (topStub pw) = some ⟨H₁ w.params, #[], ⟨0, 0, 0, 0⟩, 2409, os⟩ := by
  refine go_top (runPre w os) ?_
  refine piece_block (s' := (S_b w os).abs) (segRun_of (runBlock w os)) ?_
  rw [bE_eq]
  refine piece_app (segRun_of (runA w os)) ?_
  refine piece_app (segRun_of (run11 w os)) ?_
  refine piece_app (segRun_of (run12 w os)) ?_
  obtain ⟨p', h13⟩ := run13 w os
  refine piece_app h13 ?_
  refine piece_app (segRun_of (run14 f13 w os p')) ?_
  refine piece_nil ?_
  kernel_rfl
end Mine
end
end
section
open PySem PySem.W PyProof.Rows PySem.Calls PySem.Spec
set_option Elab.async false
set_option maxRecDepth 100000
noncomputable section
namespace Mine
noncomputable def KA : List Addr := [2, 3, 20, 21, 27, 28, 34, 35, 41, 42, 48, 49, 55, 56, 62, 63, 80, 81, 126, 127, 133, 134, 140, 141, 145, 146, 152, 153, 159, 160, 166, 167, 173, 174, 180, 181, 185, 186, 192, 193, 197, 198, 71, 82]
noncomputable def KF (P : Params) : Frag 
  := (nat_lit 2, boot_o_2 P) :: (nat_lit 3, o3 P) :: (nat_lit 20, o20 P) :: (nat_lit 21, o21 P) :: (nat_lit 27, o27 P) :: (nat_lit 28, o28 P) :: (nat_lit 34, o34 P) :: (nat_lit 35, o35 P) :: (nat_lit 41, o41 P) :: (nat_lit 42, o42 P) :: (nat_lit 48, o48 P) :: (nat_lit 49, o49 P) :: (nat_lit 55, o55 P) :: (nat_lit 56, o56 P) :: (nat_lit 62, o62 P) :: (nat_lit 63, o63 P) :: (nat_lit 80, o80 P) :: (nat_lit 81, o81 P) :: (nat_lit 126, o126 P) :: (nat_lit 127, o127 P) :: (nat_lit 133, o133 P) :: (nat_lit 134, o134 P) :: (nat_lit 140, o140 P) :: (nat_lit 141, o141 P) :: (nat_lit 145, o145 P) :: (nat_lit 146, o146 P) :: (nat_lit 152, o152 P) :: (nat_lit 153, o153 P) :: (nat_lit 159, o159 P) :: (nat_lit 160, o160 P) :: (nat_lit 166, o166 P) :: (nat_lit 167, o167 P) :: (nat_lit 173, o173 P) :: (nat_lit 174, o174 P) :: (nat_lit 180, o180 P) :: (nat_lit 181, o181 P) :: (nat_lit 185, o185 P) :: (nat_lit 186, o186 P) :: (nat_lit 192, o192 P) :: (nat_lit 193, o193 P) :: (nat_lit 197, o197 P) :: (nat_lit 198, o198 P) :: (nat_lit 71, o71 P) :: (nat_lit 82, f13 (nat_lit 82)) :: []
noncomputable def qv : Program := { pw with main := { pw.main with body := [stm 26] } }
noncomputable def lsv : List Str := ["_DIV_LIMIT", "_div2n1n", "_div3n2n", "_int2digits", "_digits2int", "add_func_stats", "add_callers", "count_calls", "b1_set", "in_table_b1", "b3_exceptions", "map_table_b3", "in_table_c11", "_law_word", "_law_spelled", "_law_prepared", "_law_counted", "_law_pairings", "_law_orders", "_law_alike", "_law_arrangements", "_law_entry"]
/-- and the tables of the makers of defs and blocks, empty yet -/
noncomputable def KA2 : List Addr := KA ++ [30, 37, 51]
noncomputable def tab0 : Obj := { cls := .none, data := .fields #[] }
noncomputable def KF2 (P : Params) : Frag := KF P ++ [(nat_lit 30, tab0), (nat_lit 37, tab0), (nat_lit 51, tab0)]
noncomputable def hk : Hook := kHook KF2 KA2 (fun _ => by kernel_rfl)
noncomputable def Nall : Nat := 28530
theorem sizeA (w : World) : ((boot_heap w.params).isNs mainGlobals && (#[] : Array GenState).size == 0, (boot_heap w.params).objs.size, (boot_heap w.params).nsMap mainGlobals "__annotations__") = (true, 11, annE) := by kernel_rfl
theorem openA : ∀ w : World, (fencedOpening treeTable pw w Nall).map (fun s => (s.heap, s.gens, s.drawn, s.toks)) = some (boot_heap w.params, #[], boot_drawn, boot_toks) :=
  boot_open (p := pw) (N := Nall) (by kernel_rfl) (by kernel_rfl) (fun s => by kernel_rfl)
theorem looks1 (w : World) (os : OsState) : (staticsOk (importedModules pw.main.body) (boot_heap w.params) (H₁ w.params) && namesBound pw (H₁ w.params) && gensDone ⟨H₁ w.params, #[], ⟨0, 0, 0, 0⟩, 2409, os⟩ && laidKept (boot_heap w.params) (H₁ w.params)) = true := by kernel_rfl
theorem looks3 (w : World) (os : OsState) : hk.obs ⟨H₁ w.params, #[], ⟨0, 0, 0, 0⟩, 2409, os⟩ = hk.val w := by kernel_rfl
end Mine
end
end
section
open PySem PySem.W PyProof.Rows PySem.Calls PySem.Spec
set_option Elab.async false
set_option maxRecDepth 100000
noncomputable section
namespace Mine
theorem looks2 (w : World) (os : OsState) : openSeen qv lsv (importedModules pw.main.body) (fun _ => true) true ⟨H₁ w.params, #[], ⟨0, 0, 0, 0⟩, 2409, os⟩ = openGood qv lsv := by
  kernel_rfl
end Mine
end
end
section
open PySem PySem.W PyProof.Rows PySem.Calls PySem.Spec
set_option Elab.async false
set_option maxRecDepth 100000
noncomputable section
namespace Mine
theorem leftA : LeftO pw qv lsv (fun _ => true) hk.obs hk.val Nall := by
  refine LeftO.of_pieces openA sizeA runAll (by kernel_rfl) fun w => funext fun os => ?_
  exact looks_pair (looks1 w os) (looks_pair (looks2 w os) (looks3 w os))
theorem saidRow : PySem.Challenge.rw_xe0047_01.row.wellSaid = true := by kernel_rfl
theorem saidLaw : PySem.Challenge.rw_xe0047_01.wellSaid = true := by
  unfold OpenLaw.wellSaid
  repeat' (with_reducible refine look_both ?_ ?_)
  all_goals first | (with_reducible exact saidRow) | kernel_rfl
noncomputable def dL : DefRec := { name := "law", params := (fnO 26 3 .none .none 0).params, body := (match (fnO 26 3 .none .none 0).body with | .stmts b => b | _ => []), scope := (fnO 26 3 .none .none 0).scope, pos := (stm 26).pos }
theorem toWalk (walk : WalkO qv lsv (fun _ _ => True) hk.says (PySem.Challenge.rw_xe0047_01.row.toRowW) dL [] fun f vs => call f vs) : PySem.Challenge.rw_xe0047_01.Holds := by
  refine holds_law saidLaw fun said => ?_
  refine PySem.W.holds_open (q := qv) (loose := lsv) (Xt := fun _ => true) (XP := fun _ _ => True) (Yf := hk.obs) (Ya := hk.val) (YP := hk.says) (N := Nall) leftA hk.of hk.keeps (fun _ _ => trivial) (fun _ _ _ _ _ => trivial) (d := dL) (kwd := []) (by kernel_rfl) (by kernel_rfl) (by kernel_rfl) (fun s _ => recFacts_nil rfl) (by kernel_rfl) (by assumption) (by kernel_rfl) ⟨rfl, rfl, rfl, rfl, rfl, by decide +kernel⟩ ?_ walk
  w_witness2
end Mine
end
end
section
open PySem PySem.W PyProof.Rows PySem.Calls PySem.Spec
set_option Elab.async false
noncomputable section
namespace Mine
section
variable {M : Model} {A : Around} {E : Value → Shared → Prop} {s : Shared} {h₀ : Heap} {L a : Addr} {m : Str → Option Value} {cn : Str} {cs : Scope} {ccd : Value} {cl : List (Str × Addr)} {x : Str} {Q : Unit → Shared → Prop} {news : List (Addr × Obj)}
theorem storeX_Li {i : Int} {t₀ : Tok} (F : Fr h₀ L s.heap m) (N : News h₀ L s.heap news)
    (h : ∀ t h', Fr h₀ L h' (fun y => if y = x then some (.int i t) else m y) → News h₀ L h' news → Q () { s with heap := h', toks := s.toks + 1 })
    (hk : cs.kind = .function) (hx : (envX cn cs L a ccd cl).kindOf x = some .local) : wpAny M A (storeName (envX cn cs L a ccd cl) x (.int i t₀)) Q E s := storeX_L F N (fun h' => h t₀ h') hk hx
theorem storeX_Ls {i : Str} {t₀ : Tok} (F : Fr h₀ L s.heap m) (N : News h₀ L s.heap news)
    (h : ∀ t h', Fr h₀ L h' (fun y => if y = x then some (.str i t) else m y) → News h₀ L h' news → Q () { s with heap := h', toks := s.toks + 1 })
    (hk : cs.kind = .function) (hx : (envX cn cs L a ccd cl).kindOf x = some .local) : wpAny M A (storeName (envX cn cs L a ccd cl) x (.str i t₀)) Q E s := storeX_L F N (fun h' => h t₀ h') hk hx
end
end Mine
end
end
section
open PySem PySem.W PyProof.Rows PySem.Calls PySem.Spec
set_option Elab.async false
set_option maxRecDepth 100000
noncomputable section
namespace Mine
theorem fillK_W1 : (fun (_ : OpenLaw) (_ : Params → Frag) => True) PySem.Challenge.rw_xe0047_01 KF := by
  k_fill
  trivial

/-- the top, its words out of sight -/
inductive AnyTop (h : Heap) : Prop
  | mk (p : Program) (loose : List Str) (mean : ExcName → Option Value) (mg mb : Str → Option Value) (T : Top p loose mean mg mb h) : AnyTop h
/-- what every caller holds: the top's own objects over its base, room -/
structure Env0 (w : World) (A : Around) (h₀ : Heap) (d : Nat) : Prop where
  X : (KF w.params).In h₀
  T : AnyTop h₀
  hh : A.handled = none
  hd : A.depth + d ≤ 400
  hu : A.units + 4 * d ≤ 2000

theorem Env0.deeper {w : World} {A : Around} {h₀ h : Heap} {d : Nat} {env : Env} (x : Env0 w A h₀ (d + 1)) (k : h₀.StaysIn h) : Env0 w (A.deeper env) h d :=
  ⟨x.X.keeps k, let ⟨p, l, me, mg, mb, T⟩ := x.T; ⟨p, l, me, mg, mb, T.keeps k⟩, x.hh, by have := x.hd; show A.depth + 1 + d ≤ 400; omega, by have := x.hu; show A.units + 3 + 4 * d ≤ 2000; omega⟩
theorem Env0.less {w : World} {A : Around} {h₀ : Heap} {d : Nat} (x : Env0 w A h₀ (d + 1)) : Env0 w A h₀ d := ⟨x.X, x.T, x.hh, by have := x.hd; omega, by have := x.hu; omega⟩

theorem Fr.stay {h₀ h h' : Heap} {L : Addr} {m : Str → Option Value} (F : Fr h₀ L h m) (k : h.StaysIn h') : Fr h₀ L h' m :=
  ⟨let ⟨o, es, ep, e, r⟩ := F.ns; ⟨o, es, ep, k _ _ e, r⟩, fun b o e => k b o (F.keep b o e), F.above⟩
theorem News.stay {h₀ h h' : Heap} {L : Addr} {news : List (Addr × Obj)} (N : News h₀ L h news) (k : h.StaysIn h') : News h₀ L h' news :=
  fun p hp => ⟨k _ _ (N p hp).1, (N p hp).2⟩

/-- a def of the top, entered: nothing raised comes out -/
theorem enter {w : World} {A : Around} {s : Shared} {h₀ : Heap} {L : Addr} {m : Str → Option Value} {d : Nat} {Q E : Value → Shared → Prop} {name : Str} {params : Arguments} {body : List Stmt} {scope : Scope} {pm cd : Value} {f : Addr} {args : List Value} {binds : List (Str × Value)}
    (G : Env0 w A h₀ (d + 1)) (F : Fr h₀ L s.heap m)
    (ho : (KF w.params).lookup f = some { cls := .type "function", dict := none, data := .func (docDef name params body scope pm cd .none), slots := #[] }) (hcd : codeIn (KF w.params) cd name = true)
    (hbind : bindArgs (docDef name params body scope pm cd .none) ⟨args, []⟩ = pure binds) (hloc : (binds.all fun x => decide (scope.names.lookup x.1 = some .local)) = true)
    (h : ∀ L' h₁, Env0 w (A.deeper (envOf name scope L' f cd)) s.heap d → Fr s.heap L' h₁ (fun x => binds.reverse.lookup x) → News s.heap L' h₁ [] →
      wpAny (model pw w) (A.deeper (envOf name scope L' f cd)) (execs body (envOf name scope L' f cd)) (fun fl s' => Q (match fl with | .ret v => v | _ => .none) s') (fun _ _ => False) { s with heap := h₁, toks := s.toks + binds.length })
    (hco : scope.isCoroutine = false := by rfl) (hgen : scope.isGenerator = false := by rfl) (hk : scope.kind = .function := by rfl)
    (hcell : ∀ x ∈ scope.names, x.2 ≠ .cell := by decide) : wpAny (model pw w) A (call (.ref f) args) Q E s := by
  obtain ⟨p, l, me, mg, mb, T⟩ := G.T
  refine wpAny_call (call_plain_ret (by have := G.hd; show A.depth < 1000; omega) ((G.X.keeps F.keep) _ _ ho) rfl (T.nolimit.keeps F.keep) (codeRec_of (G.X.keeps F.keep) hcd) hbind (locs hloc) (fun h₁ F₁ => ?_) hco hgen hk hcell)
  exact wpAny_mono (h _ h₁ (G.deeper F.keep) F₁ News.nil) (fun fl s' q => q) fun _ _ e => e
section
variable {prog : Program} {w : World} {A : Around} {E : Value → Shared → Prop} {s : Shared} {env : Env} {h₀ : Heap} {x : Str} {body : List Stmt} {Q : Flow → Shared → Prop}
/-- a loop over a range, by what holds before turn i -/
theorem rangeJ {r : Addr} {a₀ b₀ : Int} {t₀ u₀ v₀ : Tok} {n : Nat} {m₀ : Str → Option Value} {news : List (Addr × Obj)} (J : Nat → (Str → Option Value) → List (Addr × Obj) → Prop)
    (hh : A.handled = none) (hr : IsRange s.heap r a₀ b₀ 1 t₀ u₀ v₀) (hsmall : Builtin.Range.small a₀ b₀ 1 = true) (hn : Builtin.Range.rangeSize a₀ b₀ 1 = (n : Int)) (F : Fr h₀ env.locals s.heap m₀) (N : News h₀ env.locals s.heap news) (hJ : J 0 m₀ news)
    (turn : ∀ i t m₁ nx h tk own, i < n → OwnOff own (news.map (·.1)) → J i m₁ nx → Fr h₀ env.locals h (fun y => if y = x then some (.int (a₀ + (i : Int)) t) else m₁ y) → News h₀ env.locals h (nx ++ own) →
      wpAny (model prog w) A (execs body env) (InvPostN h₀ env.locals (J (i + 1)) own (news.map (·.1)) { s with heap := h, toks := tk } Q) E { s with heap := h, toks := tk })
    (done : ∀ m₁ nx h tk, J n m₁ nx → Fr h₀ env.locals h m₁ → News h₀ env.locals h nx → Q .next { s with heap := h, toks := tk }) :
    wpAny (model prog w) A (pyIter (.ref r)) (fun it s₂ => LoopAtV prog w A h₀ env x body Q E it s₂) E s := by
  refine wpAny_pyIter_range hr hsmall ?_
  have W : Walks prog w A s.heap.objs.size [s.heap.objs.size] [s.heap.objs.size] n (fun i v => i < n ∧ ∃ t, v = .int (a₀ + i * 1) t)
      (fun i h => IsRangeIter h s.heap.objs.size (a₀ + (i : Nat) * 1) ((n : Int) - (i : Nat)) 1) := (Walks.range hh _ a₀ 1 n).bound
  have hI : ∀ p ∈ news, p.1 ∉ [s.heap.objs.size] := fun p hp hI => absurd (Heap.lt_size (N p hp).1) ((List.mem_singleton.mp hI) ▸ Nat.lt_irrefl _)
  refine loop_invN J W (fun hm => absurd F.ns.lt ((List.mem_singleton.mp hm) ▸ Nat.lt_irrefl _)) (fun b hb => by rw [List.mem_singleton.mp hb]; exact next_is_new F) hI hI
    (by show IsRangeIter _ _ _ _ _; rw [hn]; simpa using Heap.get?_push_size _ rfl) (F.push _) (fun p hp => ⟨Heap.get?_push_of_some _ (N p hp).1, (N p hp).2⟩) hJ ?_ ?_
  · rintro i v m₁ nx h tk own hi ⟨_, t, rfl⟩ _ ho hj F' N'
    rw [Int.mul_one] at F'
    exact turn i t m₁ nx h tk own hi ho hj F' N'
  · exact done
end
theorem range_small {a b : Int} (h1 : -1000000 ≤ a) (h2 : a ≤ 1000000) (h3 : -1000000 ≤ b) (h4 : b ≤ 1000000) : Builtin.Range.small a b 1 = true := by
  unfold Builtin.Range.small Builtin.Range.rangeFitsLong Builtin.Range.rangeSize
  simp
  (repeat' split) <;> omega
theorem range_size {a b : Int} {n : Nat} (h : b - a = n) : Builtin.Range.rangeSize a b 1 = (n : Int) := by
  unfold Builtin.Range.rangeSize
  simp
  split <;> omega
theorem range_size0 {a b : Int} (h : b ≤ a) : Builtin.Range.rangeSize a b 1 = ((0 : Nat) : Int) := by
  unfold Builtin.Range.rangeSize
  simp; omega
end Mine
end
end
section
open PySem PySem.W PyProof.Rows PySem.Calls PySem.Spec
set_option Elab.async false
set_option maxRecDepth 100000
noncomputable section
namespace Mine
theorem rules_W2 : True := by
  k_with_none
  w_top off
  k_with "storeName" => (k_here; with_reducible show wpAny _ _ (storeName _ _ (Value.int _ (Shared.toks _))) _ _ _; k_dflt (refine storeX_Li (by k_asm) (by k_asm) (fun t_kw h_kw F_kw N_kw => ?_) rfl rfl; try k_sweep))
  k_with "storeName" => (k_here; with_reducible show wpAny _ _ (storeName _ _ (Value.str _ (Shared.toks _))) _ _ _; k_dflt (refine storeX_Ls (by k_asm) (by k_asm) (fun t_kw h_kw F_kw N_kw => ?_) rfl rfl; try k_sweep))
  trivial
theorem fillK_W2 : (fun (_ : OpenLaw) (_ : Params → Frag) => True) PySem.Challenge.rw_xe0047_01 KF := by
  k_fill
  trivial
noncomputable def factI : Int → Int → Int := fun a k => a * k
set_option maxHeartbeats 4000000 in
theorem orders_spec {w : World} {A : Around} {s : Shared} {h₀ : Heap} {L : Addr} {m : Str → Option Value} {d : Nat} {Q E : Value → Shared → Prop} (n : Nat) (t : Tok) (hn : n ≤ 5)
    (G : Env0 w A h₀ (d + 1)) (F : Fr h₀ L s.heap m)
    (ret : ∀ h' tk' t', s.heap.StaysIn h' → Q (.int ((rangeKs 2 (n - 1)).foldl (· * ·) 1) t') { s with heap := h', toks := tk' }) :
    wpAny (model pw w) A (call (.ref 174) [.int n t]) Q E s := by
  refine enter (binds := [("number", .int n t)]) G F rfl rfl rfl rfl (fun L' h₁ G' F' N' => ?_)
  obtain ⟨p, l, me, mg, mb, T⟩ := G'.T
  have X := G'.X
  have hh := G'.hh
  k_steps
  rename IsRange _ _ _ _ _ _ _ _ => hR
  have hm0 : ∃ m0 : Str → Option Value, m0 = fun x => List.lookup x [((Str.ofString "number" : Str), Value.int n t)].reverse := ⟨_, rfl⟩
  obtain ⟨m0, hm0⟩ := hm0
  refine iter_rangeS (σ := Int) (n := n - 1) (fun a m' nx => nx = [] ∧ ∃ u t', m' = fun y => if y = Str.ofString "k" then u else if y = Str.ofString "product" then some (.int a t') else m0 y) (fun a k => a * k) 1 hh hR ?_ ?_ (by assumption) (by assumption) ?_ ?_ ?_
  · exact range_small (by omega) (by omega) (by omega) (by omega)
  · by_cases h : n = 0
    · subst h; exact range_size0 (by omega)
    · exact range_size (by omega)
  · refine ⟨rfl, m0 (Str.ofString "k"), ?tk0, ?_⟩
    rotate_left
    subst hm0
    funext y
    by_cases h1 : y = Str.ofString "k"
    · subst h1; rfl
    · simp only [if_neg h1]; rfl
  · intro k t a m₁ nx h tk own hk ho hr' F2 N2
    obtain ⟨rfl, u, t', rfl⟩ := hr'
    have hkb := mem_rangeKs hk
    k_steps
    refine ⟨_, _, _, _, [], rfl, by assumption, by assumption, by simp, by simp, rfl, rfl, some (.int k t), ?_, ?_⟩
    rotate_left
    funext y
    by_cases h1 : y = Str.ofString "k"
    · subst h1; rfl
    by_cases h2 : y = Str.ofString "product"
    · subst h2; rfl
    simp only [if_neg h1, if_neg h2]
  · intro m₁ nx h tk hr' F2 N2
    obtain ⟨rfl, u, t', rfl⟩ := hr'
    k_steps
    exact ret _ _ _ (Fr.keep (by assumption))
end Mine
end
end
section
open PySem PySem.W PyProof.Rows PySem.Calls PySem.Spec
set_option Elab.async false
set_option maxRecDepth 100000
noncomputable section
namespace Mine
theorem rules_W3 : True := by
  k_with_none
  w_top off
  k_with "storeName" => (k_here; with_reducible show wpAny _ _ (storeName _ _ (Value.int _ (Shared.toks _))) _ _ _; k_dflt (refine storeX_Li (by k_asm) (by k_asm) (fun t_kw h_kw F_kw N_kw => ?_) rfl rfl; try k_sweep))
  k_with "storeName" => (k_here; with_reducible show wpAny _ _ (storeName _ _ (Value.str _ (Shared.toks _))) _ _ _; k_dflt (refine storeX_Ls (by k_asm) (by k_asm) (fun t_kw h_kw F_kw N_kw => ?_) rfl rfl; try k_sweep))
  trivial
theorem fillK_W3 : (fun (_ : OpenLaw) (_ : Params → Frag) => True) PySem.Challenge.rw_xe0047_01 KF := by
  k_fill
  trivial
/-- the letters by number: f, i, l -/
noncomputable def fil (n : Nat) : Nat := match n % 3 with | 0 => 102 | 1 => 105 | _ => 108
noncomputable def wordL : Nat → Nat → List Nat
  | _, 0 => []
  | n, k + 1 => fil n :: wordL (n / 3) k
noncomputable def ST (l : List Nat) : Str := ⟨l.toArray⟩
theorem ST_len (l : List Nat) : (ST l).length = l.length := by simp [ST, Str.length]
theorem wordL_len : ∀ (n k : Nat), (wordL n k).length = k
  | _, 0 => rfl
  | n, k + 1 => by simp [wordL, wordL_len (n / 3) k]
theorem ST_app (l r : List Nat) : ST l ++ ST r = ST (l ++ r) := by
  show Str.mk (l.toArray ++ r.toArray) = Str.mk (l ++ r).toArray
  rw [List.append_toArray]
theorem wordL_snoc : ∀ (k n : Nat), wordL n (k + 1) = wordL n k ++ [fil (n / 3 ^ k)]
  | 0, n => by simp [wordL]
  | k + 1, n => by
    rw [wordL, wordL_snoc k (n / 3), wordL, List.cons_append, Nat.div_div_eq_div_mul, Nat.pow_succ, Nat.mul_comm]
theorem fil_item (M : Nat) : Txt.item (Str.ofString "fil") ((M : Int).fmod 3) = ST [fil M] := by
  have e : (M : Int).fmod 3 = ((M % 3 : Nat) : Int) := by rw [Int.fmod_eq_emod_of_nonneg _ (by omega)]; omega
  rw [e, item_meets ⟨by omega, by show _ < ((3 : Nat) : Int); omega⟩]
  have h : M % 3 = 0 ∨ M % 3 = 1 ∨ M % 3 = 2 := by omega
  unfold fil
  rcases h with h | h | h <;> rw [h] <;> rfl
set_option maxHeartbeats 4000000 in
theorem word_spec {w : World} {A : Around} {s : Shared} {h₀ : Heap} {L : Addr} {m : Str → Option Value} {d : Nat} {Q E : Value → Shared → Prop} (n k : Nat) (t u : Tok) (hn : n < 243) (hk : k ≤ 5)
    (G : Env0 w A h₀ (d + 1)) (F : Fr h₀ L s.heap m)
    (ret : ∀ h' tk' t', s.heap.StaysIn h' → Q (.str (ST (wordL n k)) t') { s with heap := h', toks := tk' }) :
    wpAny (model pw w) A (call (.ref 141) [.int n t, .int k u]) Q E s := by
  refine enter (binds := [("number", .int n t), ("size", .int k u)]) G F rfl rfl rfl rfl (fun L' h₁ G' F' N' => ?_)
  obtain ⟨p, l, me, mg, mb, T⟩ := G'.T
  have X := G'.X
  have hh := G'.hh
  k_steps
  rename IsRange _ _ _ _ _ _ _ _ => hR
  have hm0 : ∃ m0 : Str → Option Value, m0 = fun x => List.lookup x [((Str.ofString "number" : Str), Value.int n t), ("size", .int k u)].reverse := ⟨_, rfl⟩
  obtain ⟨m0, hm0⟩ := hm0
  refine rangeJ (n := k) (fun i m' nx => nx = [] ∧ ∃ u t1 t2, m' = fun y => if y = Str.ofString "place" then u else if y = Str.ofString "word" then some (.str (ST (wordL n i)) t1) else if y = Str.ofString "number" then some (.int ((n / 3 ^ i : Nat) : Int) t2) else m0 y)
    hh hR (range_small (by omega) (by omega) (by omega) (by omega)) (range_size (by omega)) (by assumption) (by assumption) ?_ ?_ ?_
  · refine ⟨rfl, m0 (Str.ofString "place"), ?tk0, t, ?_⟩
    rotate_left
    subst hm0
    funext y
    by_cases h1 : y = Str.ofString "place"
    · subst h1; rfl
    by_cases h2 : y = Str.ofString "word"
    · subst h2; rfl
    by_cases h3 : y = Str.ofString "number"
    · subst h3; simp; rfl
    simp only [if_neg h1, if_neg h2, if_neg h3]
  · intro i t m₁ nx h tk own hi ho hr' F2 N2
    obtain ⟨rfl, u, t1, t2, rfl⟩ := hr'
    have hl : (ST (wordL n i)).length ≤ 5 := by rw [ST_len, wordL_len]; omega
    generalize hW : ST (wordL n i) = W at F2 hl
    generalize hM : n / 3 ^ i = M at F2
    k_steps
    have e1 : W ++ Txt.item (Str.ofString "fil") ((M : Int).fmod 3) = ST (wordL n (i + 1)) := by rw [← hW, ← hM, fil_item, ST_app, wordL_snoc]
    have e2 : (M : Int).fdiv 3 = ((n / 3 ^ (i + 1) : Nat) : Int) := by
      rw [Int.fdiv_eq_ediv_of_nonneg _ (by omega), Nat.pow_succ, ← Nat.div_div_eq_div_mul, hM]; omega
    refine ⟨_, _, _, _, [], rfl, by assumption, by assumption, by simp, by simp, rfl, rfl, some (.int (0 + (i : Int)) t), ?_, ?_, ?_⟩
    rotate_left 2
    funext y
    by_cases h1 : y = Str.ofString "place"
    · subst h1; rfl
    by_cases h2 : y = Str.ofString "word"
    · subst h2; rw [← e1]; rfl
    by_cases h3 : y = Str.ofString "number"
    · subst h3; rw [← e2]; rfl
    simp only [if_neg h1, if_neg h2, if_neg h3]
  · intro m₁ nx h tk hr' F2 N2
    obtain ⟨rfl, u, t1, t2, rfl⟩ := hr'
    k_steps
    exact ret _ _ _ (Fr.keep (by assumption))
end Mine
end
end
section
open PySem PySem.W PyProof.Rows PySem.Calls PySem.Spec
set_option Elab.async false
set_option maxRecDepth 100000
set_option profiler true
set_option profiler.threshold 800
noncomputable section
namespace Mine
noncomputable def es82 : Array DictEntry := match (f13 82).data with | .dict es _ => es | _ => #[]
noncomputable def ep82 : Nat := match (f13 82).data with | .dict _ ep => ep | _ => 0
noncomputable def es71 : Array (Int × Value) := #[(65024, PySem.Value.int 65024 302), (65025, PySem.Value.int 65025 303), (65026, PySem.Value.int 65026 304),
      (65027, PySem.Value.int 65027 305), (65028, PySem.Value.int 65028 306), (65029, PySem.Value.int 65029 307),
      (6150, PySem.Value.int 6150 288), (65030, PySem.Value.int 65030 308), (65031, PySem.Value.int 65031 309),
      (65032, PySem.Value.int 65032 310), (65033, PySem.Value.int 65033 311), (6155, PySem.Value.int 6155 289),
      (6156, PySem.Value.int 6156 290), (6157, PySem.Value.int 6157 291), (8203, PySem.Value.int 8203 292),
      (8204, PySem.Value.int 8204 293), (8205, PySem.Value.int 8205 294), (65034, PySem.Value.int 65034 312),
      (65035, PySem.Value.int 65035 313), (65036, PySem.Value.int 65036 314), (65037, PySem.Value.int 65037 315),
      (65038, PySem.Value.int 65038 316), (65039, PySem.Value.int 65039 317), (173, PySem.Value.int 173 286),
      (847, PySem.Value.int 847 287), (8288, PySem.Value.int 8288 295), (65279, PySem.Value.int 65279 296)]
theorem o82_eq : f13 82 = ⟨.type "dict", none, .dict es82 ep82, #[]⟩ := by kernel_rfl
theorem o71_eq (P : Params) : o71 P = ⟨.type "set", none, .set es71 29 (PySem.SetTable.mk 127 #[0, 1, 2, 3, 4, 5, 6, 7, 8, 9, 10, 11, 12, 13, 14, 15, 16, 17, 18, 19, 20, 21, 22, 45, 79, 96, 127] #[] 0
      (!(P.followText "set-order")) 2 Bool.true), #[]⟩ := by kernel_rfl
theorem keys82 : es82.toList.all (fun e => match e.key with | .int k _ => e.hash == hashInt k | _ => false) = true := by kernel_rfl
theorem elems71 : es71.toList.all (fun e => match e.2 with | .int k _ => e.1 == hashInt k | _ => false) = true := by kernel_rfl
/-- what a sign is read as -/
noncomputable def b3L (c : Nat) : List Nat :=
  if c = 102 ∨ c = 70 ∨ c = 8497 ∨ c = 119813 then [102] else if c = 105 ∨ c = 73 ∨ c = 8464 ∨ c = 8465 ∨ c = 119816 then [105] else if c = 108 ∨ c = 76 ∨ c = 8466 ∨ c = 119819 then [108]
  else if c = 64256 then [102, 102] else if c = 64257 then [102, 105] else if c = 64258 then [102, 108] else if c = 64259 then [102, 102, 105] else if c = 64260 then [102, 102, 108] else []
noncomputable def signC : List Nat := [102, 70, 8497, 119813, 105, 73, 8464, 8465, 119816, 108, 76, 8466, 119819, 64256, 64257, 64258, 64259, 64260]
noncomputable def unseenC : List Nat := [173, 847, 8203, 8288, 65024, 65039, 65279]
noncomputable def keyN (e : DictEntry) : Nat := match e.key with | .int (.ofNat k) _ => k | _ => 0
noncomputable def findN (c : Nat) : List DictEntry → Option Value
  | [] => none
  | e :: r => match Nat.beq c (keyN e) with | true => some e.val | false => findN c r
theorem isN82 : es82.toList.all (fun e => match e.key with | .int (.ofNat _) _ => true | _ => false) = true := by kernel_rfl
theorem findN_eq (c : Nat) : ∀ l : List DictEntry, l.all (fun e => match e.key with | .int (.ofNat _) _ => true | _ => false) = true → (l.find? fun e => Value.isInt (c : Int) e.key).map (·.val) = findN c l
  | [], _ => rfl
  | e :: r, h => by
    rw [List.all_cons, Bool.and_eq_true] at h
    have ih := findN_eq c r h.2
    have he : Value.isInt (c : Int) e.key = Nat.beq c (keyN e) := by
      have h1 := h.1
      unfold keyN
      split at h1
      · rename_i k t hk
        rw [hk]
        show _ = Nat.beq c k
        simp only [Value.isInt]
        cases hb : Nat.beq c k with
        | true => rw [Nat.eq_of_beq_eq_true hb]; simp
        | false => have := Nat.ne_of_beq_eq_false hb; simp; intro q; omega
      · cases h1
    rw [List.find?_cons, he, findN]
    cases Nat.beq c (keyN e)
    · exact ih
    · rfl
theorem findN82 : signC.all (fun c => match findN c es82.toList with
    | none => c == 102 || c == 70 || c == 105 || c == 73 || c == 108 || c == 76
    | some (.str x _) => x.cps.toList == b3L c
    | _ => false) = true := by kernel_rfl
theorem findBy82 (c : Nat) : findBy Value.isInt es82 (c : Int) = findN c es82.toList := by
  rw [← findN_eq c _ isN82]
  unfold findBy
  rw [Array.find?_toList]
theorem find82 (c : Nat) (hc : c ∈ signC) : (findBy Value.isInt es82 (c : Int) = none ∧ (c = 102 ∨ c = 70 ∨ c = 105 ∨ c = 73 ∨ c = 108 ∨ c = 76)) ∨ ∃ x t, findBy Value.isInt es82 (c : Int) = some (.str x t) ∧ x = ⟨(b3L c).toArray⟩ := by
  have h := List.all_eq_true.mp findN82 c hc
  rw [findBy82]
  cases hf : findN c es82.toList with
  | none => rw [hf] at h; left; simp at h; exact ⟨rfl, by omega⟩
  | some v =>
    rw [hf] at h
    cases v with
    | str x t => right; exact ⟨x, t, rfl, by have h1 := eq_of_beq h; rw [← h1]⟩
    | _ => exact absurd h (by simp)
theorem in71 : unseenC.all (fun c => es71.toList.any fun e => Value.isInt (c : Int) e.2) = true := by kernel_rfl
theorem notin71 : (32 :: signC).all (fun c => !(es71.toList.any fun e => Value.isInt (c : Int) e.2)) = true := by kernel_rfl
theorem map82 {w : World} {prog : Program} {h : Heap} (X : (KF w.params).In h) : h.MapOf (intKind prog w) 82 (findBy Value.isInt es82) := by
  refine ⟨_, es82, ep82, (X 82 (f13 82) rfl).trans (congrArg some o82_eq), ⟨rfl, rfl, rfl⟩, rfl, fun e he => ?_, fun k => rfl⟩
  have h1 := List.all_eq_true.mp keys82 e (Array.mem_toList_iff.mpr he)
  cases hk : e.key with
  | int k t => rw [hk] at h1; exact ⟨k, by show Value.isInt k (.int k t) = true; simp [Value.isInt], eq_of_beq h1⟩
  | _ => rw [hk] at h1; exact absurd h1 (by simp)
theorem set71 {w : World} {prog : Program} {h : Heap} (X : (KF w.params).In h) : h.SetOf (intKind prog w) 71 (fun k => es71.toList.any fun e => Value.isInt k e.2) 27 := by
  refine ⟨_, es71, 29, _, (X 71 (o71 w.params) rfl).trans (congrArg some (o71_eq _)), ⟨rfl, rfl, rfl⟩, rfl, fun e he => ?_, fun k => ?_, by decide, by kernel_rfl, rfl⟩
  · have h1 := List.all_eq_true.mp elems71 e he
    cases hk : e.2 with
    | int k t => rw [hk] at h1; exact ⟨⟨k, by show Value.isInt k (.int k t) = true; simp [Value.isInt], eq_of_beq h1⟩, rfl⟩
    | _ => rw [hk] at h1; exact absurd h1 (by simp)
  · exact List.any_eq_true
end Mine
end
end
section
open PySem PySem.W PyProof.Rows PySem.Calls PySem.Spec
set_option Elab.async false
set_option maxRecDepth 100000
noncomputable section
namespace Mine
theorem rules_W4 : True := by
  k_with_none
  w_top off
  k_with "storeName" => (k_here; with_reducible show wpAny _ _ (storeName _ _ (Value.int _ (Shared.toks _))) _ _ _; k_dflt (refine storeX_Li (by k_asm) (by k_asm) (fun t_kw h_kw F_kw N_kw => ?_) rfl rfl; try k_sweep))
  k_with "storeName" => (k_here; with_reducible show wpAny _ _ (storeName _ _ (Value.str _ (Shared.toks _))) _ _ _; k_dflt (refine storeX_Ls (by k_asm) (by k_asm) (fun t_kw h_kw F_kw N_kw => ?_) rfl rfl; try k_sweep))
  trivial
theorem fillK_W4 : (fun (_ : OpenLaw) (_ : Params → Frag) => True) PySem.Challenge.rw_xe0047_01 KF := by
  k_fill
  trivial
theorem ST_one_eq (c : Nat) : (ST [c] == Str.ofString " ") = (c == 32) := by
  by_cases h : c = 32
  · subst h; rfl
  · have : ST [c] ≠ Str.ofString " " := fun e => h (by have h2 : [c] = [32] := congrArg (fun s : Str => s.cps.toList) e; exact (List.cons.inj h2).1)
    rw [beq_eq_false_iff_ne.mpr this, beq_eq_false_iff_ne.mpr h]
set_option maxHeartbeats 4000000 in
theorem c11_spec {w : World} {A : Around} {s : Shared} {h₀ : Heap} {L : Addr} {m : Str → Option Value} {d : Nat} {Q E : Value → Shared → Prop} (c : Nat) (t : Tok)
    (G : Env0 w A h₀ (d + 1)) (F : Fr h₀ L s.heap m)
    (ret : ∀ h' tk', s.heap.StaysIn h' → Q (.bool (c == 32)) { s with heap := h', toks := tk' }) :
    wpAny (model pw w) A (call (.ref 134) [.str (ST [c]) t]) Q E s := by
  refine enter (binds := [("code", .str (ST [c]) t)]) G F rfl rfl rfl rfl (fun L' h₁ G' F' N' => ?_)
  obtain ⟨p, l, me, mg, mb, T⟩ := G'.T
  have X := G'.X
  have hh := G'.hh
  k_steps
  rw [ST_one_eq]
  exact ret _ _ (Fr.keep (by assumption))
set_option maxHeartbeats 4000000 in
theorem b1_spec {w : World} {A : Around} {s : Shared} {h₀ : Heap} {L : Addr} {m : Str → Option Value} {d : Nat} {Q E : Value → Shared → Prop} (c : Nat) (t : Tok)
    (G : Env0 w A h₀ (d + 1)) (F : Fr h₀ L s.heap m)
    (ret : ∀ h' tk', s.heap.StaysIn h' → Q (.bool (es71.toList.any fun e => Value.isInt (c : Int) e.2)) { s with heap := h', toks := tk' }) :
    wpAny (model pw w) A (call (.ref 81) [.str (ST [c]) t]) Q E s := by
  refine enter (binds := [("code", .str (ST [c]) t)]) G F rfl rfl rfl rfl (fun L' h₁ G' F' N' => ?_)
  obtain ⟨p, l, me, mg, mb, T⟩ := G'.T
  have X := G'.X
  have hh := G'.hh
  k_steps
  refine wpAny_inSet_of (intKind_is _ _ _ _) rfl (set71 (X.keeps (Fr.keep (by assumption)))) ?_
  k_steps
  exact ret _ _ (Fr.keep (by assumption))
set_option maxHeartbeats 4000000 in
theorem b3_spec {w : World} {A : Around} {s : Shared} {h₀ : Heap} {L : Addr} {m : Str → Option Value} {d : Nat} {Q E : Value → Shared → Prop} (c : Nat) (t : Tok) (hc : c ∈ signC)
    (G : Env0 w A h₀ (d + 1)) (F : Fr h₀ L s.heap m)
    (ret : ∀ h' tk' t', s.heap.StaysIn h' → Q (.str (ST (b3L c)) t') { s with heap := h', toks := tk' }) :
    wpAny (model pw w) A (call (.ref 127) [.str (ST [c]) t]) Q E s := by
  refine enter (binds := [("code", .str (ST [c]) t)]) G F rfl rfl rfl rfl (fun L' h₁ G' F' N' => ?_)
  obtain ⟨p, l, me, mg, mb, T⟩ := G'.T
  have X := G'.X
  have hh := G'.hh
  have hm : ∀ h, s.heap.StaysIn h → h.MapOf (intKind pw w) 82 (findBy Value.isInt es82) := fun h k => map82 (X.keeps k)
  k_steps
  have hm1 := hm _ (Fr.keep (by assumption))
  refine getMethod_builtin hm1.typeIs PySem.F.plainAttrs_dict PySem.F.slot_dict_get PySem.F.type_dict_get hm1.noDict ?_
  k_steps
  refine call_meetsIn PySem.F.slot_dict_get hm1.typeIs PySem.F.entry_dict_get (PySem.F.args_dict_get_2 _ _) (meets_dict_get (intKind pw w) 82 (intKind_is _ _ _ _) rfl) ⟨_, hm1, ?_⟩
  rcases find82 c hc with ⟨h1, h2⟩ | ⟨x, tx, h1, h2⟩
  · rw [h1]
    dsimp only [Option.getD]
    k_steps
    have hlow : Txt.lower (ST [c]) = ST (b3L c) := by
      rcases h2 with rfl | rfl | rfl | rfl | rfl | rfl <;> refine (lower_ascii fun c hc => ?_).trans (by simp [ST, b3L, lo1]) <;> rw [show c = _ from List.mem_singleton.mp hc] <;> decide
    refine SCL.lower (by show (1 : Nat) ≤ _; omega) (fun _ => ?_)
    rw [hlow]
    k_steps
    exact ret _ _ _ (Fr.keep (by assumption))
  · rw [h1]
    dsimp only [Option.getD]
    k_steps
    subst h2
    exact ret _ _ _ (Fr.keep (by assumption))
end Mine
end
end
section
open PySem PySem.W PyProof.Rows PySem.Calls PySem.Spec
set_option Elab.async false
set_option maxRecDepth 100000
noncomputable section
namespace Mine
section
variable {prog : Program} {w : World} {A : Around} {E : Value → Shared → Prop} {s : Shared} {env : Env} {h₀ : Heap} {x : Str} {body : List Stmt} {Q : Flow → Shared → Prop}
/-- a loop over the signs of a text -/
theorem strJ {l : List Nat} {t₀ : Tok} {m₀ : Str → Option Value} {news : List (Addr × Obj)} (J : Nat → (Str → Option Value) → List (Addr × Obj) → Prop)
    (hh : A.handled = none) (F : Fr h₀ env.locals s.heap m₀) (N : News h₀ env.locals s.heap news) (hJ : J 0 m₀ news)
    (turn : ∀ i c t m₁ nx h tk own, l[i]? = some c → OwnOff own (news.map (·.1)) → nx.map (·.1) = news.map (·.1) → J i m₁ nx → Fr h₀ env.locals h (fun y => if y = x then some (.str (ST [c]) t) else m₁ y) → News h₀ env.locals h (nx ++ own) →
      wpAny (model prog w) A (execs body env) (InvPostN h₀ env.locals (J (i + 1)) own (news.map (·.1)) { s with heap := h, toks := tk } Q) E { s with heap := h, toks := tk })
    (done : ∀ m₁ nx h tk, J l.length m₁ nx → Fr h₀ env.locals h m₁ → News h₀ env.locals h nx → Q .next { s with heap := h, toks := tk }) :
    wpAny (model prog w) A (pyIter (.str (ST l) t₀)) (fun it s₂ => LoopAtV prog w A h₀ env x body Q E it s₂) E s := by
  refine wpAny_pyIter_str fun o St W hst => ?_
  have hI : ∀ p ∈ news, p.1 ∉ [s.heap.objs.size] := fun p hp hI => absurd (Heap.lt_size (N p hp).1) ((List.mem_singleton.mp hI) ▸ Nat.lt_irrefl _)
  refine loop_invN J (W A hh) (fun hm => absurd F.ns.lt ((List.mem_singleton.mp hm) ▸ Nat.lt_irrefl _)) (fun b hb => by rw [List.mem_singleton.mp hb]; exact next_is_new F) hI hI
    hst (F.push _) (fun p hp => ⟨Heap.get?_push_of_some _ (N p hp).1, (N p hp).2⟩) hJ ?_ ?_
  · rintro i v m₁ nx h tk own hi ⟨c, u, hc, rfl⟩ ha ho hj F' N'
    exact turn i c u m₁ nx h tk own (by simpa [ST] using hc) ho ha hj F' N'
  · intro m₁ nx h tk hj F' N'
    have e : (ST l).cps.size = l.length := by simp [ST]
    rw [e] at hj
    exact done m₁ nx h tk hj F' N'
end
theorem inv_end {h₀ h' : Heap} {L : Addr} {J : (Str → Option Value) → List (Addr × Obj) → Prop} {own nx : List (Addr × Obj)} {adr : List Addr} {s₁ : Shared} {tk : Nat} {m' : Str → Option Value}
    (F : Fr h₀ L h' m') (N : News h₀ L h' (nx ++ own)) (ha : nx.map (·.1) = adr) (hJ : J m' nx) : InvEndN h₀ L J own adr s₁ { s₁ with heap := h', toks := tk } :=
  ⟨h', tk, m', nx ++ own, nx, rfl, F, N, fun _ hp => List.mem_append_left own hp, fun _ hp => List.mem_append_right nx hp, ha, hJ⟩
/-- two lists, item by item -/
inductive All2 {α β : Type} (R : α → β → Prop) : List α → List β → Prop
  | nil : All2 R [] []
  | cons {a b l r} : R a b → All2 R l r → All2 R (a :: l) (b :: r)
theorem All2.length {α β : Type} {R : α → β → Prop} {l : List α} {r : List β} (h : All2 R l r) : l.length = r.length := by
  induction h with
  | nil => rfl
  | cons _ _ ih => exact congrArg (· + 1) ih
theorem All2.app {α β : Type} {R : α → β → Prop} {l l' : List α} {r r' : List β} (h : All2 R l r) (h' : All2 R l' r') : All2 R (l ++ l') (r ++ r') := by
  induction h with
  | nil => exact h'
  | cons a _ ih => exact .cons a ih
theorem All2.get {α β : Type} {R : α → β → Prop} {l : List α} {r : List β} {i : Nat} {b : β} (h : All2 R l r) (e : r[i]? = some b) : ∃ a, l[i]? = some a ∧ R a b := by
  induction h generalizing i with
  | nil => cases e
  | cons a _ ih => cases i with
    | zero => cases e; exact ⟨_, rfl, a⟩
    | succ i => exact ih e
/-- a value is this text -/
noncomputable def SV (v : Value) (x : List Nat) : Prop := ∃ t, v = .str (ST x) t
/-- a value is this number -/
noncomputable def IV (v : Value) (x : Int) : Prop := ∃ t, v = .int x t
theorem ki_setL_last (vs : List Value) (v v' : Value) : ki_setL (vs ++ [v]) vs.length v' = some (vs ++ [v']) := by
  induction vs with
  | nil => rfl
  | cons a r ih => show (match ki_setL (r ++ [v]) r.length v' with | some q => some (a :: q) | none => none) = _; rw [ih]; rfl
end Mine
namespace Mine
/-- a def of the top with cells, entered: nothing raised comes out -/
theorem enterC {w : World} {A : Around} {s : Shared} {h₀ : Heap} {L : Addr} {m : Str → Option Value} {d : Nat} {Q E : Value → Shared → Prop} {name : Str} {params : Arguments} {body : List Stmt} {scope : Scope} {pm cd : Value} {f : Addr} {args : List Value} {binds : List (Str × Value)}
    (G : Env0 w A h₀ (d + 1)) (F : Fr h₀ L s.heap m)
    (ho : (KF w.params).lookup f = some { cls := .type "function", dict := none, data := .func (docDef name params body scope pm cd .none), slots := #[] }) (hcd : codeIn (KF w.params) cd name = true)
    (hbind : bindArgs (docDef name params body scope pm cd .none) ⟨args, []⟩ = pure binds) (hkind : (binds.all fun y => scope.names.lookup y.1 == some .local || scope.names.lookup y.1 == some .cell) = true)
    (hnd : ((cellsFrom 0 scope.names []).map (·.1)).Nodup)
    (h : ∀ L' h₁ tk cells, Env0 w (A.deeper (envOfC name scope L' f cd)) s.heap d → Fr s.heap L' h₁ (bindL (envOfC name scope L' f cd).kindOf binds fun _ => none) → News s.heap L' h₁ cells →
      CellsAre (bindC (envOfC name scope L' f cd).kindOf binds fun _ => none) (cellsFrom (L' + 1) scope.names []) cells →
      wpAny (model pw w) (A.deeper (envOfC name scope L' f cd)) (execs body (envOfC name scope L' f cd)) (fun fl s' => Q (match fl with | .ret v => v | _ => .none) s') (fun _ _ => False) { s with heap := h₁, toks := tk })
    (hco : scope.isCoroutine = false := by rfl) (hgen : scope.isGenerator = false := by rfl) (hk : scope.kind = .function := by rfl) : wpAny (model pw w) A (call (.ref f) args) Q E s := by
  obtain ⟨p, l, me, mg, mb, T⟩ := G.T
  refine wpAny_call (call_cellsN_ret (by have := G.hd; show A.depth < 1000; omega) ((G.X.keeps F.keep) _ _ ho) rfl (T.nolimit.keeps F.keep) (codeRec_of (G.X.keeps F.keep) hcd) hbind (kindsX hkind _) hnd (fun h₁ tk cells F₁ N₁ Y => ?_) hco hgen hk)
  exact wpAny_mono (h _ h₁ tk cells (G.deeper F.keep) F₁ N₁ Y) (fun fl s' q => q) fun _ _ e => e
end Mine
end
end
section
open PySem PySem.W PyProof.Rows PySem.Calls PySem.Spec
set_option Elab.async false
set_option maxRecDepth 100000
noncomputable section
namespace Mine
theorem rules_W5 : True := by
  k_with_none
  w_top off
  k_with "storeName" => (k_here; with_reducible show wpAny _ _ (storeName _ _ (Value.int _ (Shared.toks _))) _ _ _; k_dflt (refine storeX_Li (by k_asm) (by k_asm) (fun t_kw h_kw F_kw N_kw => ?_) rfl rfl; try k_sweep))
  k_with "storeName" => (k_here; with_reducible show wpAny _ _ (storeName _ _ (Value.str _ (Shared.toks _))) _ _ _; k_dflt (refine storeX_Ls (by k_asm) (by k_asm) (fun t_kw h_kw F_kw N_kw => ?_) rfl rfl; try k_sweep))
  trivial
theorem fillK_W5 : (fun (_ : OpenLaw) (_ : Params → Frag) => True) PySem.Challenge.rw_xe0047_01 KF := by
  k_fill
  trivial
noncomputable def b1L (c : Nat) : Bool := es71.toList.any fun e => Value.isInt (c : Int) e.2
noncomputable def prepStep (p : List (List Nat) × List Nat) (c : Nat) : List (List Nat) × List Nat :=
  if (c == 32) = true then (p.1 ++ [p.2], []) else if b1L c = true then p else (p.1, p.2 ++ b3L c)
noncomputable def prepL (l : List Nat) : List (List Nat) × List Nat := l.foldl prepStep ([], [])
theorem b3L_len (c : Nat) : (b3L c).length ≤ 3 := by unfold b3L; (repeat' split) <;> simp
theorem prep_len : ∀ (l : List Nat) (p : List (List Nat) × List Nat), (l.foldl prepStep p).2.length ≤ p.2.length + 3 * l.length ∧ (l.foldl prepStep p).1.length ≤ p.1.length + l.length
  | [], p => by simp
  | c :: r, p => by
    have h := prep_len r (prepStep p c)
    have h1 : (prepStep p c).2.length ≤ p.2.length + 3 ∧ (prepStep p c).1.length ≤ p.1.length + 1 := by
      unfold prepStep
      have := b3L_len c
      split
      · simp
      · split
        · simp
        · simp; omega
    rw [List.foldl_cons, List.length_cons]; omega
theorem take_succ_of {l : List Nat} {i c : Nat} (h : l[i]? = some c) : l.take (i + 1) = l.take i ++ [c] := by rw [List.take_add_one, h]; rfl
theorem prep_next {l : List Nat} {i c : Nat} (h : l[i]? = some c) : prepL (l.take (i + 1)) = prepStep (prepL (l.take i)) c := by
  unfold prepL; rw [take_succ_of h, List.foldl_append]; rfl
/-- what holds before each turn -/
inductive PrepJ (l : List Nat) (wl : Addr) (m0 : Str → Option Value) (i : Nat) (m' : Str → Option Value) (nx : List (Addr × Obj)) : Prop
  | mk (vs : List Value) (v : Value) (n : Nat) (u : Option Value) (enx : nx = [(wl, W.listOf (vs ++ [v]).toArray n)]) (hvs : All2 SV vs (prepL (l.take i)).1) (hv : SV v (prepL (l.take i)).2) (em : m' = fun y => if y = Str.ofString "sign" then u else if y = Str.ofString "words" then some (.ref wl) else m0 y) : PrepJ l wl m0 i m' nx
set_option maxHeartbeats 8000000 in
theorem prepared_spec {w : World} {A : Around} {s : Shared} {h₀ : Heap} {L : Addr} {m : Str → Option Value} {d : Nat} {Q E : Value → Shared → Prop} (l : List Nat) (t : Tok)
    (hl : ∀ c ∈ l, c = 32 ∨ b1L c = true ∨ c ∈ signC) (hz : l.length ≤ 1000)
    (G : Env0 w A h₀ (d + 2)) (F : Fr h₀ L s.heap m)
    (ret : ∀ h' tk' a vs n, s.heap.get? a = none → s.heap.StaysIn h' → h'.get? a = some (W.listOf vs.toArray n) → All2 SV vs ((prepL l).1 ++ [(prepL l).2]) → Q (.ref a) { s with heap := h', toks := tk' }) :
    wpAny (model pw w) A (call (.ref 153) [.str (ST l) t]) Q E s := by
  refine enter (binds := [("line", .str (ST l) t)]) G F rfl rfl rfl rfl (fun L' h₁ G' F' N' => ?_)
  obtain ⟨p, lo, me, mg, mb, T⟩ := G'.T
  have X := G'.X
  have hh := G'.hh
  k_steps
  rename_i wl _ _ _ _ _
  refine For_invVF (by assumption) rfl rfl ?_
  k_steps
  have hm0 : ∃ m0 : Str → Option Value, m0 = fun x => List.lookup x [((Str.ofString "line" : Str), Value.str (ST l) t)].reverse := ⟨_, rfl⟩
  obtain ⟨m0, hm0⟩ := hm0
  refine strJ (PrepJ l wl m0)
    hh (by assumption) (by assumption) ?_ ?_ ?_
  · refine ⟨[], _, _, m0 (Str.ofString "sign"), rfl, .nil, ⟨_, rfl⟩, ?_⟩
    subst hm0
    funext y
    by_cases h1 : y = Str.ofString "sign"
    · subst h1; rfl
    · simp only [if_neg h1]
  · rintro i c t m₁ nx h tk own hi ho ha ⟨vs, v, n, u, rfl, hvs, ⟨tv, rfl⟩, rfl⟩ F2 N2
    have hc := hl c (List.mem_of_getElem? hi)
    have hilt : i < l.length := (List.getElem?_eq_some_iff.mp hi).1
    have hpl := prep_len (l.take i) ([], [])
    rw [List.length_take, Nat.min_eq_left (Nat.le_of_lt hilt)] at hpl
    have hnx := prep_next hi
    generalize hP : prepL (l.take i) = P at *
    have hP1 : P.1.length ≤ 1000 ∧ P.2.length ≤ 3000 := by
      have e : List.foldl prepStep ([], []) (l.take i) = P := hP
      rw [e] at hpl
      simp at hpl; omega
    have hvl := hvs.length
    k_steps
    refine c11_spec c t G' F2 ?_
    intro h2 tk2 k2
    replace F2 := Fr.stay F2 k2
    replace N2 := News.stay N2 k2
    clear k2
    cases hc32 : c == 32 with
    | true =>
      k_steps
      rename News _ _ _ _ => N4
      rename Fr _ _ _ _ => F4
      rw [List.push_toArray] at N4
      refine inv_end (nx := [(wl, _)]) F4 N4 rfl ⟨vs ++ [_], _, _, some (.str (ST [c]) t), rfl, ?_, ?_, ?_⟩
      · rw [hnx]; unfold prepStep; rw [if_pos hc32]; exact hvs.app (.cons ⟨_, rfl⟩ .nil)
      · rw [hnx]; unfold prepStep; rw [if_pos hc32]; exact ⟨_, rfl⟩
      · funext y
        by_cases h1 : y = Str.ofString "sign"
        · subst h1; rfl
        · simp only [if_neg h1]
    | false =>
      k_steps
      refine b1_spec c t G' F2 ?_
      intro h3 tk3 k3
      replace F2 := Fr.stay F2 k3
      replace N2 := News.stay N2 k3
      clear k3
      cases hb1 : (es71.toList.any fun e => Value.isInt (c : Int) e.2) with
      | true =>
        k_steps
        rename Fr _ _ _ _ => F4
        refine inv_end (nx := [(wl, _)]) F4 N2 rfl ⟨vs, _, _, some (.str (ST [c]) t), rfl, ?_, ?_, ?_⟩
        · rw [hnx]; unfold prepStep; rw [if_neg (by rw [hc32]; simp), if_pos (show b1L c = true from hb1)]; exact hvs
        · rw [hnx]; unfold prepStep; rw [if_neg (by rw [hc32]; simp), if_pos (show b1L c = true from hb1)]; exact ⟨_, rfl⟩
        · funext y
          by_cases h1 : y = Str.ofString "sign"
          · subst h1; rfl
          · simp only [if_neg h1]
      | false =>
        have hcs : c ∈ signC := by
          rcases hc with rfl | hc | hc
          · cases hc32
          · exact absurd hc (by show ¬ b1L c = true; rw [show b1L c = false from hb1]; simp)
          · exact hc
        k_steps
        have hL : Heap.IsList h3 wl (vs ++ [Value.str (ST P.2) tv]).toArray := News.isList N2 (.head _)
        refine tail_any hL.typeIs slot_list_getitem.lookup (wpAny_getItem_list_neg hL (by decide) (by simp; omega) (by decide) (x := Value.str (ST P.2) tv) ?_ ?_) (by with_unfolding_all rfl)
        · rw [show ((-1 : Int) + (((vs ++ [Value.str (ST P.2) tv]).toArray.size : Nat) : Int)).toNat = vs.length by simp; omega]
          simp
        k_steps
        refine b3_spec c t hcs G' F2 ?_
        intro h4 tk4 t4 k4
        replace F2 := Fr.stay F2 k4
        replace N2 := News.stay N2 k4
        clear k4
        have hl1 : (ST P.2).length ≤ 3000 := by rw [ST_len]; exact hP1.2
        have hl2 : (ST (b3L c)).length ≤ 3 := by rw [ST_len]; exact b3L_len c
        have e1 : ST P.2 ++ ST (b3L c) = ST (P.2 ++ b3L c) := ST_app _ _
        k_steps
        rename Fr _ _ _ _ => F4
        refine ki_setNeg (j := vs.length) (q := vs ++ [.str (ST P.2 ++ ST (b3L c)) _]) F4 N2 (by decide) (by decide) (by rw [seqIndex_neg (by decide) (by simp; omega)]; simp; omega) (by simpa using ki_setL_last _ _ _) (.head ?_) ?_
        · exact fun p hp => ho p hp _ (.head _)
        intro h5 F5 N5
        k_steps
        refine inv_end (nx := [(wl, _)]) F5 N5 rfl ⟨vs, _, _, some (.str (ST [c]) t), rfl, ?_, ?_, ?_⟩
        · rw [hnx]; unfold prepStep; rw [if_neg (by rw [hc32]; simp), if_neg (by show ¬ b1L c = true; rw [show b1L c = false from hb1]; simp)]; exact hvs
        · rw [hnx]; unfold prepStep; rw [if_neg (by rw [hc32]; simp), if_neg (by show ¬ b1L c = true; rw [show b1L c = false from hb1]; simp)]; rw [e1]; exact ⟨_, rfl⟩
        · funext y
          by_cases h1 : y = Str.ofString "sign"
          · subst h1; rfl
          · simp only [if_neg h1]
  · rintro m₁ nx h tk ⟨vs, v, n, u, rfl, hvs, hv, rfl⟩ F2 N2
    k_steps
    rename Fr _ _ _ _ => F4
    have hz1 := N2 _ (.head _)
    rw [List.take_length] at hvs hv
    exact ret _ _ wl (vs ++ [v]) n hz1.2.2 (Fr.keep F4) hz1.1 (hvs.app (.cons hv .nil))
end Mine
end
end
section
open PySem PySem.W PyProof.Rows PySem.Calls PySem.Spec
set_option Elab.async false
set_option maxRecDepth 100000
noncomputable section
namespace Mine
section
variable {prog : Program} {w : World} {A : Around} {E : Value → Shared → Prop} {s : Shared} {g : Heap} {C : Addr}
/-- what holds before turn i of a machine's loop -/
inductive AtJ (g : Heap) (C : Addr) (fp : List Addr) (n : Nat) (St : Nat → Heap → Prop) (J : Nat → (Str → Option Value) → List (Addr × Obj) → Prop) (s : Shared) (k : Nat) (s' : Shared) : Prop
  | mk (h' : Heap) (tk : Nat) (m' : Str → Option Value) (nx : List (Addr × Obj)) (i : Nat) (e : s' = { s with heap := h', toks := tk }) (hst : St i h') (F : Fr g C h' m') (N : News g C h' nx) (hn : ∀ p ∈ nx, p.1 ∉ fp) (hj : J i m' nx) (hi : i ≤ n) (hk : k = n + 1 - i) : AtJ g C fp n St J s k s'
/-- a loop of the machine over an iterator, by what holds before turn i of the frame and the ledger -/
theorem walkJ {It : Addr} {fp wr : List Addr} {n : Nat} {P : Nat → Value → Prop} {St : Nat → Heap → Prop} {m₀ : Str → Option Value} {news : List (Addr × Obj)} {E₀ : Value → Shared → Prop}
    {BODY : Value → (Shared → Prop) → Shared → Prop} {CONCL : Prop} {R₀ : Shared → Prop} (J : Nat → (Str → Option Value) → List (Addr × Obj) → Prop)
    (W : Walks prog w A It fp wr n P St) (hCf : C ∉ fp) (hwr : ∀ b ∈ wr, g.get? b = none) (hfp : ∀ q ∈ news, q.1 ∉ fp) (hst : St 0 s.heap) (F : Fr g C s.heap m₀) (N : News g C s.heap news) (hJ : J 0 m₀ news)
    (mach : ∀ I : Nat → Shared → Prop, (∀ n s', I n s' → wpAny (model prog w) A (pyNext (.ref It)) (fun r s₁ => match r with
      | none => R₀ s₁
      | some v => BODY v (fun s₅ => ∃ m, m < n ∧ I m s₅) s₁) E₀ s') → ∀ n, I n s → CONCL)
    (turn : ∀ i v m₁ nx h tk own (K : Shared → Prop), i < n → P i v → (∀ p ∈ own, p.1 ∈ fp) → (∀ b ∈ fp, g.get? b = none → ∀ o, h.get? b = some o → (b, o) ∈ own) → (∀ p ∈ nx, p.1 ∉ fp) → J i m₁ nx → Fr g C h m₁ → News g C h (nx ++ own) → St (i + 1) h →
      (∀ h' tk' m' nx', Fr g C h' m' → News g C h' (nx' ++ own) → (∀ p ∈ nx', p.1 ∉ fp) → J (i + 1) m' nx' → K { s with heap := h', toks := tk' }) → BODY v K { s with heap := h, toks := tk })
    (done : ∀ m₁ nx h tk, J n m₁ nx → Fr g C h m₁ → News g C h nx → (∀ p ∈ nx, p.1 ∉ fp) → R₀ { s with heap := h, toks := tk }) : CONCL := by
  have hLw : C ∉ wr := fun h => hCf (W.sub _ h)
  have old : ∀ b o, g.get? b = some o → b ∉ wr := fun b o e hb => by rw [hwr b hb] at e; cases e
  refine mach (AtJ g C fp n St J s) ?_ (n + 1)
    ⟨s.heap, s.toks, m₀, news, 0, rfl, hst, F, N, hfp, hJ, Nat.zero_le _, rfl⟩
  rintro k s' ⟨h', tk, m', nx, i, rfl, hst', F', N', hnf, hJ', hi, rfl⟩
  have next : ∀ h₁ : Heap, (∀ b o, b ∉ wr → h'.get? b = some o → h₁.get? b = some o) → Fr g C h₁ m' ∧ News g C h₁ nx := fun h₁ hk₁ =>
    ⟨⟨F'.ns.at' fun o e => hk₁ _ o hLw e, fun b o e => hk₁ b o (old b o e) (F'.keep b o e), F'.above⟩, fun p hp => ⟨hk₁ _ _ (fun q => hnf p hp (W.sub _ q)) (N' p hp).1, (N' p hp).2⟩⟩
  by_cases hlt : i < n
  · refine W.item i _ _ _ hlt hst' fun v h₁ tk₁ hP hst₁ hk₁ => ?_
    obtain ⟨F₁, N₁⟩ := next h₁ hk₁
    have Nown : News g C h₁ (ownOf g fp h₁) := news_ownOf hCf
    refine turn i v m' nx h₁ tk₁ (ownOf g fp h₁) _ hlt hP ownOf_sub (fun b hb hn o e => mem_ownOf hb hn e) hnf hJ' F₁ (N₁.append Nown) hst₁ fun h₂ tk₂ m₂ nx₂ F₂ N₂ hn₂ hJ₂ => ?_
    refine ⟨n + 1 - (i + 1), by omega, h₂, tk₂, m₂, nx₂, i + 1, rfl, ?_, F₂, fun p hp => N₂ p (List.mem_append_left _ hp), hn₂, hJ₂, hlt, rfl⟩
    refine W.frame _ _ _ hst₁ fun b hb o e => ?_
    cases hn : g.get? b with
    | some o₀ =>
      have : o₀ = o := by have := F₁.keep b o₀ hn; rw [e] at this; exact (Option.some.inj this).symm
      exact this ▸ F₂.keep b o₀ hn
    | none => exact (N₂ _ (List.mem_append_right _ (mem_ownOf hb hn e))).1
  · have hin : i = n := by omega
    subst hin
    refine W.done _ _ _ hst' fun h₁ tk₁ hk₁ => ?_
    obtain ⟨F₁, N₁⟩ := next h₁ hk₁
    exact done m' nx h₁ tk₁ hJ' F₁ N₁ hnf
end
/-- the objects of a block's ledger, as the block's maker sees them -/
theorem News.join {h₀ h₁ h : Heap} {L C : Addr} {m : Str → Option Value} {nx news : List (Addr × Obj)} (F : Fr h₀ L h₁ m) (N : News h₀ L h₁ news) (X : News h₁ C h nx) (k : h₁.StaysIn h) : News h₀ L h (nx ++ news) := fun p hp => by
  rcases List.mem_append.mp hp with hp | hp
  · refine ⟨(X p hp).1, fun q => ?_, ?_⟩
    · obtain ⟨o, _, _, e, _⟩ := F.ns
      have := (X p hp).2.2
      rw [q, e] at this; cases this
    · cases e : h₀.get? p.1 with
      | none => rfl
      | some o => have := (X p hp).2.2; rw [F.keep _ _ e] at this; cases this
  · exact ⟨k _ _ (N p hp).1, (N p hp).2⟩
noncomputable def compEnd (prog : Program) (w : World) (A : Around) (D : Addr) (elt : Expr) (ifs : List Expr) (cenv : Env) (E' : Value → Shared → Prop) (K : Shared → Prop) (s : Shared) : Prop :=
  wpAny (model prog w) A (forIn ifs true fun c r => if r = true then do let ok ← isTrue c cenv (eval c cenv); pure (ForInStep.yield ok) else pure (ForInStep.yield r))
    (fun ok s₃ => if ok = true then wpAny (model prog w) A (eval elt cenv) (fun y s₄ => wpAny (model prog w) A (call (.builtin "list.append") [.ref D, y]) (fun _ s₅ => K s₅) E' s₄) E' s₃ else K s₃) E' s
section
variable {prog : Program} {w : World} {A : Around} {E : Value → Shared → Prop} {s : Shared} {env : Env}
/-- what holds before each turn of a block, once its two new objects are known -/
inductive CompJIn (prog : Program) (w : World) (A : Around) (g : Heap) (elt : Expr) (x : Str) (ifs : List Expr) (scope : Scope) (cl : List (Str × Addr)) (env : Env) (R : Addr → Addr → Shared → Prop) (s₂ : Shared) (fp : List Addr) (n : Nat) (P : Nat → Value → Prop) (D C : Addr) (St : Nat → Heap → Prop) : Prop
  | mk (J : Nat → (Str → Option Value) → List (Addr × Obj) → Prop) (h0 : J 0 (fun _ => none) [(D, PySem.W.listOf #[] 0)])
      (turn : ∀ i v m₁ nx h tk own (K : Shared → Prop) E', i < n → P i v → (∀ p ∈ own, p.1 ∈ fp) → (∀ b ∈ fp, g.get? b = none → ∀ o, h.get? b = some o → (b, o) ∈ own) → (∀ p ∈ nx, p.1 ∉ fp) → J i m₁ nx → Fr g C h (fun y => if y = x then some v else m₁ y) → News g C h (nx ++ own) → St (i + 1) h →
        (∀ h' tk' m' nx', Fr g C h' m' → News g C h' (nx' ++ own) → (∀ p ∈ nx', p.1 ∉ fp) → J (i + 1) m' nx' → K { s₂ with heap := h', toks := tk' }) → compEnd prog w A D elt ifs (compEnvC scope cl C env) E' K { s₂ with heap := h, toks := tk })
      (done : ∀ m₁ nx h tk, J n m₁ nx → Fr g C h m₁ → News g C h nx → R D C { s₂ with heap := h, toks := tk }) : CompJIn prog w A g elt x ifs scope cl env R s₂ fp n P D C St
inductive CompJ (prog : Program) (w : World) (A : Around) (g : Heap) (elt : Expr) (x : Str) (ifs : List Expr) (scope : Scope) (cl : List (Str × Addr)) (env : Env) (R : Addr → Addr → Shared → Prop) (it : Value) (s₂ : Shared) : Prop
  | mk (I : Addr) (fp : List Addr) (n : Nat) (P : Nat → Value → Prop) (St : Nat → Heap → Prop) (e : it = .ref I) (f0 : Walks prog w A I fp [I] n P St) (f1 : St 0 s₂.heap) (f2 : ∀ b ∈ fp, b < s₂.heap.objs.size) (f3 : ∀ b o, g.get? b = some o → s₂.heap.get? b = some o) (f4 : g.objs.size ≤ s₂.heap.objs.size) (f5 : g.get? I = none)
      (go : ∀ D C, D ∉ fp → C ∉ fp → g.get? D = none → D ≠ C → g.get? C = none → CompJIn prog w A g elt x ifs scope cl env R s₂ fp n P D C St) : CompJ prog w A g elt x ifs scope cl env R it s₂
/-- what a block hands on: its list to what stands around it, or to a local name -/
noncomputable def EvalR (Q : Value → Shared → Prop) (D C : Addr) (s' : Shared) : Prop := ∃ m, s'.heap.Ns C m ∧ ∀ h', Heap.SameBut C s'.heap h' → Q (.ref D) { s' with heap := h' }
noncomputable def AssignR (prog : Program) (w : World) (A : Around) (E : Value → Shared → Prop) (env : Env) (y : Str) (py : Pos) (Q : Flow → Shared → Prop) (D C : Addr) (s' : Shared) : Prop :=
  wpAny (model prog w) A (assign (.Name y py) env (.ref D)) (fun _ s'' => ∃ m, s''.heap.Ns C m ∧ ∀ h', Heap.SameBut C s''.heap h' → Q .next { s'' with heap := h' }) E s'
theorem compBlock {elt iter : Expr} {x : Str} {px : Pos} {ifs : List Expr} {scope : Scope} {cl : List (Str × Addr)} {pos : Pos} {g : Heap} {it : Value} {s₂ : Shared} {R : Addr → Addr → Shared → Prop} {RR : Value → Addr → Result → Shared → Prop}
    (hcell : ∀ y ∈ scope.names, y.2 ≠ .cell) (hkind : scope.kind = .function) (hx : scope.names.lookup x = some .local)
    (h₂ : CompJ prog w A g elt x ifs scope cl env R it s₂) (hRR : ∀ D C s', R D C s' → RR (.ref D) C (.ok .next) s') :
    wpAny (model prog w) A (newList []) (fun acc s₃ => wpAny (model prog w) A (newFunctionEnv scope env.globals cl [] env.qual none .none (some env)) (fun cenv s₄ =>
      codeAny (model prog w) A (.compStart (.ListComp elt [⟨.Name x px, iter, ifs, 0⟩] scope pos) 0 it acc { cenv with scope := relabel scope env }) (RR acc cenv.locals) s₄) E s₃) E s₂ := by
  obtain ⟨I, fp, n, P, St, rfl, W, hst, hfp, hg, hgs, hI, h₂⟩ := h₂
  refine wpAny_newObj_type (wpAny_newFunctionEnv hcell (by intro y hy; simp at hy) (fun h₁ hns₁ hsb₁ => ?_) hkind)
  dsimp only at hns₁ hsb₁ ⊢
  generalize hH2 : s₂.heap.push { cls := .type "list", dict := none, data := .seq ([] : List Value).toArray } = H2 at hns₁ hsb₁ ⊢
  have hC : H2.objs.size = s₂.heap.objs.size + 1 := by rw [← hH2, Heap.size_push]
  have hDC : s₂.heap.objs.size ≠ H2.objs.size := by rw [hC]; exact Nat.ne_of_lt (Nat.lt_succ_self _)
  have below : ∀ b, b < s₂.heap.objs.size → b ≠ H2.objs.size ∧ b ≠ s₂.heap.objs.size := fun b hb => ⟨by rw [hC]; exact Nat.ne_of_lt (Nat.lt_succ_of_lt hb), Nat.ne_of_lt hb⟩
  have hDf : s₂.heap.objs.size ∉ fp := fun hm => Nat.lt_irrefl _ (hfp _ hm)
  have hCf : H2.objs.size ∉ fp := fun hm => by have := hfp _ hm; rw [hC] at this; exact Nat.lt_irrefl _ (Nat.lt_of_succ_lt this)
  have old : ∀ b o, s₂.heap.get? b = some o → h₁.get? b = some o := fun b o e => hsb₁.extBut b o (below b (Heap.lt_size e)).1 (Heap.get?_push_of_some _ (hH2 ▸ Heap.get?_push_of_some _ e))
  have hacc : h₁.get? s₂.heap.objs.size = some (PySem.W.listOf #[] 0) := hsb₁.extBut _ _ hDC (Heap.get?_push_of_some _ (hH2 ▸ Heap.get?_push_size _ rfl))
  have hst₁ : St 0 h₁ := W.frame _ _ _ hst fun b _ o e => old b o e
  have fresh : ∀ a, s₂.heap.objs.size ≤ a → g.get? a = none := fun a ha => Heap.get?_none_of_le (Nat.le_trans hgs ha)
  obtain ⟨J, hJ, turn, done⟩ := h₂ s₂.heap.objs.size H2.objs.size hDf hCf (fresh _ (Nat.le_refl _)) hDC (fresh _ (by rw [hC]; exact Nat.le_succ _))
  have F₁ : Fr g H2.objs.size h₁ (fun _ => none) := ⟨hns₁, fun b o e => old b o (hg b o e), by rw [hC]; exact Nat.le_succ_of_le hgs⟩
  have N₁ : News g H2.objs.size h₁ [(s₂.heap.objs.size, PySem.W.listOf #[] 0)] := fun p hp => by rw [List.mem_singleton.mp hp]; exact ⟨hacc, hDC, fresh _ (Nat.le_refl _)⟩
  have loop : ∀ s₃ : Shared, s₃ = { s₂ with heap := h₁, toks := s₂.toks + ([] : List (Str × Value)).length } →
      codeAny (model prog w) A (.compLoop (.ListComp elt [⟨.Name x px, iter, ifs, 0⟩] scope pos) 0 (.ref I) (.ref s₂.heap.objs.size) (compEnvC scope cl H2.objs.size env))
        (RR (.ref s₂.heap.objs.size) H2.objs.size) s₃ := by
    rintro s₃ rfl
    refine walkJ (s := { s₂ with heap := h₁, toks := s₂.toks + ([] : List (Str × Value)).length }) (g := g) (C := H2.objs.size)
      (E₀ := notedBy (model prog w) A (compEnvC scope cl H2.objs.size env) fun e s' => RR (.ref s₂.heap.objs.size) H2.objs.size (.error e) s')
      (R₀ := fun s' => RR (.ref s₂.heap.objs.size) H2.objs.size (.ok .next) s')
      (BODY := fun v K s₁ => wpAny (model prog w) A (assign (.Name x px) (compEnvC scope cl H2.objs.size env) v) (fun _ s₂' => compEnd prog w A s₂.heap.objs.size elt ifs (compEnvC scope cl H2.objs.size env) (notedBy (model prog w) A (compEnvC scope cl H2.objs.size env) fun e s' => RR (.ref s₂.heap.objs.size) H2.objs.size (.error e) s') K s₂') (notedBy (model prog w) A (compEnvC scope cl H2.objs.size env) fun e s' => RR (.ref s₂.heap.objs.size) H2.objs.size (.error e) s') s₁)
      J W hCf (fun b hb => by rw [List.mem_singleton.mp hb]; exact hI) (fun q hq => by rw [List.mem_singleton.mp hq]; exact hDf) hst₁ F₁ N₁ hJ
      (fun I turn n h => codeAny_compLoop_tests I turn n h) (fun i v m₁ nx h tk own K hi hP ho hown hn hJ' F' N' hst' hK => ?_) (fun m₁ nx h tk hJ' F' N' hn => hRR _ _ _ (done m₁ nx h tk hJ' F' N'))
    refine wpAny_assign_Name (wpAny_storeName_local (lookup_relabel_local hx) F'.ns (fun h₃ hn₃ hs₃ => ?_) (by simp [compEnvC, relabel, hkind]))
    exact turn i v m₁ nx h₃ _ own K _ hi hP ho (fun b hb hn' o e => hown b hb hn' o ((hs₃.2 b fun q => hCf (by rw [show b = H2.objs.size from q] at hb; exact hb)).symm.trans e)) hn hJ' (F'.set hn₃ hs₃) (N'.set hs₃) (W.frame _ _ _ hst' fun b hb o e => (hs₃.2 b fun q => hCf (by rw [show b = H2.objs.size from q] at hb; exact hb)).trans e) hK
  exact codeAny_compStart_list (loop _ rfl) (W.self 0 _ _ _ hst₁ (loop _ rfl))
/-- a list block of one clause that has no cells of its own, by what holds before each turn -/
theorem listCompJ {elt iter : Expr} {x : Str} {px : Pos} {ifs : List Expr} {scope : Scope} {cl : List (Str × Addr)} {pos : Pos} {Q : Value → Shared → Prop}
    (hclos : closureFor scope env = pure cl) (hcell : ∀ y ∈ scope.names, y.2 ≠ .cell) (hkind : scope.kind = .function)
    (hnames : ∀ y ∈ scope.names, y.2 = .local → scope.names.lookup y.1 = some .local) (hx : scope.names.lookup x = some .local)
    (h : wpAny (model prog w) A (eval iter env) (fun xv s₁ => wpAny (model prog w) A (pyIter xv) (fun it s₂ => CompJ prog w A s₁.heap elt x ifs scope cl env (EvalR Q) it s₂) E s₁) E s)
    (hs : ∀ x, foldedSetIterable iter env x = pure x := by intro _; rfl) :
    wpAny (model prog w) A (eval (.ListComp elt [⟨.Name x px, iter, ifs, 0⟩] scope pos) env) Q E s := by
  rw [eval_ListComp]
  refine wpAny_comprehension_free (use := none) rfl hs hclos hkind hnames (wpAny_mono h (fun xv s₁ h₁ => wpAny_mono h₁ (fun it s₂ h₂ => ?_) fun _ _ e => e) fun _ _ e => e)
  exact compBlock (RR := fun acc C => compPost (model prog w) A E none Q acc C) hcell hkind hx h₂ fun D C s' h => h
/-- the same, put into a local name -/
theorem assignListCompJ {elt iter : Expr} {x y : Str} {px py : Pos} {ifs : List Expr} {scope : Scope} {cl : List (Str × Addr)} {pos spos : Pos} {Q : Flow → Shared → Prop}
    (hsw : swapsWith (.ListComp elt [⟨.Name x px, iter, ifs, 0⟩] scope pos) (some (.Name y py)) spos.line env = pure true)
    (hclos : closureFor scope env = pure cl) (hcell : ∀ y ∈ scope.names, y.2 ≠ .cell) (hkind : scope.kind = .function)
    (hnames : ∀ y ∈ scope.names, y.2 = .local → scope.names.lookup y.1 = some .local) (hx : scope.names.lookup x = some .local)
    (h : wpAny (model prog w) A (eval iter env) (fun xv s₁ => wpAny (model prog w) A (pyIter xv) (fun it s₂ => CompJ prog w A s₁.heap elt x ifs scope cl env (AssignR prog w A E env y py Q) it s₂) E s₁) E s)
    (hs : ∀ x, foldedSetIterable iter env x = pure x := by intro _; rfl) :
    wpAny (model prog w) A (exec (.Assign [.Name y py] (.ListComp elt [⟨.Name x px, iter, ifs, 0⟩] scope pos) spos) env) Q E s := by
  rw [exec_Assign_Name_used _ _ _ _ hsw]
  refine wpAny_bind (wpAny_standAt (wpAny_bind ?_))
  show wpAny _ A (do let _ ← comprehension (.ListComp elt [⟨.Name x px, iter, ifs, 0⟩] scope pos) scope env _ (newList []) false (eval iter env) (some (assign (.Name y py) env))) _ _ s
  refine wpAny_bind (wpAny_mono (wpAny_comprehension_free (use := some (assign (.Name y py) env)) (Q := fun _ s' => Q .next s') rfl hs hclos hkind hnames
    (wpAny_mono h (fun xv s₁ h₁ => wpAny_mono h₁ (fun it s₂ h₂ => ?_) fun _ _ e => e) fun _ _ e => e)) (fun _ s' hq => wpAny_pure (wpAny_pure hq)) fun _ _ e => e)
  exact compBlock (RR := fun acc C => compPost (model prog w) A E (some (assign (.Name y py) env)) (fun _ s' => Q .next s') acc C) hcell hkind hx h₂ fun D C s' h => h
/-- the end of a block whose list goes on -/
theorem compDone {g : Heap} {D C : Addr} {Q : Value → Shared → Prop} {m₁ : Str → Option Value} {nx : List (Addr × Obj)} {h : Heap} {tk : Nat} (F : Fr g C h m₁) (N : News g C h nx)
    (q : ∀ h', News g C h' nx → g.StaysIn h' → Q (.ref D) { s with heap := h', toks := tk }) : EvalR Q D C { s with heap := h, toks := tk } :=
  ⟨m₁, F.ns, fun h' hs => q h' (N.set hs) fun b o e => (hs.2 b fun q => by rw [q, Heap.get?_none_of_le F.above] at e; cases e).trans (F.keep b o e)⟩
/-- the end of a block whose list is put into a local name -/
theorem compDoneA {g h₀ : Heap} {D C : Addr} {y : Str} {py : Pos} {m : Str → Option Value} {Q : Flow → Shared → Prop} {m₁ : Str → Option Value} {nx news : List (Addr × Obj)} {h : Heap} {tk : Nat} (F : Fr g C h m₁) (N : News g C h nx) (F₀ : Fr h₀ env.locals g m) (N₀ : News h₀ env.locals g news)
    (hy : env.kindOf y = some .local) (hp : (env.scope.kind == .class || (env.scope.kind == .module && env.locals != env.globals)) = false)
    (q : ∀ h' tk', Fr h₀ env.locals h' (fun z => if z = y then some (.ref D) else m z) → News h₀ env.locals h' (nx ++ news) → Q .next { s with heap := h', toks := tk' }) :
    AssignR prog w A E env y py Q D C { s with heap := h, toks := tk } := by
  unfold AssignR
  have k : g.StaysIn h := F.keep
  have N₁ := News.join F₀ N₀ N k
  have F₁ := Fr.stay F₀ k
  have hLC : env.locals ≠ C := fun e => by obtain ⟨o, _, _, e1, _⟩ := F₀.ns; rw [e, Heap.get?_none_of_le F.above] at e1; cases e1
  have hC₀ : h₀.get? C = none := by
    cases e : h₀.get? C with
    | none => rfl
    | some o => have := F₀.keep _ _ e; rw [Heap.get?_none_of_le F.above] at this; cases this
  refine wpAny_assign_Name (wpAny_storeName_local hy F₁.ns (fun h₂ hn₂ hs₂ => ?_) hp)
  refine ⟨m₁, F.ns.sameBut hs₂ (Ne.symm hLC), fun h' hs' => ?_⟩
  have F₂ := F₁.set hn₂ hs₂
  have N₂ := N₁.set hs₂
  refine q h' _ (F₂.change hs' (Ne.symm hLC) hC₀) fun p hp => ⟨(hs'.2 _ fun e => ?_).trans (N₂ p hp).1, (N₂ p hp).2⟩
  rcases List.mem_append.mp hp with hp | hp
  · exact (N p hp).2.1 e
  · have := (N₀ p hp).1
    rw [e, Heap.get?_none_of_le F.above] at this; cases this
/-- the iterator's own entry, written out -/
theorem own_one {g h : Heap} {C I : Addr} {oI : Obj} {own nx : List (Addr × Obj)} (hI : h.get? I = some oI) (h1 : ∀ p ∈ own, p.1 = I) (h2 : (I, oI) ∈ own) (N : News g C h (nx ++ own)) : News g C h (nx ++ [(I, oI)]) ∧ ∀ p ∈ own, p = (I, oI) := by
  refine ⟨fun p hp => ?_, fun p hp => ?_⟩
  · rcases List.mem_append.mp hp with hp | hp
    · exact N p (List.mem_append_left _ hp)
    · rw [List.mem_singleton.mp hp]; exact N _ (List.mem_append_right _ h2)
  · obtain ⟨b, o⟩ := p
    have e := h1 _ hp
    have e2 := (N _ (List.mem_append_right _ hp)).1
    cases e
    rw [hI] at e2
    cases e2; rfl
theorem comp_src {elt : Expr} {x : Str} {ifs : List Expr} {scope : Scope} {cl : List (Str × Addr)} {R : Addr → Addr → Shared → Prop} {n : Nat} {fp : List Addr} {P : Nat → Value → Prop} {St : Nat → Heap → Prop} {s₂ : Shared} {o₂ : Obj} (h2 : s₂ = { s with heap := s.heap.push o₂ })
    (W : Walks prog w A s.heap.objs.size fp [s.heap.objs.size] n P St) (hfp : ∀ b ∈ fp, b = s.heap.objs.size ∨ (s.heap.get? b).isSome) (hI : ∀ i h, St i h → ∃ o, h.get? s.heap.objs.size = some o) (hst : St 0 s₂.heap)
    (J : Addr → Nat → (Str → Option Value) → List (Addr × Obj) → Prop) (h0 : ∀ D, J D 0 (fun _ => none) [(D, PySem.W.listOf #[] 0)])
    (turn : ∀ D C I i v m₁ nx h tk oI (K : Shared → Prop) E', i < n → P i v → (@Ne Nat D I) → (∀ p ∈ nx, @Ne Nat p.1 I) → J D i m₁ nx → Fr s.heap C h (fun y => if y = x then some v else m₁ y) → News s.heap C h (nx ++ [(I, oI)]) →
        (∀ h' tk' m' nx', Fr s.heap C h' m' → News s.heap C h' (nx' ++ [(I, oI)]) → (∀ p ∈ nx', @Ne Nat p.1 I) → J D (i + 1) m' nx' → K { s with heap := h', toks := tk' }) → compEnd prog w A D elt ifs (compEnvC scope cl C env) E' K { s with heap := h, toks := tk })
    (done : ∀ D C m₁ nx h tk, J D n m₁ nx → Fr s.heap C h m₁ → News s.heap C h nx → R D C { s with heap := h, toks := tk }) :
    CompJ prog w A s.heap elt x ifs scope cl env R (.ref s.heap.objs.size) s₂ := by
  subst h2
  have hIf : s.heap.objs.size ∈ fp := W.sub _ (List.mem_singleton.mpr rfl)
  refine ⟨_, fp, n, P, St, rfl, W, hst, ?_, fun b o e => Heap.get?_push_of_some _ e, ?_, Heap.get?_none_of_le (Nat.le_refl _), fun D C hD hC _ _ _ => ⟨J D, h0 D, ?_, ?_⟩⟩
  · intro b hb
    show b < (s.heap.push _).objs.size
    rw [Heap.size_push]
    rcases hfp b hb with rfl | hb
    · exact Nat.lt_succ_self _
    · obtain ⟨o, e⟩ := Option.isSome_iff_exists.mp hb
      exact Nat.lt_succ_of_lt (Heap.lt_size e)
  · show _ ≤ (s.heap.push _).objs.size
    rw [Heap.size_push]; exact Nat.le_succ _
  · intro i v m₁ nx h tk own K E' hi hP ho hown hn hJ F N hst' hK
    have own1 : ∀ p ∈ own, p.1 = s.heap.objs.size := fun p hp => by
      rcases hfp _ (ho p hp) with e | e
      · exact e
      · rw [(N p (List.mem_append_right _ hp)).2.2] at e; cases e
    obtain ⟨oI, hoI⟩ := hI _ _ hst'
    have hm := hown _ hIf (Heap.get?_none_of_le (Nat.le_refl _)) _ hoI
    obtain ⟨N1, o1⟩ := own_one hoI own1 hm N
    refine turn D C s.heap.objs.size i v m₁ nx h tk oI K E' hi hP (fun q => hD (q ▸ hIf)) (fun p hp e => hn p hp (e ▸ hIf)) hJ F N1 fun h' tk' m' nx' F' N' hn' hJ' => ?_
    refine hK h' tk' m' nx' F' (fun p hp => ?_) (fun p hp hq => ?_) hJ'
    · rcases List.mem_append.mp hp with hp | hp
      · exact N' p (List.mem_append_left _ hp)
      · rw [o1 p hp]; exact N' _ (List.mem_append_right _ (.head _))
    · rcases hfp _ hq with e | e
      · exact hn' p hp e
      · rw [(N' p (List.mem_append_left _ hp)).2.2] at e; cases e
  · exact fun m₁ nx h tk hJ F N => done D C m₁ nx h tk hJ F N
theorem comp_list {elt : Expr} {x : Str} {ifs : List Expr} {scope : Scope} {cl : List (Str × Addr)} {R : Addr → Addr → Shared → Prop} {l : Addr} {items : Array Value} (hh : A.handled = none) (hl : s.heap.IsList l items)
    (J : Addr → Nat → (Str → Option Value) → List (Addr × Obj) → Prop) (h0 : ∀ D, J D 0 (fun _ => none) [(D, PySem.W.listOf #[] 0)])
    (turn : ∀ D C I i v m₁ nx h tk oI (K : Shared → Prop) E', i < items.size → items[i]? = some v → (@Ne Nat D I) → (∀ p ∈ nx, @Ne Nat p.1 I) → J D i m₁ nx → Fr s.heap C h (fun y => if y = x then some v else m₁ y) → News s.heap C h (nx ++ [(I, oI)]) →
        (∀ h' tk' m' nx', Fr s.heap C h' m' → News s.heap C h' (nx' ++ [(I, oI)]) → (∀ p ∈ nx', @Ne Nat p.1 I) → J D (i + 1) m' nx' → K { s with heap := h', toks := tk' }) → compEnd prog w A D elt ifs (compEnvC scope cl C env) E' K { s with heap := h, toks := tk })
    (done : ∀ D C m₁ nx h tk, J D items.size m₁ nx → Fr s.heap C h m₁ → News s.heap C h nx → R D C { s with heap := h, toks := tk }) :
    wpAny (model prog w) A (pyIter (.ref l)) (fun it s₂ => CompJ prog w A s.heap elt x ifs scope cl env R it s₂) E s := by
  have hlt : l < s.heap.objs.size := by obtain ⟨_, e, _⟩ := hl; exact Heap.lt_size e
  refine wpAny_pyIter_list hl ?_
  refine comp_src rfl (Walks.list hh s.heap.objs.size l (Nat.ne_of_lt hlt) items) (fun b hb => ?_) (fun i h st => by obtain ⟨o, e, _⟩ := st.1; exact ⟨o, e⟩) ⟨⟨_, Heap.get?_push_size _ rfl, rfl, rfl⟩, hl.push _⟩ J h0 turn done
  rcases List.mem_cons.mp hb with e | hb
  · exact .inl e
  · rw [List.mem_singleton.mp hb]; obtain ⟨o, e, _⟩ := hl; exact .inr (by rw [e]; rfl)
theorem comp_range {elt : Expr} {x : Str} {ifs : List Expr} {scope : Scope} {cl : List (Str × Addr)} {R : Addr → Addr → Shared → Prop} {r : Addr} {a₀ b₀ : Int} {t₀ u₀ v₀ : Tok} {n : Nat} (hh : A.handled = none) (hr : IsRange s.heap r a₀ b₀ 1 t₀ u₀ v₀) (hsmall : Builtin.Range.small a₀ b₀ 1 = true) (hn : Builtin.Range.rangeSize a₀ b₀ 1 = (n : Int))
    (J : Addr → Nat → (Str → Option Value) → List (Addr × Obj) → Prop) (h0 : ∀ D, J D 0 (fun _ => none) [(D, PySem.W.listOf #[] 0)])
    (turn : ∀ D C I i t m₁ nx h tk oI (K : Shared → Prop) E', i < n → (@Ne Nat D I) → (∀ p ∈ nx, @Ne Nat p.1 I) → J D i m₁ nx → Fr s.heap C h (fun y => if y = x then some (.int (a₀ + (i : Nat)) t) else m₁ y) → News s.heap C h (nx ++ [(I, oI)]) →
        (∀ h' tk' m' nx', Fr s.heap C h' m' → News s.heap C h' (nx' ++ [(I, oI)]) → (∀ p ∈ nx', @Ne Nat p.1 I) → J D (i + 1) m' nx' → K { s with heap := h', toks := tk' }) → compEnd prog w A D elt ifs (compEnvC scope cl C env) E' K { s with heap := h, toks := tk })
    (done : ∀ D C m₁ nx h tk, J D n m₁ nx → Fr s.heap C h m₁ → News s.heap C h nx → R D C { s with heap := h, toks := tk }) :
    wpAny (model prog w) A (pyIter (.ref r)) (fun it s₂ => CompJ prog w A s.heap elt x ifs scope cl env R it s₂) E s := by
  refine wpAny_pyIter_range hr hsmall ?_
  have W : Walks prog w A s.heap.objs.size [s.heap.objs.size] [s.heap.objs.size] n (fun i v => i < n ∧ ∃ t, v = .int (a₀ + i * 1) t)
      (fun i h => IsRangeIter h s.heap.objs.size (a₀ + (i : Nat) * 1) ((n : Int) - (i : Nat)) 1) := (Walks.range hh _ a₀ 1 n).bound
  refine comp_src rfl W (fun b hb => .inl (List.mem_singleton.mp hb)) (fun i h st => ⟨_, st⟩) (by show IsRangeIter _ _ _ _ _; rw [hn]; simpa using Heap.get?_push_size _ rfl) J h0 ?_ done
  rintro D C I i v m₁ nx h tk oI K E' hi ⟨_, t, rfl⟩ hD hnI hJ F N hK
  rw [Int.mul_one] at F
  exact turn D C I i t m₁ nx h tk oI K E' hi hD hnI hJ F N hK
theorem comp_str {elt : Expr} {x : Str} {ifs : List Expr} {scope : Scope} {cl : List (Str × Addr)} {R : Addr → Addr → Shared → Prop} {l : List Nat} {t₀ : Tok} (hh : A.handled = none)
    (J : Addr → Nat → (Str → Option Value) → List (Addr × Obj) → Prop) (h0 : ∀ D, J D 0 (fun _ => none) [(D, PySem.W.listOf #[] 0)])
    (turn : ∀ D C I i c t m₁ nx h tk oI (K : Shared → Prop) E', l[i]? = some c → (@Ne Nat D I) → (∀ p ∈ nx, @Ne Nat p.1 I) → J D i m₁ nx → Fr s.heap C h (fun y => if y = x then some (.str (ST [c]) t) else m₁ y) → News s.heap C h (nx ++ [(I, oI)]) →
        (∀ h' tk' m' nx', Fr s.heap C h' m' → News s.heap C h' (nx' ++ [(I, oI)]) → (∀ p ∈ nx', @Ne Nat p.1 I) → J D (i + 1) m' nx' → K { s with heap := h', toks := tk' }) → compEnd prog w A D elt ifs (compEnvC scope cl C env) E' K { s with heap := h, toks := tk })
    (done : ∀ D C m₁ nx h tk, J D l.length m₁ nx → Fr s.heap C h m₁ → News s.heap C h nx → R D C { s with heap := h, toks := tk }) :
    wpAny (model prog w) A (pyIter (.str (ST l) t₀)) (fun it s₂ => CompJ prog w A s.heap elt x ifs scope cl env R it s₂) E s := by
  have e : (ST l).cps.size = l.length := by simp [ST]
  have fin : ∀ {T : String} {St : Nat → Heap → Prop} {o₂ : Obj}, Walks prog w A s.heap.objs.size [s.heap.objs.size] [s.heap.objs.size] (ST l).cps.size (SignAt (ST l)) St → (∀ i h, St i h → ∃ o, h.get? s.heap.objs.size = some o) → St 0 (s.heap.push o₂) →
      CompJ prog w A s.heap elt x ifs scope cl env R (.ref s.heap.objs.size) { s with heap := s.heap.push o₂ } := by
    intro T St o₂ W hI hst
    refine comp_src rfl W (fun b hb => .inl (List.mem_singleton.mp hb)) hI hst J h0 ?_ (by rw [e]; exact done)
    rintro D C I i v m₁ nx h tk oI K E' hi ⟨c, u, hc, rfl⟩ hD hnI hJ F N hK
    exact turn D C I i c u m₁ nx h tk oI K E' (by simpa [ST] using hc) hD hnI hJ F N hK
  cases ha : (ST l).cps.all (· < 128)
  · exact wpAny_pyIter_wide ha (fin (T := "") (Walks.strWide hh _ _ _) (fun i h st => by obtain ⟨o, e, _⟩ := st; exact ⟨o, e⟩) ⟨_, Heap.get?_push_size _ rfl, rfl, rfl⟩)
  · exact wpAny_pyIter_ascii ha (fin (T := "") (Walks.strAscii hh _ _ _) (fun i h st => by obtain ⟨o, e, _⟩ := st; exact ⟨o, e⟩) ⟨_, Heap.get?_push_size _ rfl, rfl, rfl⟩)
end
end Mine
end
end
section
open PySem PySem.W PyProof.Rows PySem.Calls PySem.Spec
set_option Elab.async false
set_option maxRecDepth 100000
noncomputable section
namespace Mine
section
variable {M : Model} {A : Around} {E : Value → Shared → Prop} {s : Shared} {h₀ g : Heap} {L C : Addr} {m : Str → Option Value} {env : Env} {scope : Scope} {cl : List (Str × Addr)} {x : Str} {pos : Pos} {v : Value} {c : Addr} {Q : Value → Shared → Prop}
theorem ldC_own (F : Fr g C s.heap m) (hx : m x = some v) (h : Q v s) (hk : (compEnvC scope cl C env).scope.kind = .function := by rfl) (hl : (compEnvC scope cl C env).kindOf x = some .local := by rfl) (hd : (x == ("__debug__" : Str)) = false := by decide) :
    wpAny M A (eval (.Name x pos) (compEnvC scope cl C env)) Q E s := ldVarK F.ns hx h hk hl hd
theorem ldC_cell (F : Fr g C s.heap m) (hc : cl.lookup x = some c) (hg : g.IsCell c (some v)) (h : Q v s) (hk : (compEnvC scope cl C env).scope.kind = .function := by rfl) (hx : (compEnvC scope cl C env).kindOf x = some .cell := by rfl) (hb : (x == ("__debug__" : Str)) = false := by decide) :
    wpAny M A (eval (.Name x pos) (compEnvC scope cl C env)) Q E s := wpAny_Name (wpAny_loadName_cell hk hx hc (hg.keeps F.keep) h) hb
theorem ldC_free (F : Fr g C s.heap m) (hc : cl.lookup x = some c) (hg : g.IsCell c (some v)) (h : Q v s) (hk : (compEnvC scope cl C env).scope.kind = .function := by rfl) (hx : (compEnvC scope cl C env).kindOf x = some .free := by rfl) (hb : (x == ("__debug__" : Str)) = false := by decide) (hn : (x == ("__classdict__" : Str)) = false := by decide) :
    wpAny M A (eval (.Name x pos) (compEnvC scope cl C env)) Q E s := wpAny_Name (wpAny_loadName_free hk hx hc (hg.keeps F.keep) h hn) hb
end
noncomputable abbrev tupOf (its : Array Value) : Obj := { cls := .type "tuple", data := .seq its }
inductive PairEs : List Expr → List (Str × Int) → Prop
  | nil : PairEs [] []
  | cons {x : Str} {k : Int} {a b c : Nat} {p q r : Pos} {es : List Expr} {qs : List (Str × Int)} : PairEs es qs → PairEs (.Tuple [.Constant (.str x) a p, .Constant (.int k) b q] c r :: es) ((x, k) :: qs)
noncomputable def strE? : Expr → Option Str
  | .Constant c _ _ => (match c with | .str x => some x | _ => none)
  | _ => none
noncomputable def intE? : Expr → Option Int
  | .Constant c _ _ => (match c with | .int x => some x | _ => none)
  | _ => none
noncomputable def tupE? : Expr → Option (List Expr)
  | .Tuple l _ _ => some l
  | _ => none
theorem strE_of {e : Expr} {x : Str} (h : strE? e = some x) : ∃ a p, e = .Constant (.str x) a p := by
  unfold strE? at h
  split at h
  · split at h
    · cases h; exact ⟨_, _, rfl⟩
    · cases h
  · cases h
theorem intE_of {e : Expr} {x : Int} (h : intE? e = some x) : ∃ a p, e = .Constant (.int x) a p := by
  unfold intE? at h
  split at h
  · split at h
    · cases h; exact ⟨_, _, rfl⟩
    · cases h
  · cases h
theorem tupE_of {e : Expr} {l : List Expr} (h : tupE? e = some l) : ∃ a p, e = .Tuple l a p := by
  unfold tupE? at h
  split at h
  · cases h; exact ⟨_, _, rfl⟩
  · cases h
theorem two_len {α : Type} : ∀ {l : List α}, l.length = 2 → ∃ x y, l = [x, y]
  | [], h => by cases h
  | [_], h => by cases h
  | [x, y], _ => ⟨x, y, rfl⟩
  | _ :: _ :: _ :: _, h => absurd h (by rw [List.length_cons, List.length_cons, List.length_cons]; omega)
/-- the pair that a written tuple of a text and a number is -/
noncomputable def pairE? (e : Expr) : Option (Str × Int) := (tupE? e).bind fun l => (l[0]?.bind strE?).bind fun x => (l[1]?.bind intE?).bind fun k => if l.length = 2 then some (x, k) else none
theorem pairE_of {e : Expr} {q : Str × Int} (h : pairE? e = some q) : ∃ a b c p p' p'', e = .Tuple [.Constant (.str q.1) a p, .Constant (.int q.2) b p'] c p'' := by
  obtain ⟨l, hl, h⟩ := Option.bind_eq_some_iff.mp h
  obtain ⟨x, hx, h⟩ := Option.bind_eq_some_iff.mp h
  obtain ⟨k, hk, h⟩ := Option.bind_eq_some_iff.mp h
  by_cases h2 : l.length = 2
  · rw [if_pos h2] at h
    cases h
    obtain ⟨y, z, rfl⟩ := two_len h2
    obtain ⟨a, p, rfl⟩ := strE_of (e := y) (x := x) hx
    obtain ⟨b, p', rfl⟩ := intE_of (e := z) (x := k) hk
    obtain ⟨c, p'', rfl⟩ := tupE_of hl
    exact ⟨a, b, c, p, p', p'', rfl⟩
  · rw [if_neg h2] at h; cases h
noncomputable def pairEs? : List Expr → Option (List (Str × Int))
  | [] => some []
  | e :: es => (pairE? e).bind fun q => (pairEs? es).map (q :: ·)
theorem pairs_of : ∀ {es : List Expr} {qs : List (Str × Int)}, pairEs? es = some qs → PairEs es qs := by
  intro es
  induction es with
  | nil => intro qs h; cases h; exact .nil
  | cons e es ih =>
    intro qs h
    obtain ⟨q, hq, h⟩ := Option.bind_eq_some_iff.mp h
    obtain ⟨r, hr, rfl⟩ := Option.map_eq_some_iff.mp h
    obtain ⟨a, b, c, p, p', p'', rfl⟩ := pairE_of hq
    exact .cons (ih hr)
noncomputable def PairT (p : Addr × Obj) (q : Str × Int) : Prop := ∃ t u, p.2 = tupOf #[.str q.1 t, .int q.2 u]
section
variable {M : Model} {A : Around} {E : Value → Shared → Prop} {h₀ : Heap} {L : Addr} {m : Str → Option Value} {env : Env} {pos : Pos}
theorem pairs_spliced {es : List Expr} {qs : List (Str × Int)} (P : PairEs es qs) : ∀ {s : Shared} {news : List (Addr × Obj)} {Q : List Value → Shared → Prop}, Fr h₀ L s.heap m → News h₀ L s.heap news →
    (∀ h' tk tups, Fr h₀ L h' m → News h₀ L h' (tups ++ news) → (∀ p ∈ tups, s.heap.objs.size ≤ p.1) → s.heap.StaysIn h' → All2 PairT tups qs → Q (tups.map fun p => .ref p.1) { s with heap := h', toks := tk }) →
    wpAny M A (spliced (backTo pos (starEach es env))) Q E s := by
  induction P with
  | nil => intro s news Q F N h; exact spliced_none (h s.heap s.toks [] F N (fun _ hp => nomatch hp) (fun _ _ e => e) .nil)
  | cons _ ih =>
    intro s news Q F N h
    refine spliced_more (wpAny_Tuple (spliced_more (Constant_str (spliced_more (wpAny_Constant_int (spliced_none ⟨by size_fits, ?_⟩))))))
    refine ih (F.push _) (N.push F _) fun h' tk tups F' N' h1 h2 h3 => ?_
    refine h h' tk ((s.heap.objs.size, _) :: tups) F' (fun p hp => ?_) (fun p hp => ?_) (fun b o e => h2 _ _ (Heap.get?_push_of_some _ e)) (.cons ⟨s.toks, s.toks + 1, rfl⟩ h3)
    · rcases List.mem_cons.mp hp with rfl | hp
      · exact N' _ (List.mem_append_right _ (.head _))
      · rcases List.mem_append.mp hp with hp | hp
        · exact N' _ (List.mem_append_left _ hp)
        · exact N' _ (List.mem_append_right _ (.tail _ hp))
    · rcases List.mem_cons.mp hp with rfl | hp
      · exact Nat.le_refl _
      · refine Nat.le_trans ?_ (h1 p hp)
        show _ ≤ (s.heap.push _).objs.size
        rw [Heap.size_push]; exact Nat.le_succ _
inductive IntEs : List Expr → List Int → Prop
  | nil : IntEs [] []
  | cons {k : Int} {a : Nat} {p : Pos} {es : List Expr} {qs : List Int} : IntEs es qs → IntEs (.Constant (.int k) a p :: es) (k :: qs)
noncomputable def intEs? : List Expr → Option (List Int)
  | [] => some []
  | e :: es => (intE? e).bind fun q => (intEs? es).map (q :: ·)
theorem ints_of : ∀ {es : List Expr} {qs : List Int}, intEs? es = some qs → IntEs es qs := by
  intro es
  induction es with
  | nil => intro qs h; cases h; exact .nil
  | cons e es ih =>
    intro qs h
    obtain ⟨q, hq, h⟩ := Option.bind_eq_some_iff.mp h
    obtain ⟨r, hr, rfl⟩ := Option.map_eq_some_iff.mp h
    obtain ⟨a, p, rfl⟩ := intE_of hq
    exact .cons (ih hr)
theorem ints_spliced {es : List Expr} {qs : List Int} (P : IntEs es qs) : ∀ {s : Shared} {Q : List Value → Shared → Prop},
    (∀ tk vs, All2 IV vs qs → Q vs { s with toks := tk }) → wpAny M A (spliced (backTo pos (starEach es env))) Q E s := by
  induction P with
  | nil => intro s Q h; exact spliced_none (h s.toks [] .nil)
  | cons _ ih => intro s Q h; exact spliced_more (wpAny_Constant_int (ih fun tk vs hv => h tk (_ :: vs) (.cons ⟨_, rfl⟩ hv)))
theorem pairs_display {s : Shared} {es : List Expr} {qs : List (Str × Int)} {news : List (Addr × Obj)} {Q : Value → Shared → Prop} (hp : PairEs es qs) (F : Fr h₀ L s.heap m) (N : News h₀ L s.heap news)
    (h : ∀ D h' tk tups, Fr h₀ L h' m → News h₀ L h' ((D, PySem.W.listOf (tups.map fun p => Value.ref p.1).toArray 0) :: (tups ++ news)) → (∀ p ∈ tups, s.heap.objs.size ≤ p.1) → (∀ p ∈ tups, p.1 < D) → (∀ p ∈ news, p.1 < D) → All2 PairT tups qs → Q (.ref D) { s with heap := h', toks := tk })
    (hsz : qs.length ≤ sizeLine := by size_fits) : wpAny M A (eval (.List es pos) env) Q E s := by
  refine List_ (pairs_spliced hp F N fun h' tk tups F' N' h1 h2 h3 => ?_)
  refine newList_K F' N' (fun l h'' F'' N'' hlt => ?_) (by rw [List.length_map, h3.length]; exact hsz)
  exact h l h'' tk tups F'' N'' h1 (fun p hp => hlt p (List.mem_append_left _ hp)) (fun p hp => hlt p (List.mem_append_right _ hp)) h3
theorem ints_display {s : Shared} {es : List Expr} {qs : List Int} {news : List (Addr × Obj)} {Q : Value → Shared → Prop} (hp : IntEs es qs) (F : Fr h₀ L s.heap m) (N : News h₀ L s.heap news)
    (h : ∀ D h' tk vs, Fr h₀ L h' m → News h₀ L h' ((D, PySem.W.listOf (List.toArray vs) 0) :: news) → (∀ p ∈ news, p.1 < D) → All2 IV vs qs → Q (.ref D) { s with heap := h', toks := tk })
    (hsz : qs.length ≤ sizeLine := by size_fits) : wpAny M A (eval (.List es pos) env) Q E s := by
  refine List_ (ints_spliced hp fun tk vs hv => ?_)
  exact newList_K (s := { s with toks := tk }) F N (fun l h'' F'' N'' hlt => h l h'' tk vs F'' N'' hlt hv) (by rw [hv.length]; exact hsz)
end
theorem tup_at {g h : Heap} {C a : Addr} {m : Str → Option Value} {its : Array Value} (F : Fr g C h m) (e : g.get? a = some (tupOf its)) : h.IsTuple a its := ⟨_, F.keep _ _ e, rfl, _, rfl⟩
section
variable {prog : Program} {w : World} {A : Around} {E : Value → Shared → Prop} {s : Shared} {h₀ : Heap} {L l : Addr} {news : List (Addr × Obj)} {vs : List Value} {n : Nat} {Q : Value → Shared → Prop}
theorem len_at (N : News h₀ L s.heap news) (hm : (l, PySem.W.listOf vs.toArray n) ∈ news) (hz : vs.length ≤ 1000000) (h : ∀ t k, Q (.int (vs.length : Nat) t) { s with toks := k }) :
    wpAny (model prog w) A (call (.builtin "len") [.ref l]) Q E s :=
  call_len_list (News.isList N hm) (by rw [List.size_toArray]; omega) (by rw [List.size_toArray]; exact h _ _)
theorem item_at {value slice : Expr} {k : Int} {u : Tok} {j : Nat} {v : Value} (N : News h₀ L s.heap news) (hm : (l, PySem.W.listOf vs.toArray n) ∈ news) (hk : k = (j : Int)) (hz : j ≤ 1000000) (hv : vs[j]? = some v) (h : Q v s)
    (hs : subscripted slice false (.ref l) (.int k u) = operate [.ref l, .int k u] (getItem (.ref l) (.int k u)) := by with_unfolding_all rfl) :
    wpAny (model prog w) A (subscriptTail value slice (.ref l) (.int k u)) Q E s :=
  have hL := News.isList N hm
  tail_any hL.typeIs slot_list_getitem.lookup (wpAny_getItem_list hL (by omega) (by omega) (by subst hk; simpa using hv) h) hs
theorem item_ints {value slice : Expr} {k : Int} {u : Tok} {xs : List Int} (N : News h₀ L s.heap news) (hm : (l, PySem.W.listOf vs.toArray n) ∈ news) (hV : All2 IV vs xs) (hz : xs.length ≤ 1000000) (h0 : 0 ≤ k) (h1 : k < (xs.length : Nat))
    (h : ∀ x t, xs[k.toNat]? = some x → Q (.int x t) s)
    (hs : subscripted slice false (.ref l) (.int k u) = operate [.ref l, .int k u] (getItem (.ref l) (.int k u)) := by with_unfolding_all rfl) :
    wpAny (model prog w) A (subscriptTail value slice (.ref l) (.int k u)) Q E s := by
  obtain ⟨x, hx⟩ : ∃ x, xs[k.toNat]? = some x := ⟨_, List.getElem?_eq_getElem (by omega)⟩
  obtain ⟨v, hv, t, rfl⟩ := hV.get hx
  exact item_at N hm (j := k.toNat) (by omega) (by omega) hv (h x t hx) hs
end
end Mine
end
end
section
open PySem PySem.W PyProof.Rows PySem.Calls PySem.Spec
set_option Elab.async false
set_option maxRecDepth 100000
noncomputable section
namespace Mine
/-- the end of a turn: the iterator stands last in the ledger -/
inductive TurnEnd (h₀ : Heap) (L I : Addr) (oI : Obj) (J : (Str → Option Value) → List (Addr × Obj) → Prop) (s₁ s₂ : Shared) : Prop
  | mk (h' : Heap) (tk : Nat) (m' : Str → Option Value) (nx : List (Addr × Obj)) (e : s₂ = { s₁ with heap := h', toks := tk }) (F : Fr h₀ L h' m') (N : News h₀ L h' (nx ++ [(I, oI)])) (hn : ∀ p ∈ nx, @Ne Nat p.1 I) (hJ : J m' nx) : TurnEnd h₀ L I oI J s₁ s₂
noncomputable def TurnPost (h₀ : Heap) (L I : Addr) (oI : Obj) (J : (Str → Option Value) → List (Addr × Obj) → Prop) (s₁ : Shared) (Q : Flow → Shared → Prop) (f : Flow) (s₂ : Shared) : Prop :=
  match f with
  | .ret v => Q (.ret v) s₂
  | .brk => Q .next s₂
  | _ => TurnEnd h₀ L I oI J s₁ s₂
theorem turn_end {h₀ h' : Heap} {L I : Addr} {oI : Obj} {J : (Str → Option Value) → List (Addr × Obj) → Prop} {s₁ : Shared} {tk : Nat} {m' : Str → Option Value} {nx : List (Addr × Obj)}
    (F : Fr h₀ L h' m') (N : News h₀ L h' (nx ++ [(I, oI)])) (hn : ∀ p ∈ nx, @Ne Nat p.1 I) (hJ : J m' nx) : TurnEnd h₀ L I oI J s₁ { s₁ with heap := h', toks := tk } :=
  ⟨h', tk, m', nx, rfl, F, N, hn, hJ⟩
section
variable {prog : Program} {w : World} {A : Around} {E : Value → Shared → Prop} {s : Shared} {env : Env} {h₀ : Heap} {target : Expr} {body : List Stmt} {Q : Flow → Shared → Prop}
/-- a loop whose iterator walks over something of the base -/
theorem turnsB {fp : List Addr} {n : Nat} {P Md : Nat → Value → Heap → Prop} {St : Nat → Heap → Prop} {o₂ : Obj} {m₀ : Str → Option Value} {news : List (Addr × Obj)} {s₂ : Shared} (h2 : s₂ = { s with heap := s.heap.push o₂ })
    (T : KTurns prog w A target s.heap.objs.size fp [s.heap.objs.size] n P Md St) (hfp : ∀ b ∈ fp, b = s.heap.objs.size ∨ (h₀.get? b).isSome) (hI : s.heap.objs.size ∈ fp) (hSt : ∀ i h, St i h → ∃ o, h.get? s.heap.objs.size = some o)
    (st0 : St 0 s₂.heap) (F : Fr h₀ env.locals s.heap m₀) (N : News h₀ env.locals s.heap news) (J : Nat → (Str → Option Value) → List (Addr × Obj) → Prop) (h0 : J 0 m₀ news)
    (turn : ∀ i v m₁ nx h tk I oI, i < n → P i v h → (∀ p ∈ nx, @Ne Nat p.1 I) → J i m₁ nx → Fr h₀ env.locals h m₁ → News h₀ env.locals h (nx ++ [(I, oI)]) →
      wpAny (model prog w) A (assign target env v) (fun _ s₃ => wpAny (model prog w) A (execs body env) (TurnPost h₀ env.locals I oI (J (i + 1)) { s with heap := h, toks := tk } Q) E s₃) E { s with heap := h, toks := tk })
    (done : ∀ m₁ nx h tk, J n m₁ nx → Fr h₀ env.locals h m₁ → News h₀ env.locals h nx → Q .next { s with heap := h, toks := tk }) :
    TurnsAt prog w A h₀ env target body Q E (.ref s.heap.objs.size) s₂ := by
  subst h2
  refine ⟨_, fp, _, n, P, Md, St, m₀, news, J, rfl, T, ?_, ?_, ?_, st0, F.push _, (fun p hp => ⟨Heap.get?_push_of_some _ (N p hp).1, (N p hp).2⟩), h0, ?_, ?_⟩
  · intro hb
    rcases hfp _ hb with e | e
    · exact absurd F.ns.lt (e ▸ Nat.lt_irrefl _)
    · rw [Heap.get?_none_of_le F.above] at e; cases e
  · intro b hb
    rw [List.mem_singleton.mp hb]; exact next_is_new F
  · intro p hp hb
    exact absurd (Heap.lt_size (N p hp).1) ((List.mem_singleton.mp hb) ▸ Nat.lt_irrefl _)
  · intro i v m₁ nx h tk own hi hP hJ hnw ho1 ho2 ho3 st F' N'
    obtain ⟨oI, hoI⟩ := hSt _ _ st
    have hm : (s.heap.objs.size, oI) ∈ own := ho3 _ hI (next_is_new F) _ hoI
    have own1 : ∀ p ∈ own, p = (s.heap.objs.size, oI) := fun p hp => by
      obtain ⟨b, o⟩ := p
      rcases hfp _ (ho1 _ hp) with e | e
      · dsimp only at e; subst e
        have e2 := ho2 _ hp
        dsimp only at e2
        rw [hoI] at e2; cases e2; rfl
      · rw [(N' _ (List.mem_append_left _ hp)).2.2] at e; cases e
    have N1 : News h₀ env.locals h (nx ++ [(s.heap.objs.size, oI)]) := fun p hp => by
      rcases List.mem_append.mp hp with hp | hp
      · exact N' p (List.mem_append_right _ hp)
      · rw [List.mem_singleton.mp hp]; exact N' _ (List.mem_append_left _ hm)
    refine wpAny_mono (turn i v m₁ nx h tk _ oI hi hP (fun p hp e => hnw p hp (List.mem_singleton.mpr e)) hJ F' N1) (fun _ s₃ x => wpAny_mono x (fun f s₄ y => ?_) fun _ _ e => e) fun _ _ e => e
    have fin : TurnEnd h₀ env.locals s.heap.objs.size oI (J (i + 1)) { s with heap := h, toks := tk } s₄ → LoopStepU h₀ env.locals [s.heap.objs.size] own (J (i + 1)) { { s with heap := s.heap.push o₂ } with heap := h, toks := tk } .next s₄ := by
      rintro ⟨h', tk', m', nx', rfl, F2, N2, hn2, hJ2⟩
      refine ⟨rfl, h', tk', m', nx', rfl, F2, fun p hp => ?_, fun p hp e => hn2 p hp (List.mem_singleton.mp e), hJ2⟩
      rcases List.mem_append.mp hp with hp | hp
      · rw [own1 p hp]; exact N2 _ (List.mem_append_right _ (.head _))
      · exact N2 p (List.mem_append_left _ hp)
    cases f with
    | ret v => exact y
    | brk => exact y
    | cont => exact fin y
    | next => exact fin y
  · intro h' tk m' nx F' N' _ hJ
    exact done m' nx h' tk hJ F' N'
variable {K : Type} [DecidableEq K] {knd : KeyKind prog w K} {kvs : List (K × Value)} {d vw : Addr} {m₀ : Str → Option Value} {news : List (Addr × Obj)}
theorem valuesB (hh : A.handled = none) (F : Fr h₀ env.locals s.heap m₀) (N : News h₀ env.locals s.heap news) (hv : s.heap.IsValuesView vw d) (hd : h₀.DictOf knd d kvs)
    (J : Nat → (Str → Option Value) → List (Addr × Obj) → Prop) (h0 : J 0 m₀ news)
    (turn : ∀ i k v m₁ nx h tk I oI, kvs[i]? = some (k, v) → (∀ p ∈ nx, @Ne Nat p.1 I) → J i m₁ nx → Fr h₀ env.locals h m₁ → News h₀ env.locals h (nx ++ [(I, oI)]) →
      wpAny (model prog w) A (assign target env v) (fun _ s₃ => wpAny (model prog w) A (execs body env) (TurnPost h₀ env.locals I oI (J (i + 1)) { s with heap := h, toks := tk } Q) E s₃) E { s with heap := h, toks := tk })
    (done : ∀ m₁ nx h tk, J kvs.length m₁ nx → Fr h₀ env.locals h m₁ → News h₀ env.locals h nx → Q .next { s with heap := h, toks := tk }) :
    wpAny (model prog w) A (pyIter (.ref vw)) (fun it s₂ => TurnsAt prog w A h₀ env target body Q E it s₂) E s := by
  have hd' : s.heap.DictOf knd d kvs := hd.at fun o e => F.keep _ _ e
  obtain ⟨ep, hat⟩ := hd'.dictAt
  obtain ⟨_, _, _, hd0, _⟩ := hd
  have hne : d ≠ s.heap.objs.size := Nat.ne_of_lt hat.lt_size
  refine wpAny_pyIter_values hv hat ?_
  refine turnsB rfl (KTurns.ofWalks (Walks.dictValues (knd := knd) hh s.heap.objs.size d hne kvs ep) fun i v s Q E st q => letGo_valiter st.1 q) ?_ (.head _) ?_ ⟨⟨_, Heap.get?_push_size _ rfl, rfl, rfl⟩, hat.push _⟩ F N J h0 ?_ done
  · intro b hb
    rcases List.mem_cons.mp hb with e | hb
    · exact .inl e
    · rw [List.mem_singleton.mp hb, hd0]; exact .inr rfl
  · rintro i h ⟨⟨o, e, _⟩, _⟩; exact ⟨o, e⟩
  · rintro i v m₁ nx h tk I oI hi ⟨k, hk⟩ hn hJ F' N'
    exact turn i k v m₁ nx h tk I oI hk hn hJ F' N'
theorem itemsB {elts : List Expr} {kk : Nat} {pos : Pos} (hh : A.handled = none) (F : Fr h₀ env.locals s.heap m₀) (N : News h₀ env.locals s.heap news) (hv : s.heap.IsItemsView vw d) (hd : h₀.DictOf knd d kvs)
    (J : Nat → (Str → Option Value) → List (Addr × Obj) → Prop) (h0 : J 0 m₀ news)
    (turn : ∀ i k key v T m₁ nx h tk I oI, kvs[i]? = some (k, v) → knd.is k key = true → h.IsTuple T #[key, v] → (∀ p ∈ nx, @Ne Nat p.1 I) → J i m₁ nx → Fr h₀ env.locals h m₁ → News h₀ env.locals h (nx ++ [(I, oI)]) →
      wpAny (model prog w) A (assign (.Tuple elts kk pos) env (.ref T)) (fun _ s₃ => wpAny (model prog w) A (execs body env) (TurnPost h₀ env.locals I oI (J (i + 1)) { s with heap := h, toks := tk } Q) E s₃) E { s with heap := h, toks := tk })
    (done : ∀ m₁ nx h tk, J kvs.length m₁ nx → Fr h₀ env.locals h m₁ → News h₀ env.locals h nx → Q .next { s with heap := h, toks := tk }) :
    wpAny (model prog w) A (pyIter (.ref vw)) (fun it s₂ => TurnsAt prog w A h₀ env (.Tuple elts kk pos) body Q E it s₂) E s := by
  have hd' : s.heap.DictOf knd d kvs := hd.at fun o e => F.keep _ _ e
  obtain ⟨ep, hat⟩ := hd'.dictAt
  obtain ⟨_, _, _, hd0, _⟩ := hd
  have hne : d ≠ s.heap.objs.size := Nat.ne_of_lt hat.lt_size
  refine wpAny_pyIter_items hv hat ?_
  refine turnsB rfl (kti_itemsTurns (knd := knd) hh s.heap.objs.size d hne kvs ep) ?_ (.head _) ?_ ⟨⟨_, _, Heap.get?_push_size _ rfl⟩, hat.push _⟩ F N J h0 ?_ done
  · intro b hb
    rcases List.mem_cons.mp hb with e | hb
    · exact .inl e
    · rw [List.mem_singleton.mp hb, hd0]; exact .inr rfl
  · rintro i h ⟨⟨ok, ov, he⟩, _⟩; exact ⟨_, he⟩
  · rintro i v m₁ nx h tk I oI hi ⟨T, key, k, x, rfl, hx, hk, hT⟩ hn hJ F' N'
    exact turn i k key x T m₁ nx h tk I oI hx hk hT hn hJ F' N'
end
section
variable {prog : Program} {w : World} {A : Around} {E : Value → Shared → Prop} {s : Shared} {h₀ : Heap} {L a : Addr} {cn : Str} {cs : Scope} {ccd : Value} {K : Type} [DecidableEq K] {knd : KeyKind prog w K} {kvs : List (K × Value)} {d : Addr} {m : Str → Option Value} {news : List (Addr × Obj)} {Q : Value → Shared → Prop}
theorem meth_values {pl : Sem Bool} {env : Env} {p3 : Pos} (F : Fr h₀ L s.heap m) (N : News h₀ L s.heap news) (hd : h₀.DictOf knd d kvs) (lo : (d == sysModules) = false)
    (h : ∀ h' vw, h'.IsValuesView vw d → Fr h₀ L h' m → News h₀ L h' news → Q (.ref vw) { s with heap := h' }) :
    wpAny (model prog w) A (getMethod (.ref d) "values" pl) (fun fx s₂ => wpAny (model prog w) A (callWith p3 fx.1 fx.2 (backTo p3 (starEach [] env)) []) Q E s₂) E s := by
  have hD : s.heap.DictOf knd d kvs := hd.at fun o e => F.keep _ _ e
  refine getMethod_builtin hD.typeIs PySem.F.plainAttrs_dict PySem.F.slot_dict_values PySem.F.type_dict_values hD.mapOf.noDict (callWith_method0 ?_)
  exact call_meetsIn PySem.F.slot_dict_values hD.typeIs PySem.F.entry_dict_values (PySem.F.args_dict_values_1 _) (meets_dict_values knd d lo) ⟨⟨kvs, hD⟩, h _ _ ⟨_, Heap.get?_push_size _ rfl, rfl, rfl⟩ (F.push _) fun p hp => ⟨Heap.get?_push_of_some _ (N p hp).1, (N p hp).2⟩⟩
theorem meth_items {pl : Sem Bool} {env : Env} {p3 : Pos} (F : Fr h₀ L s.heap m) (N : News h₀ L s.heap news) (hd : h₀.DictOf knd d kvs) (lo : (d == sysModules) = false)
    (h : ∀ h' vw, h'.IsItemsView vw d → Fr h₀ L h' m → News h₀ L h' news → Q (.ref vw) { s with heap := h' }) :
    wpAny (model prog w) A (getMethod (.ref d) "items" pl) (fun fx s₂ => wpAny (model prog w) A (callWith p3 fx.1 fx.2 (backTo p3 (starEach [] env)) []) Q E s₂) E s := by
  have hD : s.heap.DictOf knd d kvs := hd.at fun o e => F.keep _ _ e
  refine getMethod_builtin hD.typeIs PySem.F.plainAttrs_dict PySem.F.slot_dict_items PySem.F.type_dict_items hD.mapOf.noDict (callWith_method0 ?_)
  exact call_meetsIn PySem.F.slot_dict_items hD.typeIs PySem.F.entry_dict_items (PySem.F.args_dict_items_1 _) (meets_dict_items knd d lo) ⟨⟨kvs, hD⟩, h _ _ ⟨_, Heap.get?_push_size _ rfl, rfl, rfl⟩ (F.push _) fun p hp => ⟨Heap.get?_push_of_some _ (N p hp).1, (N p hp).2⟩⟩
end
end Mine
end
end
section
open PySem PySem.W PyProof.Rows PySem.Calls PySem.Spec
set_option Elab.async false
set_option maxRecDepth 100000
noncomputable section
namespace Mine
theorem rules_W7b : True := by
  k_with_none
  w_top off
  k_with "storeName" => (k_here; with_reducible show wpAny _ _ (storeName _ _ (Value.int _ (Shared.toks _))) _ _ _; k_dflt (refine storeX_Li (by k_asm) (by k_asm) (fun t_kw h_kw F_kw N_kw => ?_) rfl rfl; try k_sweep))
  k_with "storeName" => (k_here; with_reducible show wpAny _ _ (storeName _ _ (Value.str _ (Shared.toks _))) _ _ _; k_dflt (refine storeX_Ls (by k_asm) (by k_asm) (fun t_kw h_kw F_kw N_kw => ?_) rfl rfl; try k_sweep))
  trivial
theorem fillK_W7b : (fun (_ : OpenLaw) (_ : Params → Frag) => True) PySem.Challenge.rw_xe0047_01 KF := by
  k_fill
  trivial
theorem sum_take_succ {l : List Int} {i : Nat} {x : Int} (h : l[i]? = some x) : (l.take (i + 1)).sum = (l.take i).sum + x := by
  rw [List.take_add_one, h]; simp
set_option maxHeartbeats 1000000 in
theorem calls_spec {w : World} {A : Around} {s : Shared} {h₀ : Heap} {L : Addr} {m : Str → Option Value} {dd : Nat} {Q E : Value → Shared → Prop} (d : Addr) (kvs : List (Int × Value)) (xs : List Int)
    (hD : s.heap.DictOf (intKind pw w) d kvs) (hv : All2 (fun p x => IV p.2 x) kvs xs) (lo : (d == sysModules) = false)
    (G : Env0 w A h₀ (dd + 1)) (F : Fr h₀ L s.heap m)
    (ret : ∀ h' tk' t', s.heap.StaysIn h' → Q (.int xs.sum t') { s with heap := h', toks := tk' }) :
    wpAny (model pw w) A (call (.ref 63) [.ref d]) Q E s := by
  refine enter (binds := [("callers", .ref d)]) G F rfl rfl rfl rfl (fun L' h₁ G' F' N' => ?_)
  obtain ⟨p, l, me, mg, mb, T⟩ := G'.T
  have X := G'.X
  have hh := G'.hh
  have hm0 : ∃ m0 : Str → Option Value, m0 = fun x => List.lookup x [((Str.ofString "callers" : Str), Value.ref d)].reverse := ⟨_, rfl⟩
  obtain ⟨m0, hm0⟩ := hm0
  iterate 5 walk1
  rename Fr _ _ _ _ => F1
  rename News _ _ _ _ => N1
  with_unfolding_all refine' For_turns F1 ?_
  walk1
  walk1
  refine meth_values F1 N1 hD lo fun h2 vw hvw F2 N2 => ?_
  refine valuesB (knd := intKind pw w) hh F2 N2 hvw hD (fun i m' nx => nx = [] ∧ ∃ u t', m' = fun y => if y = Str.ofString "calls" then u else if y = Str.ofString "nc" then some (.int (xs.take i).sum t') else m0 y) ?_ ?_ ?_
  · refine ⟨rfl, m0 (Str.ofString "calls"), ?tk0, ?_⟩
    rotate_left
    subst hm0
    funext y
    by_cases h1 : y = Str.ofString "calls"
    · subst h1; rfl
    · simp only [if_neg h1]; rfl
  · rintro i k v m₁ nx h tk I oI hi hn ⟨rfl, u, t', rfl⟩ F3 N3
    obtain ⟨x, hx⟩ : ∃ x, xs[i]? = some x := ⟨_, List.getElem?_eq_getElem (by rw [← hv.length]; exact (List.getElem?_eq_some_iff.mp hi).1)⟩
    obtain ⟨p, hp, t1, hv1⟩ := hv.get hx
    rw [hi] at hp; cases hp
    dsimp only at hv1
    subst hv1
    k_steps
    rename Fr _ _ _ _ => F4
    rename News _ _ _ _ => N4
    refine turn_end (nx := []) F4 N4 (fun _ h => nomatch h) ⟨rfl, some (.int x t1), ?t2, ?_⟩
    rotate_left
    rw [sum_take_succ hx]
    funext y
    by_cases h1 : y = Str.ofString "calls"
    · subst h1; rfl
    by_cases h2 : y = Str.ofString "nc"
    · subst h2; rfl
    simp only [if_neg h1, if_neg h2]
  · rintro m₁ nx h tk ⟨rfl, u, t', rfl⟩ F3 N3
    rw [show kvs.length = xs.length from hv.length, List.take_length] at F3
    k_steps
    exact ret _ _ _ (Fr.keep (by assumption))
end Mine
end
end
section
open PySem PySem.W PyProof.Rows PySem.Calls PySem.Spec
set_option Elab.async false
set_option maxRecDepth 100000
noncomputable section
namespace Mine
/-- a table, entry by entry -/
noncomputable def TabR {K β : Type} (R : Value → β → Prop) (kvs : List (K × Value)) (xs : List (K × β)) : Prop := All2 (fun p q => p.1 = q.1 ∧ R p.2 q.2) kvs xs
section
variable {K β : Type} [DecidableEq K] {R R' : Value → β → Prop}
noncomputable def bumpR (xs : List (K × β)) (k : K) (f : β → β) (b : β) : List (K × β) := if xs.any (fun q => q.1 = k) then xs.map (fun q => if q.1 = k then (q.1, f q.2) else q) else xs ++ [(k, b)]
theorem TabR.mono (h : ∀ v b, R v b → R' v b) {kvs : List (K × Value)} {xs : List (K × β)} (x : TabR R kvs xs) : TabR R' kvs xs := by
  induction x with
  | nil => exact .nil
  | cons a _ ih => exact .cons ⟨a.1, h _ _ a.2⟩ ih
theorem TabR.keys {kvs : List (K × Value)} {xs : List (K × β)} (x : TabR R kvs xs) : kvs.map (·.1) = xs.map (·.1) := by
  induction x with
  | nil => rfl
  | cons a _ ih => rw [List.map_cons, List.map_cons, ih, a.1]
theorem TabR.any (k : K) {kvs : List (K × Value)} {xs : List (K × β)} (x : TabR R kvs xs) : kvs.any (fun q => q.1 = k) = xs.any (fun q => q.1 = k) := by
  induction x with
  | nil => rfl
  | cons a _ ih => rw [List.any_cons, List.any_cons, ih, a.1]
theorem valueAt_cons (k : K) (p : K × Value) (r : List (K × Value)) : valueAt (p :: r) k = if p.1 = k then some p.2 else valueAt r k := by
  unfold valueAt
  rw [List.find?_cons]
  by_cases h : p.1 = k
  · simp [h]
  · simp [h]
theorem valueAt_none {kvs : List (K × Value)} {k : K} : valueAt kvs k = none ↔ kvs.any (fun q => q.1 = k) = false := by
  induction kvs with
  | nil => simp [valueAt]
  | cons p r ih =>
    rw [valueAt_cons, List.any_cons]
    by_cases h : p.1 = k
    · simp [h]
    · simp only [if_neg h, decide_eq_false h, Bool.false_or]; exact ih
theorem TabR.miss {kvs : List (K × Value)} {xs : List (K × β)} {k : K} (h : TabR R kvs xs) (hv : valueAt kvs k = none) {v : Value} {b : β} (f : β → β) (hb : R v b) : TabR R (stored kvs k v) (bumpR xs k f b) := by
  have ha := valueAt_none.mp hv
  unfold stored bumpR
  rw [← h.any k, ha]
  exact All2.app h (.cons ⟨rfl, hb⟩ .nil)
theorem map_absent (k : K) (f : K × β → K × β) : ∀ {xs : List (K × β)}, k ∉ xs.map (·.1) → (xs.map fun q => if q.1 = k then f q else q) = xs
  | [], _ => rfl
  | p :: r, h => by
    rw [List.map_cons, List.mem_cons, not_or] at h
    rw [List.map_cons, if_neg (fun e => h.1 e.symm), map_absent k f h.2]
theorem TabR.hit {kvs : List (K × Value)} {xs : List (K × β)} {k : K} {x : Value} (h : TabR R kvs xs) (hn : (kvs.map (·.1)).Nodup) (hv : valueAt kvs k = some x) :
    ∃ b, R x b ∧ ∀ v (f : β → β) b0, R v (f b) → TabR R (stored kvs k v) (bumpR xs k f b0) := by
  have ha : kvs.any (fun q => q.1 = k) = true := by
    cases e : kvs.any (fun q => q.1 = k) with
    | true => rfl
    | false => rw [valueAt_none.mpr e] at hv; cases hv
  have hb := (h.any k).symm.trans ha
  suffices g : ∃ b, R x b ∧ ∀ v (f : β → β), R v (f b) → TabR R (kvs.map fun kv => if kv.1 = k then (kv.1, v) else kv) (xs.map fun q => if q.1 = k then (q.1, f q.2) else q) by
    obtain ⟨b, h1, h2⟩ := g
    refine ⟨b, h1, fun v f b0 h3 => ?_⟩
    unfold stored bumpR
    rw [if_pos ha, if_pos hb]
    exact h2 v f h3
  clear ha hb
  induction h with
  | nil => cases hv
  | @cons p q r r' a h ih =>
    obtain ⟨a1, a2⟩ := a
    rw [valueAt_cons] at hv
    rw [List.map_cons, List.nodup_cons] at hn
    by_cases e : p.1 = k
    · rw [if_pos e] at hv
      cases hv
      refine ⟨q.2, a2, fun v f h3 => ?_⟩
      have n1 : k ∉ r.map (·.1) := e ▸ hn.1
      have n2 : k ∉ r'.map (·.1) := (TabR.keys h) ▸ n1
      rw [List.map_cons, List.map_cons, if_pos e, if_pos (a1 ▸ e), map_absent k (fun kv => (kv.1, v)) n1, map_absent k (fun q => (q.1, f q.2)) n2]
      exact .cons ⟨a1, h3⟩ h
    · rw [if_neg e] at hv
      obtain ⟨b, h1, h2⟩ := ih hn.2 hv
      refine ⟨b, h1, fun v f h3 => ?_⟩
      rw [List.map_cons, List.map_cons, if_neg e, if_neg (a1 ▸ e)]
      exact .cons ⟨a1, a2⟩ (h2 v f h3)
end
/-- a table of numbers -/
noncomputable abbrev DI (kvs : List (Int × Value)) (xs : List (Int × Int)) : Prop := TabR IV kvs xs
theorem stored_fresh {K : Type} [DecidableEq K] {kvs : List (K × Value)} {i : Nat} {k : K} {v : Value} (hn : (kvs.map (·.1)).Nodup) (h : kvs[i]? = some (k, v)) : stored (kvs.take i) k v = kvs.take (i + 1) := by
  rw [List.take_add_one, h]
  unfold stored
  rw [if_neg]
  · rfl
  intro ha
  obtain ⟨q, hq, e⟩ := List.any_eq_true.mp ha
  obtain ⟨j, hj⟩ := List.getElem?_of_mem hq
  have hji : j < i := by
    have := (List.getElem?_eq_some_iff.mp hj).1
    rw [List.length_take] at this; omega
  rw [List.getElem?_take_of_lt hji] at hj
  have e1 : (kvs.map (·.1))[j]? = some k := by rw [List.getElem?_map, hj]; simpa using e
  have e2 : (kvs.map (·.1))[i]? = some k := by rw [List.getElem?_map, h]; rfl
  have hi : i < (kvs.map (·.1)).length := (List.getElem?_eq_some_iff.mp e2).1
  have := (List.getElem?_inj (i := j) (j := i) (by omega) hn).mp (e1.trans e2.symm)
  omega
end Mine
end
end
section
open PySem PySem.W PyProof.Rows PySem.Calls PySem.Spec
set_option Elab.async false
set_option maxRecDepth 100000
noncomputable section
namespace Mine
theorem rules_W8 : True := by
  k_with_none
  w_top off
  k_with "storeName" => (k_here; with_reducible show wpAny _ _ (storeName _ _ (Value.int _ (Shared.toks _))) _ _ _; k_dflt (refine storeX_Li (by k_asm) (by k_asm) (fun t_kw h_kw F_kw N_kw => ?_) rfl rfl; try k_sweep))
  k_with "storeName" => (k_here; with_reducible show wpAny _ _ (storeName _ _ (Value.str _ (Shared.toks _))) _ _ _; k_dflt (refine storeX_Ls (by k_asm) (by k_asm) (fun t_kw h_kw F_kw N_kw => ?_) rfl rfl; try k_sweep))
  trivial
theorem fillK_W8 : (fun (_ : OpenLaw) (_ : Params → Frag) => True) PySem.Challenge.rw_xe0047_01 KF := by
  k_fill
  trivial
/-- what holds before each turn of the two loops -/
inductive CpyJ (w : World) (D : Addr) (kvs : List (Int × Value)) (m0 : Str → Option Value) (i : Nat) (m' : Str → Option Value) (nx : List (Addr × Obj)) : Prop
  | mk (o : Obj) (enx : nx = [(D, o)]) (ho : o.IsDictOf (intKind pw w) (kvs.take i)) (u1 u2 : Option Value) (em : m' = fun y => if y = Str.ofString "func" then u1 else if y = Str.ofString "caller" then u2 else if y = Str.ofString "new_callers" then some (.ref D) else m0 y) : CpyJ w D kvs m0 i m' nx
inductive BmpJ (w : World) (D d e : Addr) (kvs : List (Int × Value)) (xs : List (Int × Int)) (k v : Int) (i : Nat) (m' : Str → Option Value) (nx : List (Addr × Obj)) : Prop
  | mk (o : Obj) (kvs' : List (Int × Value)) (enx : nx = [(D, o)]) (ho : o.IsDictOf (intKind pw w) kvs') (h0 : i = 0 → kvs' = kvs) (h1 : i = 1 → DI kvs' (bumpR xs k (· + v) v)) (u1 u2 : Option Value) (em : m' = fun y => if y = Str.ofString "func" then u1 else if y = Str.ofString "caller" then u2 else if y = Str.ofString "new_callers" then some (.ref D) else List.lookup y [((Str.ofString "target" : Str), Value.ref d), ("source", .ref e)].reverse) : BmpJ w D d e kvs xs k v i m' nx
set_option maxHeartbeats 1000000 in
theorem addI_spec {w : World} {A : Around} {s : Shared} {h₀ : Heap} {L : Addr} {m : Str → Option Value} {dd : Nat} {Q E : Value → Shared → Prop} (d e : Addr) (kvs : List (Int × Value)) (xs : List (Int × Int)) (k v : Int) (tv : Tok)
    (hD : s.heap.DictOf (intKind pw w) d kvs) (hE : s.heap.DictOf (intKind pw w) e [(k, .int v tv)]) (hv : DI kvs xs) (lo : (d == sysModules) = false) (lo2 : (e == sysModules) = false) (hz : kvs.length ≤ 1000)
    (G : Env0 w A h₀ (dd + 1)) (F : Fr h₀ L s.heap m)
    (ret : ∀ h' tk' a o kvs', (a == sysModules) = false → s.heap.get? a = none → s.heap.StaysIn h' → h'.get? a = some o → o.IsDictOf (intKind pw w) kvs' → DI kvs' (bumpR xs k (· + v) v) → Q (.ref a) { s with heap := h', toks := tk' }) :
    wpAny (model pw w) A (call (.ref 56) [.ref d, .ref e]) Q E s := by
  refine enter (binds := [("target", .ref d), ("source", .ref e)]) G F rfl rfl rfl rfl (fun L' h₁ G' F' N' => ?_)
  obtain ⟨p, l, me, mg, mb, T⟩ := G'.T
  have X := G'.X
  have hh := G'.hh
  have hm0 : ∃ m0 : Str → Option Value, m0 = fun x => List.lookup x [((Str.ofString "target" : Str), Value.ref d), ("source", .ref e)].reverse := ⟨_, rfl⟩
  obtain ⟨m0, hm0⟩ := hm0
  iterate 5 walk1
  rename Fr _ _ _ _ => F1
  rename News _ _ _ _ => N1
  rename Obj.IsDictOf (intKind pw w) _ _ => hi1
  rename PyProof.V.FlatPairs PyData.str _ _ => fs1
  rename PyProof.V.FlatPairs PyData.int _ _ => fs2
  rename (_ == sysModules) = false => lo3
  rename_i D h9 o1 _ _ _
  clear fs1 fs2
  obtain ⟨_, _, _, _, _, _, _, _, hnod⟩ := id hD
  with_unfolding_all refine' For_turns F1 ?_
  walk1
  walk1
  refine meth_items F1 N1 hD lo fun h2 vw hvw F2 N2 => ?_
  refine itemsB (knd := intKind pw w) hh F2 N2 hvw hD (CpyJ w D kvs m0) ?_ ?_ ?_
  · refine ⟨o1, rfl, hi1, m0 (Str.ofString "func"), m0 (Str.ofString "caller"), ?_⟩
    subst hm0
    funext y
    by_cases h1 : y = Str.ofString "func"
    · subst h1; rfl
    by_cases h2 : y = Str.ofString "caller"
    · subst h2; rfl
    simp only [if_neg h1, if_neg h2]
  · rintro i k1 key v1 T1 m₁ nx h tk I oI hi hkey hT1 hn ⟨o, rfl, ho, u1, u2, rfl⟩ F3 N3
    have hne := hn _ (.head _)
    dsimp only at hne
    refine' unpackN_ F3 N3 hT1 ?k1 ?k2 ?k3 ?_
    case k1 => exact hh
    case k2 => exact rfl
    case k3 => exact rfl
    intro h4 F4 N4
    iterate 13 walk1
    rename Fr _ _ _ _ => F5
    rename News _ _ _ _ => N5
    dsimp only [List.cons_append, List.nil_append] at N5
    refine' kda_set (knd := intKind pw w) F5 N5 ?U ho hkey ?sz ?_
    case U => k_updF
    case sz => rw [sizeLine_eq, List.length_take]; omega
    intro h6 o6 F6 N6 ho6
    rw [stored_fresh hnod hi] at ho6

    k_steps
    refine turn_end (nx := [(D, _)]) F6 N6 (fun p hp => by rw [List.mem_singleton.mp hp]; exact hne) ⟨_, rfl, ho6, some key, some v1, ?_⟩
    funext y
    by_cases h1 : y = Str.ofString "func"
    · subst h1; rfl
    by_cases h2 : y = Str.ofString "caller"
    · subst h2; rfl
    simp only [if_neg h1, if_neg h2]
  rintro m₁ nx h tk ⟨oA, rfl, hoA, u1, u2, rfl⟩ F3 N3
  rw [List.take_length] at hoA
  clear hi1 N2 F2 hvw N1 F1
  subst hm0
  walk1
  with_unfolding_all refine' For_turns F3 ?_
  walk1
  walk1
  refine meth_items F3 N3 hE lo2 fun h2 vw hvw F2 N2 => ?_
  refine itemsB (knd := intKind pw w) hh F2 N2 hvw hE (BmpJ w D d e kvs xs k v) ?_ ?_ ?_
  · exact ⟨oA, kvs, rfl, hoA, fun _ => rfl, fun e => absurd e (by decide), _, _, rfl⟩
  · rintro i k1 key v1 T1 m₁ nx h tk I oI hi hkey hT1 hn ⟨o, kvs', rfl, ho, hk1, _, u1, u2, rfl⟩ F3 N3
    obtain rfl : i = 0 := by have := (List.getElem?_eq_some_iff.mp hi).1; simp at this; exact this
    obtain rfl := hk1 rfl
    cases hi
    obtain ⟨tk1, rfl⟩ := Value.isInt_shape hkey
    have hne := hn _ (.head _)
    dsimp only at hne
    refine' unpackN_ F3 N3 hT1 ?k1 ?k2 ?k3 ?_
    case k1 => exact hh
    case k2 => exact rfl
    case k3 => exact rfl
    intro h4 F4 N4
    iterate 13 walk1
    rename Fr _ _ _ _ => F5
    rename News _ _ _ _ => N5
    dsimp only [List.cons_append, List.nil_append] at N5
    refine' kda_in (knd := intKind pw w) ?kN ?km ho lo3 hkey ((valueAt kvs' k).isSome) rfl ?_
    case kN => exact N5
    case km => exact .head _
    have hod : (kvs'.map (·.1)).Nodup := keysNodup_of_isDictOf ho
    cases hb : (valueAt kvs' k).isSome with
    | true =>
      obtain ⟨x, hx⟩ := Option.isSome_iff_exists.mp hb
      obtain ⟨y, ⟨ty, rfl⟩, hbump⟩ := TabR.hit hv hod hx
      repeat walk1
      refine' kdt_getItem (knd := intKind pw w) ?kN ?km ho hkey hx ?_
      case kN => exact N5
      case km => exact .head _
      repeat walk1
      refine' kda_set (knd := intKind pw w) F5 N5 ?U ho hkey ?sz ?_
      case U => k_updF
      case sz => rw [sizeLine_eq]; omega
      intro h6 o6 F6 N6 ho6
      k_steps
      refine turn_end (nx := [(D, _)]) F6 N6 (fun p hp => by rw [List.mem_singleton.mp hp]; exact hne) ⟨_, _, rfl, ho6, (fun e => nomatch e), (fun _ => hbump _ (· + v) v ⟨_, rfl⟩), some (.int k tk1), some (.int v tv), ?_⟩
      funext y
      by_cases h1 : y = Str.ofString "func"
      · subst h1; rfl
      by_cases h2 : y = Str.ofString "caller"
      · subst h2; rfl
      simp only [if_neg h1, if_neg h2]
    | false =>
      have hx : valueAt kvs' k = none := by cases e : valueAt kvs' k with
        | none => rfl
        | some x => rw [e] at hb; cases hb
      repeat walk1
      refine' kda_set (knd := intKind pw w) F5 N5 ?U ho hkey ?sz ?_
      case U => k_updF
      case sz => rw [sizeLine_eq]; omega
      intro h6 o6 F6 N6 ho6
      k_steps
      refine turn_end (nx := [(D, _)]) F6 N6 (fun p hp => by rw [List.mem_singleton.mp hp]; exact hne) ⟨_, _, rfl, ho6, (fun e => nomatch e), (fun _ => TabR.miss hv hx _ ⟨_, rfl⟩), some (.int k tk1), some (.int v tv), ?_⟩
      funext y
      by_cases h1 : y = Str.ofString "func"
      · subst h1; rfl
      by_cases h2 : y = Str.ofString "caller"
      · subst h2; rfl
      simp only [if_neg h1, if_neg h2]
  · rintro m₁ nx h tk ⟨o, kvs', rfl, ho, _, hk1, u1, u2, rfl⟩ F3 N3
    k_steps
    rename Fr _ _ _ _ => F4
    have hz1 := N3 _ (.head _)
    exact ret _ _ D o kvs' lo3 hz1.2.2 (Fr.keep F4) hz1.1 ho (hk1 rfl)
end Mine
end
end
section
open PySem PySem.W PyProof.Rows PySem.Calls PySem.Spec
set_option Elab.async false
set_option maxRecDepth 100000
noncomputable section
namespace Mine
section
variable {prog : Program} {w : World} {A : Around} {E : Value → Shared → Prop} {s : Shared} {env : Env} {h₀ : Heap} {x : Str} {px : Pos} {body : List Stmt} {Q : Flow → Shared → Prop} {m₀ : Str → Option Value} {news : List (Addr × Obj)}
theorem letGo_name {I : Addr} {v : Value} {Q' : Unit → Shared → Prop} (h : Q' () s) : wpAny (model prog w) A (letOwnedTupleGo (.Name x px) (.ref I) v) Q' E s := by
  unfold letOwnedTupleGo; exact wpAny_pure h
theorem listB {l : Addr} {items : Array Value} (hh : A.handled = none) (F : Fr h₀ env.locals s.heap m₀) (N : News h₀ env.locals s.heap news) (hl : h₀.IsList l items)
    (J : Nat → (Str → Option Value) → List (Addr × Obj) → Prop) (h0 : J 0 m₀ news)
    (turn : ∀ i v m₁ nx h tk I oI, items[i]? = some v → (∀ p ∈ nx, @Ne Nat p.1 I) → J i m₁ nx → Fr h₀ env.locals h m₁ → News h₀ env.locals h (nx ++ [(I, oI)]) →
      wpAny (model prog w) A (assign (.Name x px) env v) (fun _ s₃ => wpAny (model prog w) A (execs body env) (TurnPost h₀ env.locals I oI (J (i + 1)) { s with heap := h, toks := tk } Q) E s₃) E { s with heap := h, toks := tk })
    (done : ∀ m₁ nx h tk, J items.size m₁ nx → Fr h₀ env.locals h m₁ → News h₀ env.locals h nx → Q .next { s with heap := h, toks := tk }) :
    wpAny (model prog w) A (pyIter (.ref l)) (fun it s₂ => TurnsAt prog w A h₀ env (.Name x px) body Q E it s₂) E s := by
  have hls : s.heap.IsList l items := hl.at fun o e => F.keep _ _ e
  obtain ⟨ol, hol, _⟩ := id hl
  have hne : l ≠ s.heap.objs.size := by obtain ⟨_, e, _⟩ := hls; exact Nat.ne_of_lt (Heap.lt_size e)
  refine wpAny_pyIter_list hls ?_
  refine turnsB rfl (KTurns.ofWalks (Walks.list hh s.heap.objs.size l hne items) fun i v s Q E _ q => letGo_name q) ?_ (.head _) ?_ ⟨⟨_, Heap.get?_push_size _ rfl, rfl, rfl⟩, hls.push _⟩ F N J h0 ?_ done
  · intro b hb
    rcases List.mem_cons.mp hb with e | hb
    · exact .inl e
    · rw [List.mem_singleton.mp hb, hol]; exact .inr rfl
  · rintro i h ⟨⟨o, e, _⟩, _⟩; exact ⟨o, e⟩
  · rintro i v m₁ nx h tk I oI hi hv hn hJ F' N'
    exact turn i v m₁ nx h tk I oI hv hn hJ F' N'
theorem rangeB {r : Addr} {a₀ b₀ : Int} {t₀ u₀ v₀ : Tok} {n : Nat} (hh : A.handled = none) (hr : IsRange s.heap r a₀ b₀ 1 t₀ u₀ v₀) (hsmall : Builtin.Range.small a₀ b₀ 1 = true) (hn : Builtin.Range.rangeSize a₀ b₀ 1 = (n : Int)) (F : Fr h₀ env.locals s.heap m₀) (N : News h₀ env.locals s.heap news)
    (J : Nat → (Str → Option Value) → List (Addr × Obj) → Prop) (h0 : J 0 m₀ news)
    (turn : ∀ i t m₁ nx h tk I oI, i < n → (∀ p ∈ nx, @Ne Nat p.1 I) → J i m₁ nx → Fr h₀ env.locals h m₁ → News h₀ env.locals h (nx ++ [(I, oI)]) →
      wpAny (model prog w) A (assign (.Name x px) env (.int (a₀ + (i : Nat)) t)) (fun _ s₃ => wpAny (model prog w) A (execs body env) (TurnPost h₀ env.locals I oI (J (i + 1)) { s with heap := h, toks := tk } Q) E s₃) E { s with heap := h, toks := tk })
    (done : ∀ m₁ nx h tk, J n m₁ nx → Fr h₀ env.locals h m₁ → News h₀ env.locals h nx → Q .next { s with heap := h, toks := tk }) :
    wpAny (model prog w) A (pyIter (.ref r)) (fun it s₂ => TurnsAt prog w A h₀ env (.Name x px) body Q E it s₂) E s := by
  refine wpAny_pyIter_range hr hsmall ?_
  have W : Walks prog w A s.heap.objs.size [s.heap.objs.size] [s.heap.objs.size] n (fun i v => i < n ∧ ∃ t, v = .int (a₀ + i * 1) t)
      (fun i h => IsRangeIter h s.heap.objs.size (a₀ + (i : Nat) * 1) ((n : Int) - (i : Nat)) 1) := (Walks.range hh _ a₀ 1 n).bound
  refine turnsB rfl (KTurns.ofWalks W fun i v s Q E _ q => letGo_name q) (fun b hb => .inl (List.mem_singleton.mp hb)) (.head _) (fun i h st => ⟨_, st⟩) (by show IsRangeIter _ _ _ _ _; rw [hn]; simpa using Heap.get?_push_size _ rfl) F N J h0 ?_ done
  rintro i v m₁ nx h tk I oI hi ⟨_, t, rfl⟩ hn hJ F' N'
  rw [Int.mul_one]
  exact turn i t m₁ nx h tk I oI hi hn hJ F' N'
end
end Mine
end
end
section
open PySem PySem.W PyProof.Rows PySem.Calls PySem.Spec
set_option Elab.async false
set_option maxRecDepth 100000
noncomputable section
namespace Mine
theorem rules_W9 : True := by
  k_with_none
  w_top off
  k_with "storeName" => (k_here; with_reducible show wpAny _ _ (storeName _ _ (Value.int _ (Shared.toks _))) _ _ _; k_dflt (refine storeX_Li (by k_asm) (by k_asm) (fun t_kw h_kw F_kw N_kw => ?_) rfl rfl; try k_sweep))
  k_with "storeName" => (k_here; with_reducible show wpAny _ _ (storeName _ _ (Value.str _ (Shared.toks _))) _ _ _; k_dflt (refine storeX_Ls (by k_asm) (by k_asm) (fun t_kw h_kw F_kw N_kw => ?_) rfl rfl; try k_sweep))
  trivial
theorem fillK_W9 : (fun (_ : OpenLaw) (_ : Params → Frag) => True) PySem.Challenge.rw_xe0047_01 KF := by
  k_fill
  trivial
/-- a row of statistics: four columns and a table -/
structure StatAt (w : World) (h : Heap) (a : Addr) (c1 c2 c3 c4 : Int) (d : Addr) (xs : List (Int × Int)) : Prop where
  tup : ∃ t1 t2 t3 t4, h.get? a = some (tupOf #[.int c1 t1, .int c2 t2, .int c3 t3, .int c4 t4, .ref d])
  lo : (d == sysModules) = false
  dict : ∃ o kvs, h.get? d = some o ∧ o.IsDictOf (intKind pw w) kvs ∧ DI kvs xs
set_option maxHeartbeats 1000000 in
theorem stats_spec {w : World} {A : Around} {s : Shared} {h₀ : Heap} {L : Addr} {m : Str → Option Value} {dd : Nat} {Q E : Value → Shared → Prop} (a b d e : Addr) (c1 c2 c3 c4 e1 e2 e3 e4 : Int) (xs : List (Int × Int)) (k v : Int) (u1 u2 u3 u4 tv : Tok)
    (hS : StatAt w s.heap a c1 c2 c3 c4 d xs) (hT : s.heap.IsTuple b #[.int e1 u1, .int e2 u2, .int e3 u3, .int e4 u4, .ref e]) (hE : s.heap.DictOf (intKind pw w) e [(k, .int v tv)]) (lo2 : (e == sysModules) = false) (hz : xs.length ≤ 1000)
    (G : Env0 w A h₀ (dd + 2)) (F : Fr h₀ L s.heap m)
    (ret : ∀ h' tk' a' d', s.heap.get? a' = none → s.heap.get? d' = none → s.heap.StaysIn h' → StatAt w h' a' (e1 + c1) (e2 + c2) (e3 + c3) (e4 + c4) d' (bumpR xs k (· + v) v) → Q (.ref a') { s with heap := h', toks := tk' }) :
    wpAny (model pw w) A (call (.ref 49) [.ref a, .ref b]) Q E s := by
  refine enter (binds := [("target", .ref a), ("source", .ref b)]) G F rfl rfl rfl rfl (fun L' h₁ G' F' N' => ?_)
  obtain ⟨p, l, me, mg, mb, T⟩ := G'.T
  have X := G'.X
  have hh := G'.hh
  obtain ⟨⟨t1, t2, t3, t4, ha⟩, lo, o, kvs, hd, ho, hv⟩ := hS
  have hT1 : s.heap.IsTuple a #[.int c1 t1, .int c2 t2, .int c3 t3, .int c4 t4, .ref d] := ⟨_, ha, rfl, _, rfl⟩
  have hD : s.heap.DictOf (intKind pw w) d kvs := Heap.dictOf_iff.mpr ⟨o, hd, ho⟩
  repeat walk1
  refine' unpackN_ F' N' (hT.at fun o e => F'.keep _ _ e) ?k1 ?k2 ?k3 ?_
  case k1 => exact hh
  case k2 => exact rfl
  case k3 => exact rfl
  intro h4 F4 N4
  clear F' N'
  repeat walk1
  rename Fr _ _ _ _ => F5
  rename News _ _ _ _ => N5
  refine' unpackN_ F5 N5 (hT1.at fun o e => F5.keep _ _ e) ?k1 ?k2 ?k3 ?_
  case k1 => exact hh
  case k2 => exact rfl
  case k3 => exact rfl
  intro h6 F6 N6
  clear F5 N5
  repeat walk1
  rename Fr _ _ _ _ => F7
  rename News _ _ _ _ => N7
  refine addI_spec d e kvs xs k v tv (hD.at fun o e => F7.keep _ _ e) (hE.at fun o e => F7.keep _ _ e) hv lo lo2 (by rw [hv.length]; exact hz) G' F7 ?_
  intro h8 tk8 a' o' kvs' lo8 n8 k8 g8 ho8 hv8
  have n9 : s.heap.get? a' = none := by
    cases q : s.heap.get? a' with
    | none => rfl
    | some oo => rw [F7.keep _ _ q] at n8; cases n8
  have nL : a' ≠ L' := fun q => by
    obtain ⟨oo, _, _, e, _⟩ := F7.ns
    rw [q, e] at n8; cases n8
  have F8 := Fr.stay F7 k8
  have N8 : News s.heap L' h8 [(a', o')] := fun p hp => by rw [List.mem_singleton.mp hp]; exact ⟨g8, nL, n9⟩
  clear F7 N7 k8
  repeat walk1
  rename Fr _ _ _ _ => F9
  rename News _ _ _ _ => N9
  have z1 := N9 _ (.head _)
  have z2 := N9 _ (.tail _ (.head _))
  exact ret _ _ _ _ z1.2.2 n9 (Fr.keep F9) ⟨⟨_, _, _, _, z1.1⟩, lo8, ⟨_, _, z2.1, ho8, hv8⟩⟩
end Mine
end
end
section
open PySem PySem.W PyProof.Rows PySem.Calls PySem.Spec
set_option Elab.async false
set_option maxRecDepth 100000
noncomputable section
namespace Mine
theorem rules_W10 : True := by
  k_with_none
  w_top off
  k_with "storeName" => (k_here; with_reducible show wpAny _ _ (storeName _ _ (Value.int _ (Shared.toks _))) _ _ _; k_dflt (refine storeX_Li (by k_asm) (by k_asm) (fun t_kw h_kw F_kw N_kw => ?_) rfl rfl; try k_sweep))
  k_with "storeName" => (k_here; with_reducible show wpAny _ _ (storeName _ _ (Value.str _ (Shared.toks _))) _ _ _; k_dflt (refine storeX_Ls (by k_asm) (by k_asm) (fun t_kw h_kw F_kw N_kw => ?_) rfl rfl; try k_sweep))
  trivial
theorem fillK_W10 : (fun (_ : OpenLaw) (_ : Params → Frag) => True) PySem.Challenge.rw_xe0047_01 KF := by
  k_fill
  trivial
/-- what the entry is made of -/
structure Ent where
  c1 : Int
  c2 : Int
  c3 : Int
  c4 : Int
  t : List (Int × Int)
noncomputable def entStep (e : Ent) (x : Int) : Ent := ⟨1 + e.c1, x + e.c2, (x * (x - 1)).fdiv 2 + e.c3, (x * (x - 1) * (x - 2)).fdiv 6 + e.c4, bumpR e.t x (· + 1) 1⟩
noncomputable def entL (l : List Int) : Ent := l.foldl entStep ⟨0, 0, 0, 0, []⟩
theorem entL_next {l : List Int} {i : Nat} {c : Int} (h : l[i]? = some c) : entL (l.take (i + 1)) = entStep (entL (l.take i)) c := by
  unfold entL; rw [List.take_add_one, h, List.foldl_append]; rfl
theorem ent_len : ∀ (l : List Int) (e : Ent), (l.foldl entStep e).t.length ≤ e.t.length + l.length
  | [], e => by simp
  | x :: r, e => by
    have h := ent_len r (entStep e x)
    have h1 : (entStep e x).t.length ≤ e.t.length + 1 := by
      show (bumpR e.t x (· + 1) 1).length ≤ _
      unfold bumpR; split
      · simp
      · simp
    rw [List.foldl_cons, List.length_cons]; omega
theorem fresh_ne {h : Heap} {a b : Addr} {o : Obj} (hn : h.get? a = none) (he : h.get? b = some o) : @Ne Nat a b := fun q => by
  have e : h.get? a = some o := (congrArg h.get? q).trans he
  rw [hn] at e; cases e
theorem Fr.neL {h₀ h : Heap} {L a : Addr} {m : Str → Option Value} (F : Fr h₀ L h m) (hn : h.get? a = none) : a ≠ L := by
  obtain ⟨oo, _, _, e, _⟩ := F.ns
  exact fresh_ne hn e
theorem Fr.noB {h₀ h : Heap} {L a : Addr} {m : Str → Option Value} (F : Fr h₀ L h m) (hn : h.get? a = none) : h₀.get? a = none := by
  cases q : h₀.get? a with
  | none => rfl
  | some oo => rw [F.keep _ _ q] at hn; cases hn
/-- what holds before each turn -/
inductive EntJ (w : World) (xs : List Int) (m0 : Str → Option Value) (i : Nat) (m' : Str → Option Value) (nx : List (Addr × Obj)) : Prop
  | mk (a d : Addr) (o : Obj) (kvs : List (Int × Value)) (t1 t2 t3 t4 : Tok) (enx : nx = [(a, tupOf #[.int (entL (xs.take i)).c1 t1, .int (entL (xs.take i)).c2 t2, .int (entL (xs.take i)).c3 t3, .int (entL (xs.take i)).c4 t4, .ref d]), (d, o)]) (hd : (d == sysModules) = false) (ho : o.IsDictOf (intKind pw w) kvs) (hdi : DI kvs (entL (xs.take i)).t)
      (u1 : Option Value) (em : m' = fun y => if y = Str.ofString "hit" then u1 else if y = Str.ofString "entry" then some (.ref a) else m0 y) : EntJ w xs m0 i m' nx
set_option maxHeartbeats 1000000 in
theorem entry_spec {w : World} {A : Around} {s : Shared} {h₀ : Heap} {L : Addr} {m : Str → Option Value} {dd : Nat} {Q E : Value → Shared → Prop} (l : Addr) (vs : List Value) (xs : List Int)
    (hl : s.heap.IsList l vs.toArray) (hV : All2 IV vs xs) (hx : ∀ x ∈ xs, 0 ≤ x ∧ x ≤ 5) (hz : xs.length ≤ 500)
    (G : Env0 w A h₀ (dd + 3)) (F : Fr h₀ L s.heap m)
    (ret : ∀ h' tk' a' d', s.heap.get? a' = none → s.heap.get? d' = none → s.heap.StaysIn h' → StatAt w h' a' (entL xs).c1 (entL xs).c2 (entL xs).c3 (entL xs).c4 d' (entL xs).t → Q (.ref a') { s with heap := h', toks := tk' }) :
    wpAny (model pw w) A (call (.ref 193) [.ref l]) Q E s := by
  refine enter (binds := [("hits", .ref l)]) G F rfl rfl rfl rfl (fun L' h₁ G' F' N' => ?_)
  obtain ⟨p, lq, me, mg, mb, T⟩ := G'.T
  have X := G'.X
  have hh := G'.hh
  have hm0 : ∃ m0 : Str → Option Value, m0 = fun x => List.lookup x [((Str.ofString "hits" : Str), Value.ref l)].reverse := ⟨_, rfl⟩
  obtain ⟨m0, hm0⟩ := hm0
  revert w A s Q E L'
  set_option tactic.hygienic false in intros
  as_aux_lemma =>
  repeat walk1
  rename Fr _ _ _ _ => F1
  rename News _ _ _ _ => N1
  rename Obj.IsDictOf (intKind pw w) _ _ => hi1
  rename PyProof.V.FlatPairs PyData.str _ _ => fs1
  rename PyProof.V.FlatPairs PyData.int _ _ => fs2
  rename Obj.IsDictOf (PySem.strKind pw w) _ _ => hi2
  rename (_ == sysModules) = false => lo3
  clear fs1 fs2 hi2
  with_unfolding_all refine' For_turns F1 ?_
  walk1
  refine listB hh F1 N1 hl (EntJ w xs m0) ?_ ?_ ?_
  · refine ⟨_, _, _, _, _, _, _, _, rfl, lo3, hi1, .nil, m0 (Str.ofString "hit"), ?_⟩
    subst hm0
    funext y
    by_cases h1 : y = Str.ofString "hit"
    · subst h1; rfl
    simp only [if_neg h1]
  · rintro i v m₁ nx h tk I oI hi hn ⟨a, d, o, kvs, t1, t2, t3, t4, rfl, lo4, ho, hv, u1, rfl⟩ F3 N3
    clear F1 N1 hi1 lo3
    obtain ⟨x, hx1⟩ : ∃ x, xs[i]? = some x := ⟨_, List.getElem?_eq_getElem (by rw [← hV.length]; have := (Array.getElem?_eq_some_iff.mp hi).1; simpa using this)⟩
    obtain ⟨v', hv', tx, rfl⟩ := hV.get hx1
    rw [List.getElem?_toArray, hv'] at hi
    cases hi
    obtain ⟨hx2, hx3⟩ := hx x (List.mem_of_getElem? hx1)
    revert w A s Q E L'
    set_option tactic.hygienic false in intros
    as_aux_lemma =>
    repeat walk1
    rename Fr _ _ _ _ => F4
    rename News _ _ _ _ => N4
    dsimp only [List.cons_append, List.nil_append] at N4
    refine' kdn_eval (knd := intKind pw w) F4 N4 T.nolimit rfl rfl (List.cons_ne_nil _ _) (by decide) ?_
    intro D2 h5 o5 F5 N5 lt5 lo5 hd5
    k_lt lt5
    clear F4 N4
    revert w A s Q E L'
    set_option tactic.hygienic false in intros
    as_aux_lemma =>
    repeat walk1
    rename Fr _ _ _ _ => F6
    rename News _ _ _ _ => N6
    rename Obj.IsDictOf (intKind pw w) _ (intKeyPairs _) => hd6
    have hS : StatAt w _ a (entL (xs.take i)).c1 (entL (xs.take i)).c2 (entL (xs.take i)).c3 (entL (xs.take i)).c4 d (entL (xs.take i)).t :=
      ⟨⟨_, _, _, _, (N6 _ (.tail _ (.tail _ (.head _)))).1⟩, lo4, ⟨_, _, (N6 _ (.tail _ (.tail _ (.tail _ (.head _))))).1, ho, hv⟩⟩
    have hI := (N6 _ (.tail _ (.tail _ (.tail _ (.tail _ (.head _)))))).1
    refine stats_spec a _ d D2 _ _ _ _ 1 x _ _ _ x 1 _ _ _ _ _ hS ⟨_, (N6 _ (.head _)).1, rfl, _, rfl⟩ (Heap.dictOf_iff.mpr ⟨_, (N6 _ (.tail _ (.head _))).1, hd6⟩) lo5 ?_ G' F6 ?_
    · have h1 := ent_len (xs.take i) ⟨0, 0, 0, 0, []⟩
      have h2 : (xs.take i).length ≤ xs.length := by rw [List.length_take]; omega
      show (entL (xs.take i)).t.length ≤ 1000
      unfold entL
      simp at h1; omega
    intro h7 tk7 a' d' na nd k7 hS7
    have nd1 := fresh_ne nd hI
    have na1 := fresh_ne na hI
    obtain ⟨⟨t1', t2', t3', t4', g1⟩, lo7, o', kvs', g2, ho7, hv7⟩ := hS7
    have N8 : News s.heap L' h7 [(a', _), (d', _), (I, oI)] := fun p hp => by
      rcases List.mem_cons.mp hp with rfl | hp
      · exact ⟨g1, Fr.neL F6 na, Fr.noB F6 na⟩
      rcases List.mem_cons.mp hp with rfl | hp
      · exact ⟨g2, Fr.neL F6 nd, Fr.noB F6 nd⟩
      rw [List.mem_singleton.mp hp]
      exact ⟨k7 _ _ hI, (N6 _ (.tail _ (.tail _ (.tail _ (.tail _ (.head _)))))).2⟩
    have F8 := Fr.stay F6 k7
    clear F6 N6 F3 N3 k7 hS hd6
    revert w A s Q E L'
    set_option tactic.hygienic false in intros
    as_aux_lemma =>
    k_steps
    rename Fr _ _ _ _ => F9
    rename News _ _ _ _ => N9
    refine turn_end (nx := [(a', _), (d', _)]) F9 N9 ?_ ⟨a', d', o', kvs', t1', t2', t3', t4', ?_, lo7, ho7, ?_, some (.int x tx), ?_⟩
    · intro p hp
      rcases List.mem_cons.mp hp with rfl | hp
      · exact na1
      rw [List.mem_singleton.mp hp]; exact nd1
    · rw [entL_next hx1]; rfl
    · rw [entL_next hx1]; exact hv7
    · funext y
      by_cases h1 : y = Str.ofString "hit"
      · subst h1; rfl
      by_cases h2 : y = Str.ofString "entry"
      · subst h2; rfl
      simp only [if_neg h1, if_neg h2]
  · rintro m₁ nx h tk ⟨a, d, o, kvs, t1, t2, t3, t4, rfl, lo4, ho, hv, u1, rfl⟩ F3 N3
    have e : vs.toArray.size = xs.length := by rw [List.size_toArray]; exact hV.length
    rw [e, List.take_length] at N3 hv
    revert w A s Q E L'
    set_option tactic.hygienic false in intros
    as_aux_lemma =>
    k_steps
    rename Fr _ _ _ _ => F4
    have z1 := N3 _ (.head _)
    have z2 := N3 _ (.tail _ (.head _))
    exact ret _ _ _ _ z1.2.2 z2.2.2 (Fr.keep F4) ⟨⟨_, _, _, _, z1.1⟩, lo4, ⟨_, _, z2.1, ho, hv⟩⟩
end Mine
end
end
section
open PySem PySem.W PyProof.Rows PySem.Calls PySem.Spec
set_option Elab.async false
set_option maxRecDepth 100000
noncomputable section
namespace Mine
/-- all that stood stands, but at these addresses -/
noncomputable def StayBut (Ps : List Addr) (h h' : Heap) : Prop := ∀ b o, b ∉ Ps → h.get? b = some o → h'.get? b = some o
theorem StayBut.of {Ps : List Addr} {h h' : Heap} (k : h.StaysIn h') : StayBut Ps h h' := fun b o _ e => k b o e
theorem StayBut.trans {Ps : List Addr} {h h' h'' : Heap} (k : StayBut Ps h h') (k' : StayBut Ps h' h'') : StayBut Ps h h'' := fun b o hb e => k' b o hb (k b o hb e)
theorem StayBut.sub {Ps Qs : List Addr} {h h' : Heap} (k : StayBut Ps h h') (hs : ∀ b ∈ Ps, b ∈ Qs) : StayBut Qs h h' := fun b o hb e => k b o (fun q => hb (hs b q)) e
theorem StayBut.base {Ps : List Addr} {B h h' : Heap} (k : StayBut Ps h h') (hB : ∀ P ∈ Ps, B.get? P = none) (kB : B.StaysIn h) : B.StaysIn h' := fun b o e => k b o (fun q => by rw [hB b q] at e; cases e) (kB b o e)
theorem Fr.but {Ps : List Addr} {B h h' : Heap} {L : Addr} {m : Str → Option Value} (F : Fr B L h m) (hB : ∀ P ∈ Ps, B.get? P = none) (hL : L ∉ Ps) (k : StayBut Ps h h') : Fr B L h' m :=
  ⟨let ⟨o, es, ep, e, r⟩ := F.ns; ⟨o, es, ep, k _ _ hL e, r⟩, k.base hB F.keep, F.above⟩
theorem News.but {Ps : List Addr} {B h h' : Heap} {L : Addr} {news : List (Addr × Obj)} (N : News B L h news) (hn : ∀ p ∈ news, p.1 ∉ Ps) (k : StayBut Ps h h') : News B L h' news :=
  fun p hp => ⟨k _ _ (hn p hp) (N p hp).1, (N p hp).2⟩
theorem hide_fr {Ps : List Addr} {h h₁ : Heap} {L : Addr} {m : Str → Option Value} (F : Fr h L h₁ m) : Fr (hideAll h Ps) L h₁ m := ⟨F.ns, fun b o e => F.keep b o (of_hideAll _ e), Nat.le_trans (Nat.le_of_eq (hideAll_size _ _)) F.above⟩
theorem hide_none {Ps : List Addr} {h : Heap} {b : Addr} (e : h.get? b = none) : (hideAll h Ps).get? b = none := by
  cases q : (hideAll h Ps).get? b with
  | none => rfl
  | some o => rw [of_hideAll _ q] at e; cases e
theorem hide_news {Ps : List Addr} {h h₁ : Heap} {L : Addr} {news : List (Addr × Obj)} (N : News h L h₁ news) : News (hideAll h Ps) L h₁ news := fun p hp => ⟨(N p hp).1, (N p hp).2.1, hide_none (N p hp).2.2⟩
theorem hide_more {Ps : List Addr} {h h₁ : Heap} {L P : Addr} {o : Obj} {m : Str → Option Value} {news : List (Addr × Obj)} (F : Fr h L h₁ m) (hP : h.get? P = some o) (hm : P ∈ Ps) (N : News (hideAll h Ps) L h₁ news) : News (hideAll h Ps) L h₁ ((P, o) :: news) := fun p hp => by
  rcases List.mem_cons.mp hp with rfl | hp
  · exact ⟨F.keep _ _ hP, Nat.ne_of_lt (Nat.lt_of_lt_of_le (Heap.lt_size hP) F.above), hideAll_none _ hm⟩
  · exact N p hp
theorem hide_base {Ps : List Addr} {B h : Heap} (k : B.StaysIn h) (hB : ∀ P ∈ Ps, B.get? P = none) : B.StaysIn (hideAll h Ps) := fun b o e => hideAll_get _ (k b o e) fun q => by rw [hB b q] at e; cases e
theorem Env0.stay {w : World} {A : Around} {h₀ h : Heap} {d : Nat} (x : Env0 w A h₀ d) (k : h₀.StaysIn h) : Env0 w A h d :=
  ⟨x.X.keeps k, let ⟨p, l, me, mg, mb, T⟩ := x.T; ⟨p, l, me, mg, mb, T.keeps k⟩, x.hh, x.hd, x.hu⟩
theorem Env0.down {w : World} {A : Around} {h₀ : Heap} {d d' : Nat} (x : Env0 w A h₀ d) (h : d' ≤ d) : Env0 w A h₀ d' := ⟨x.X, x.T, x.hh, by have := x.hd; omega, by have := x.hu; omega⟩
/-- a def of the top with cells, entered, over what stands -/
theorem enterCK {w : World} {A : Around} {s : Shared} {h₀ : Heap} {d : Nat} {Q E : Value → Shared → Prop} {name : Str} {params : Arguments} {body : List Stmt} {scope : Scope} {pm cd : Value} {f : Addr} {args : List Value} {binds : List (Str × Value)}
    (G : Env0 w A h₀ (d + 1)) (kB : h₀.StaysIn s.heap)
    (ho : (KF w.params).lookup f = some { cls := .type "function", dict := none, data := .func (docDef name params body scope pm cd .none), slots := #[] }) (hcd : codeIn (KF w.params) cd name = true)
    (hbind : bindArgs (docDef name params body scope pm cd .none) ⟨args, []⟩ = pure binds) (hkind : (binds.all fun y => scope.names.lookup y.1 == some .local || scope.names.lookup y.1 == some .cell) = true)
    (hnd : ((cellsFrom 0 scope.names []).map (·.1)).Nodup)
    (h : ∀ L' h₁ tk cells, Env0 w (A.deeper (envOfC name scope L' f cd)) h₀ d → Fr s.heap L' h₁ (bindL (envOfC name scope L' f cd).kindOf binds fun _ => none) → News s.heap L' h₁ cells →
      CellsAre (bindC (envOfC name scope L' f cd).kindOf binds fun _ => none) (cellsFrom (L' + 1) scope.names []) cells →
      wpAny (model pw w) (A.deeper (envOfC name scope L' f cd)) (execs body (envOfC name scope L' f cd)) (fun fl s' => Q (match fl with | .ret v => v | _ => .none) s') (fun _ _ => False) { s with heap := h₁, toks := tk })
    (hco : scope.isCoroutine = false := by rfl) (hgen : scope.isGenerator = false := by rfl) (hk : scope.kind = .function := by rfl) : wpAny (model pw w) A (call (.ref f) args) Q E s := by
  obtain ⟨p, l, me, mg, mb, T⟩ := G.T
  refine wpAny_call (call_cellsN_ret (by have := G.hd; show A.depth < 1000; omega) ((G.X.keeps kB) _ _ ho) rfl (T.nolimit.keeps kB) (codeRec_of (G.X.keeps kB) hcd) hbind (kindsX hkind _) hnd (fun h₁ tk cells F₁ N₁ Y => ?_) hco hgen hk)
  exact wpAny_mono (h _ h₁ tk cells (G.deeper (h := h₀) fun _ _ e => e) F₁ N₁ Y) (fun fl s' q => q) fun _ _ e => e
/-- a def made in a body, entered -/
theorem enterX {w : World} {A : Around} {s : Shared} {h₀ : Heap} {d : Nat} {Q E : Value → Shared → Prop} {name qual : Str} {params : Arguments} {body : List Stmt} {scope : Scope} {cl : List (Str × Addr)} {doc pm ctv : Value} {c' f : Addr} {args : List Value} {binds : List (Str × Value)}
    (G : Env0 w A h₀ (d + 1)) (kB : h₀.StaysIn s.heap)
    (ho : s.heap.get? f = some (fnMade name qual params body scope cl doc pm c' ctv)) (hcd : s.heap.CodeRec (.ref c') qual)
    (hbind : bindArgs (fnX name qual params body scope cl .none .none doc pm none (.ref c') ctv) ⟨args, []⟩ = pure binds) (hloc : (binds.all fun x => decide (scope.names.lookup x.1 = some .local)) = true)
    (h : ∀ L' h₁, Env0 w (A.deeper (envX qual scope L' f (.ref c') cl)) h₀ d → Fr s.heap L' h₁ (fun x => binds.reverse.lookup x) → News s.heap L' h₁ [] →
      wpAny (model pw w) (A.deeper (envX qual scope L' f (.ref c') cl)) (execs body (envX qual scope L' f (.ref c') cl)) (fun fl s' => Q (match fl with | .ret v => v | _ => .none) s') (fun _ _ => False) { s with heap := h₁, toks := s.toks + binds.length })
    (hco : scope.isCoroutine = false := by rfl) (hgen : scope.isGenerator = false := by rfl) (hk : scope.kind = .function := by rfl)
    (hcell : ∀ x ∈ scope.names, x.2 ≠ .cell := by decide) : wpAny (model pw w) A (call (.ref f) args) Q E s := by
  obtain ⟨p, l, me, mg, mb, T⟩ := G.T
  refine wpAny_call (codeAny_call_def (fd := fnX name qual params body scope cl .none .none doc pm none (.ref c') ctv) (body := body) (binds := binds) (by have := G.hd; show A.depth < 1000; omega) ho rfl (T.nolimit.keeps kB) hcd rfl (BindsTo.of_eq hbind) hcell (locs hloc) (fun h₁ hns hk₁ => ?_) hco hgen hk)
  exact wpAny_mono (h _ h₁ (G.deeper (h := h₀) fun _ _ e => e) ⟨hns, hk₁, Nat.le_refl _⟩ News.nil) (fun fl s' q => q) fun _ _ e => e.elim
/-- the table of a maker of defs: empty, or the one def's code -/
noncomputable def Tab (h : Heap) (P : Addr) (l c : Nat) (qual : Str) : Prop := ∃ ps, h.get? P = some (tabObj ps) ∧ (ps = #[] ∨ ∃ c', ps = #[rawInt l, rawInt c, .ref c'] ∧ h.CodeRec (.ref c') qual)
/-- the same table behind a call: its one code is the old one or made anew -/
noncomputable def NextTab (h h' : Heap) (P : Addr) (l c : Nat) (qual : Str) : Prop := ∃ c', h'.get? P = some (tabObj #[rawInt l, rawInt c, .ref c']) ∧ h'.CodeRec (.ref c') qual ∧ (h.get? c' = none ∨ h.get? P = some (tabObj #[rawInt l, rawInt c, .ref c']))
theorem NextTab.tab {h h' : Heap} {P : Addr} {l c : Nat} {qual : Str} (x : NextTab h h' P l c qual) : Tab h' P l c qual := let ⟨c', a, b, _⟩ := x; ⟨_, a, .inr ⟨c', rfl, b⟩⟩
theorem notHidden {h : Heap} {T P : Addr} (e : (hideAll h [P]).get? T = none) (hne : @Ne Nat T P) : h.get? T = none := by
  cases q : h.get? T with
  | none => rfl
  | some o => rw [hideAll_get _ q fun z => hne (List.mem_singleton.mp z)] at e; cases e
section
variable {M : Model} {A : Around} {E : Value → Shared → Prop} {s : Shared} {h₀ : Heap} {L a : Addr} {m : Str → Option Value} {cn : Str} {cs : Scope} {ccd : Value} {cl : List (Str × Addr)} {x : Str} {pos : Pos} {v : Value} {c : Addr} {Q : Value → Shared → Prop}
theorem ldX_free (F : Fr h₀ L s.heap m) (hc : cl.lookup x = some c) (hg : h₀.IsCell c (some v)) (h : Q v s) (hk : cs.kind = .function := by rfl) (hx : (envX cn cs L a ccd cl).kindOf x = some .free := by rfl) (hb : (x == ("__debug__" : Str)) = false := by decide) (hn : (x == ("__classdict__" : Str)) = false := by decide) :
    wpAny M A (eval (.Name x pos) (envX cn cs L a ccd cl)) Q E s := wpAny_Name (wpAny_loadName_free hk hx hc (hg.keeps F.keep) h hn) hb
end
theorem fnAt_keep {g h : Heap} {L q : Addr} {m : Str → Option Value} (F : Fr g L h m) (x : FnAt q g) : FnAt q h := let ⟨a, b, c, d, e⟩ := x; ⟨a, b, c, d, F.keep _ _ e⟩
end Mine
end
end
section
open PySem PySem.W PyProof.Rows PySem.Calls PySem.Spec
set_option Elab.async false
set_option maxRecDepth 100000
noncomputable section
namespace Mine
theorem rules_W11 : True := by
  k_with_none
  w_top off
  k_with "storeName" => (k_here; with_reducible show wpAny _ _ (storeName _ _ (Value.int _ (Shared.toks _))) _ _ _; k_dflt (refine storeX_Li (by k_asm) (by k_asm) (fun t_kw h_kw F_kw N_kw => ?_) rfl rfl; try k_sweep))
  k_with "storeName" => (k_here; with_reducible show wpAny _ _ (storeName _ _ (Value.str _ (Shared.toks _))) _ _ _; k_dflt (refine storeX_Ls (by k_asm) (by k_asm) (fun t_kw h_kw F_kw N_kw => ?_) rfl rfl; try k_sweep))
  k_with "eval Name" => (k_here; (with_reducible show wpAny _ _ (eval (Expr.Name _ _) (envX _ _ _ _ _ _)) _ _ _); k_dflt (refine' ldX_free ?kw_F ?kw_c ?kw_g ?_ ?kw_a ?kw_b; (case kw_a => rfl); (case kw_b => rfl); (case kw_F => k_asm); (case kw_c => with_reducible assumption); (case kw_g => with_reducible assumption); k_whole))
  k_with "callWith ref" => (k_here; k_dflt (refine' callWith_F ?kw_k1 ?_; (case kw_k1 => exact fnAt_keep (by k_asm) (by with_reducible assumption)); k_whole))
  k_with "FnAt" => (k_dflt (exact fnAt_keep (by k_asm) (by with_reducible assumption)))
  trivial
theorem fillK_W11 : (fun (_ : OpenLaw) (_ : Params → Frag) => True) PySem.Challenge.rw_xe0047_01 KF := by
  k_fill
  trivial
/-- the value of figures to the base 2 ^ n, the lowest first -/
noncomputable def valL (n : Nat) : List Int → Int
  | [] => 0
  | x :: r => x + 2 ^ n * valL n r
theorem valL_app (n : Nat) : ∀ (l r : List Int), valL n (l ++ r) = valL n l + 2 ^ (n * l.length) * valL n r
  | [], r => by simp [valL]
  | x :: l, r => by
    show x + 2 ^ n * valL n (l ++ r) = x + 2 ^ n * valL n l + _
    rw [valL_app n l r, List.length_cons, Nat.mul_add, Nat.mul_one, Int.pow_add, Int.mul_add, ← Int.mul_assoc, Int.mul_comm (2 ^ (n * l.length)), Int.add_assoc]
theorem valL_lt (n : Nat) : ∀ (l : List Int), (∀ x ∈ l, 0 ≤ x ∧ x < 2 ^ n) → 0 ≤ valL n l ∧ valL n l < 2 ^ (n * l.length)
  | [], _ => by simp [valL]
  | x :: r, h => by
    have h1 := h x (.head _)
    have h2 := valL_lt n r fun y hy => h y (.tail _ hy)
    have hp : (0 : Int) < 2 ^ n := Int.pow_pos (by decide)
    show 0 ≤ x + 2 ^ n * valL n r ∧ x + 2 ^ n * valL n r < 2 ^ (n * (r.length + 1))
    rw [Nat.mul_add, Nat.mul_one, Int.pow_add, Int.mul_comm (2 ^ (n * r.length))]
    constructor
    · have := Int.mul_nonneg (Int.le_of_lt hp) h2.1; omega
    · have : 2 ^ n * valL n r ≤ 2 ^ n * (2 ^ (n * r.length) - 1) := Int.mul_le_mul_of_nonneg_left (by omega) (Int.le_of_lt hp)
      rw [Int.mul_sub, Int.mul_one] at this; omega
noncomputable def innerSt : List Stmt → Stmt
  | [] => .Pass ⟨0, 0, 0, 0⟩
  | .FunctionDef a b c d e f g h i j :: _ => .FunctionDef a b c d e f g h i j
  | _ :: r => innerSt r
noncomputable def innerFn (i : Nat) (qual : Str) (clos : List (Str × Addr)) (doc pm : Value) (c' : Addr) (ctv : Value) : Obj := match stm i with
  | .FunctionDef _ _ body _ _ _ _ _ _ _ => match innerSt body with
    | .FunctionDef name params b _ _ _ scope _ _ _ => fnMade name qual params b scope clos doc pm c' ctv
    | _ => default
  | _ => default
/-- what the inner def of _digits2int works on -/
inductive InnD (h : Heap) (f : Addr) (n : Nat) (xs : List Int) : Prop
  | mk (clos : List (Str × Addr)) (doc pm : Value) (c' : Addr) (ctv : Value) (cD cN cI a : Addr) (vs : List Value) (nn : Nat) (tn : Tok) (f0 : h.get? f = some (innerFn 5 "_digits2int.<locals>.inner" clos doc pm c' ctv)) (f1 : h.CodeRec (.ref c') "_digits2int.<locals>.inner") (f2 : clos.lookup (Str.ofString "digits") = some cD) (f3 : clos.lookup (Str.ofString "n") = some cN) (f4 : clos.lookup (Str.ofString "inner") = some cI) (f5 : h.IsCell cD (some (.ref a))) (f6 : h.IsCell cN (some (.int n tn))) (f7 : h.IsCell cI (some (.ref f))) (f8 : h.get? a = some (W.listOf vs.toArray nn)) (f9 : All2 IV vs xs) : InnD h f n xs
theorem InnD.stay {h h' : Heap} {f : Addr} {n : Nat} {xs : List Int} (x : InnD h f n xs) (k : h.StaysIn h') : InnD h' f n xs := by
  obtain ⟨clos, doc, pm, c', ctv, cD, cN, cI, a, vs, nn, tn, hf, hcd, l1, l2, l3, g1, g2, g3, ha, hV⟩ := x
  exact ⟨clos, doc, pm, c', ctv, cD, cN, cI, a, vs, nn, tn, k _ _ hf, let ⟨c, o, vs, t, e, g, r⟩ := hcd; ⟨c, o, vs, t, e, k _ _ g, r⟩, l1, l2, l3, g1.keeps k, g2.keeps k, g3.keeps k, k _ _ ha, hV⟩
theorem intBits_le_of {a : Int} {b : Nat} (h0 : 0 ≤ a) (h1 : a < 2 ^ b) : Builtin.Int.intBits a ≤ b := by
  unfold Builtin.Int.intBits
  split
  · exact Nat.zero_le _
  · rename_i h
    have hne : a ≠ 0 := fun e => by rw [e] at h; exact h rfl
    have hn : a.natAbs ≠ 0 := by omega
    have h2 : a.natAbs < 2 ^ b := by
      have e : ((a.natAbs : Nat) : Int) < ((2 ^ b : Nat) : Int) := by rw [Int.natCast_pow]; show ((a.natAbs : Nat) : Int) < (2 : Int) ^ b; omega
      exact Int.ofNat_lt.mp e
    exact (Nat.log2_lt hn).mpr h2
theorem d2i_inner (n : Nat) (xs : List Int) (hn : 0 < n ∧ n ≤ 2509) (hz : xs.length ≤ 6) (hxs : ∀ x ∈ xs, 0 ≤ x ∧ x < 2 ^ n) : ∀ (k : Nat) {w : World} {A : Around} {s : Shared} {h₀ : Heap} {Q E : Value → Shared → Prop} (f : Addr) (lo hi : Nat) (tl th : Tok), hi - lo ≤ k → lo < hi → hi ≤ xs.length →
    Env0 w A h₀ (k + 1) → h₀.StaysIn s.heap → InnD s.heap f n xs →
    (∀ h' tk' t', s.heap.StaysIn h' → Q (.int (valL n ((xs.drop lo).take (hi - lo))) t') { s with heap := h', toks := tk' }) →
    wpAny (model pw w) A (call (.ref f) [.int (lo : Nat) tl, .int (hi : Nat) th]) Q E s
  | 0, _, _, _, _, _, _, _, _, _, _, _, h1, h2, _, _, _, _, _ => by omega
  | k + 1, w, A, s, h₀, Q, E, f, lo, hi, tl, th, hk, hlh, hle, G, kB, I, ret => by
    obtain ⟨clos, doc, pm, c', ctv, cD, cN, cI, a, vs, nn, tn, hf, hcd, l1, l2, l3, g1, g2, g3, ha, hV⟩ := id I
    refine enterX (binds := [("L", .int (lo : Nat) tl), ("R", .int (hi : Nat) th)]) (G.stay kB) (fun _ _ e => e) hf hcd rfl rfl (fun L' h₁ G' F' N' => ?_)
    obtain ⟨p, lq, me, mg, mb, T⟩ := G'.T
    have X := G'.X
    have hh := G'.hh
    have hxl := hV.length
    repeat walk1
    · rename Fr _ _ _ _ => F1
      have hL : Heap.IsList _ a vs.toArray := ⟨_, F1.keep _ _ ha, rfl, _, rfl⟩
      obtain ⟨x, hx⟩ : ∃ x, xs[lo]? = some x := ⟨_, List.getElem?_eq_getElem (by omega)⟩
      obtain ⟨v, hv, t9, rfl⟩ := hV.get hx
      refine tail_any hL.typeIs slot_list_getitem.lookup (wpAny_getItem_list hL (by omega) (by omega) (x := .int x t9) (by simpa using hv) ?_) (by with_unfolding_all rfl)
      k_steps
      have e : x = valL n ((xs.drop lo).take (hi - lo)) := by
        rw [show hi - lo = 1 by omega, List.drop_eq_getElem_cons (by omega : lo < xs.length)]
        have e2 : xs[lo]? = some xs[lo] := List.getElem?_eq_getElem (by omega)
        rw [hx] at e2
        show x = xs[lo] + 2 ^ n * 0
        rw [← Option.some.inj e2]; omega
      rw [e]
      exact ret _ _ _ (Fr.keep (by assumption))
    · obtain ⟨mid, hmid⟩ : ∃ mid, (lo + hi) / 2 = mid := ⟨_, rfl⟩
      have em : ((lo : Int) + (hi : Int)).fdiv (2 ^ Int.toNat 1) = (mid : Int) := by
        rw [← hmid, Int.fdiv_eq_ediv_of_nonneg _ (by decide)]; show _ / (2 : Int) = _; omega
      have hFA : FnAt f s.heap := ⟨_, _, _, _, hf⟩
      repeat walk1
      rename Fr _ _ _ _ => F1
      rw [em] at F1
      repeat walk1
      rw [em]
      refine d2i_inner n xs hn hz hxs k f mid hi _ _ (by omega) (by omega) hle G' F1.keep (I.stay F1.keep) ?_
      intro h2 tk2 t2 k2
      have b1 := valL_lt n ((xs.drop mid).take (hi - mid)) fun x hx => hxs x (List.mem_of_mem_drop (List.mem_of_mem_take hx))
      have hl1 : ((xs.drop mid).take (hi - mid)).length = hi - mid := by rw [List.length_take, List.length_drop]; omega
      rw [hl1] at b1
      have F2 := Fr.stay F1 k2
      have N2 : News s.heap L' h2 [] := News.nil
      clear F1 k2
      generalize hv1 : valL n ((xs.drop mid).take (hi - mid)) = v1 at *
      repeat walk1
      have es : ((mid : Int) - (lo : Int)) * (n : Int) = ((n * (mid - lo) : Nat) : Int) := by
        rw [Int.natCast_mul, Int.ofNat_sub (by omega), Int.mul_comm]
      have z1 : n * (hi - mid) ≤ 2509 * 6 := Nat.mul_le_mul hn.2 (by omega)
      have z2 : n * (mid - lo) ≤ 2509 * 6 := Nat.mul_le_mul hn.2 (by omega)
      rw [es]
      rw [es] at F2
      refine' lshift_int ?h0 ?hsz ?_
      case h0 => omega
      case hsz =>
        have := intBits_le_of b1.1 b1.2
        omega
      rw [Int.toNat_natCast]
      repeat walk1
      rename Fr _ _ _ _ => F3
      refine d2i_inner n xs hn hz hxs k f lo mid _ _ (by omega) (by omega) (by omega) G' F3.keep (I.stay F3.keep) ?_
      intro h4 tk4 t4 k4
      have F4 := Fr.stay F3 k4
      have N4 : News s.heap L' h4 [] := News.nil
      clear F3 k4
      have ev : v1 * 2 ^ (n * (mid - lo)) + valL n ((xs.drop lo).take (mid - lo)) = valL n ((xs.drop lo).take (hi - lo)) := by
        have e1 : (xs.drop lo).take (hi - lo) = (xs.drop lo).take (mid - lo) ++ (xs.drop mid).take (hi - mid) := by
          rw [show hi - lo = (mid - lo) + (hi - mid) by omega, List.take_add, List.drop_drop, show lo + (mid - lo) = mid by omega]
        have hl2 : ((xs.drop lo).take (mid - lo)).length = mid - lo := by rw [List.length_take, List.length_drop]; omega
        rw [e1, valL_app, hl2, hv1, Int.mul_comm v1, Int.add_comm]
      generalize valL n ((xs.drop lo).take (mid - lo)) = v2 at ev ⊢
      repeat walk1
      rw [ev]
      exact ret _ _ _ (Fr.keep (by assumption))
end Mine
end
end
section
open PySem PySem.W PyProof.Rows PySem.Calls PySem.Spec
set_option Elab.async false
set_option maxRecDepth 100000
noncomputable section
namespace Mine
theorem rules_W12 : True := by
  k_with_none
  w_top off
  k_with "storeName" => (k_here; with_reducible show wpAny _ _ (storeName _ _ (Value.int _ (Shared.toks _))) _ _ _; k_dflt (refine storeX_Li (by k_asm) (by k_asm) (fun t_kw h_kw F_kw N_kw => ?_) rfl rfl; try k_sweep))
  k_with "storeName" => (k_here; with_reducible show wpAny _ _ (storeName _ _ (Value.str _ (Shared.toks _))) _ _ _; k_dflt (refine storeX_Ls (by k_asm) (by k_asm) (fun t_kw h_kw F_kw N_kw => ?_) rfl rfl; try k_sweep))
  k_with "callWith ref" => (k_here; k_dflt (refine' callWith_F ?kw_k1 ?_; (case kw_k1 => exact FnAt.of (by k_asm) (by k_mem)); k_whole))
  k_with "FnAt" => (k_dflt (exact FnAt.of (by k_asm) (by k_mem)))
  trivial
theorem fillK_W12 : (fun (_ : OpenLaw) (_ : Params → Frag) => True) PySem.Challenge.rw_xe0047_01 KF := by
  k_fill
  trivial
noncomputable abbrev q37 : Str := "_digits2int.<locals>.inner"
theorem d2i_spec (n : Nat) (xs : List Int) (hn : 0 < n ∧ n ≤ 2509) (hz : xs.length ≤ 6) (hz0 : 0 < xs.length) (hxs : ∀ x ∈ xs, 0 ≤ x ∧ x < 2 ^ n) {w : World} {A : Around} {s : Shared} {B : Heap} {dd : Nat} {Q E : Value → Shared → Prop} (a : Addr) (vs : List Value) (nn : Nat) (tn : Tok)
    (ha : s.heap.get? a = some (W.listOf vs.toArray nn)) (hV : All2 IV vs xs)
    (G : Env0 w A B (dd + 8)) (kB : B.StaysIn s.heap) (hB : B.get? 37 = none) (hT : Tab s.heap 37 47 4 q37)
    (ret : ∀ h' tk' t', StayBut [37] s.heap h' → NextTab s.heap h' 37 47 4 q37 → Q (.int (valL n xs) t') { s with heap := h', toks := tk' }) :
    wpAny (model pw w) A (call (.ref 42) [.ref a, .int n tn]) Q E s := by
  refine enterCK (binds := [("digits", .ref a), ("n", .int n tn)]) G kB rfl rfl rfl rfl (by decide) (fun L' h₁ tk cells G' F' N' Y => ?_)
  obtain ⟨o1, o2, o3, hE, d1, d2, d3⟩ := PyProof.Rows.CellsAre.three Y
  subst hE
  clear Y
  obtain ⟨ps, hP, hps⟩ := hT
  have hB' : ∀ P ∈ [37], B.get? P = none := fun P hP => by rw [List.mem_singleton.mp hP]; exact hB
  have G2 := G'.stay (hide_base kB hB')
  have F2 := hide_fr (Ps := [37]) F'
  have N2 := hide_more F' hP (.head _) (hide_news (Ps := [37]) N')
  obtain ⟨p, lq, me, mg, mb, T⟩ := G2.T
  have X := G2.X
  have hh := G2.hh
  have C : CodeHd (hideAll s.heap [37]) 41 37 := codeHd_of_K X (by kernel_rfl)
  have hne : (!vs.toArray.isEmpty) = true := by cases vs with
    | nil => have := hV.length; simp at this; omega
    | cons _ _ => rfl
  have l0 := ltN (a := 37) (b := L') (Nat.lt_of_lt_of_le (Heap.lt_size hP) F'.above)
  clear F' N'
  replace d1 : o1.data = Data.cell none := d1
  replace d2 : o2.data = Data.cell (some (.int n tn)) := d2
  replace d3 : o3.data = Data.cell (some (.ref a)) := d3
  walk1
  with_unfolding_all refine' nestDef_K ?d0 ?k0 ?a0 ?_
  case d0 => exact rfl
  case k0 => exact rfl
  case a0 => exact rfl
  rcases hps with rfl | ⟨c', rfl, hc'⟩
  · with_unfolding_all refine' nest_K (ps := #[]) (P := 37) (c := 41) F2 N2 T C ?cd ?U ?t ?n ?cl ?_
    case cd => exact rfl
    case U => k_updF
    case t => kn_triples
    case n => kn_among
    case cl => exact rfl
    intro f2 c2 oc2 vs2 t2 ct2 dc2 h3 tk3 F3 N3 e1 e2 lt1 lt2
    dsimp only at N3
    k_lt lt1
    k_lt2 lt2
    repeat walk1
    rename Fr _ _ _ _ => F4
    rename News _ _ _ _ => N4
    rename _ = Data.cell (some (.ref f2)) => d4
    have gK := hide_base (h := s.heap) (Ps := [37]) (B := hideAll s.heap [37]) (fun b o e => of_hideAll _ e) (fun P hP => hideAll_none _ hP)
    have hga : (hideAll s.heap [37]).get? a = some (W.listOf vs.toArray nn) := hideAll_get _ ha fun q => by
      rw [List.mem_singleton.mp q, hP] at ha; cases ha
    have hL : Heap.IsList _ a vs.toArray := ⟨_, F4.keep _ _ hga, rfl, _, rfl⟩
    have hI : InnD _ f2 n xs := ⟨_, _, _, _, _, _, _, _, _, _, _, _, (N4 _ (.head _)).1, codeRec_news N4 (.tail _ (.head _)) e1 e2, rfl, rfl, rfl, ⟨_, (N4 _ (.tail _ (.tail _ (.tail _ (.tail _ (.tail _ (.head _))))))).1, d3⟩, ⟨_, (N4 _ (.tail _ (.tail _ (.tail _ (.tail _ (.head _)))))).1, d2⟩, ⟨_, (N4 _ (.tail _ (.tail _ (.tail _ (.head _))))).1, d4⟩, F4.keep _ _ hga, hV⟩
    refine wpAny_truthy_list hL (by rw [List.size_toArray, hV.length]; omega) ?_
    rw [hne]
    repeat walk1
    refine call_len_list hL (by rw [List.size_toArray, hV.length]; omega) ?_
    rw [show vs.toArray.size = xs.length by rw [List.size_toArray]; exact hV.length]
    repeat walk1
    refine d2i_inner n xs hn hz hxs 6 f2 0 xs.length _ _ (by omega) (by omega) (Nat.le_refl _) (G2.down (by omega)) F4.keep hI ?_
    intro h6 tk6 t6 k6
    have N6 := News.stay N4 k6
    have F6 := Fr.stay F4 k6
    clear N4 F4
    repeat walk1
    rw [List.drop_zero, Nat.sub_zero, List.take_length]
    refine ret _ _ _ (fun b o hb e => F6.keep _ _ (hideAll_get _ e hb)) ⟨_, (N6 _ (.tail _ (.tail _ (.head _)))).1, codeRec_news N6 (.tail _ (.head _)) e1 e2, .inl (notHidden (N6 _ (.tail _ (.head _))).2.2 (by show @Ne Nat _ _; omega))⟩
  · have hcB : (hideAll s.heap [37]).CodeRec (.ref c') q37 := by
      obtain ⟨c, o, vs, t, e, g, hd, hv⟩ := hc'
      cases e
      refine ⟨_, o, vs, t, rfl, hideAll_get _ g fun q => ?_, hd, hv⟩
      rw [List.mem_singleton.mp q, hP] at g
      cases g; cases hd; cases hv
    with_unfolding_all refine' nestHit_K (P := 37) (c := 41) F2 N2 T C ?cd (.head _) ?t ?n ?cl ?_
    case cd => exact rfl
    case t => kn_triples
    case n => kn_hit
    case cl => exact rfl
    intro f2 ct2 dc2 h3 tk3 F3 N3 lt1
    k_lt lt1
    repeat walk1
    rename Fr _ _ _ _ => F4
    rename News _ _ _ _ => N4
    rename _ = Data.cell (some (.ref f2)) => d4
    have hga : (hideAll s.heap [37]).get? a = some (W.listOf vs.toArray nn) := hideAll_get _ ha fun q => by
      rw [List.mem_singleton.mp q, hP] at ha; cases ha
    have hL : Heap.IsList _ a vs.toArray := ⟨_, F4.keep _ _ hga, rfl, _, rfl⟩
    have hcr : ∀ h, (hideAll s.heap [37]).StaysIn h → h.CodeRec (.ref c') q37 := fun h k => let ⟨c, o, vs, t, e, g, r⟩ := hcB; ⟨c, o, vs, t, e, k _ _ g, r⟩
    have hI : InnD _ f2 n xs := ⟨_, _, _, _, _, _, _, _, _, _, _, _, (N4 _ (.head _)).1, hcr _ F4.keep, rfl, rfl, rfl, ⟨_, (N4 _ (.tail _ (.tail _ (.tail _ (.tail _ (.head _)))))).1, d3⟩, ⟨_, (N4 _ (.tail _ (.tail _ (.tail _ (.head _))))).1, d2⟩, ⟨_, (N4 _ (.tail _ (.tail _ (.head _)))).1, d4⟩, F4.keep _ _ hga, hV⟩
    refine wpAny_truthy_list hL (by rw [List.size_toArray, hV.length]; omega) ?_
    rw [hne]
    repeat walk1
    refine call_len_list hL (by rw [List.size_toArray, hV.length]; omega) ?_
    rw [show vs.toArray.size = xs.length by rw [List.size_toArray]; exact hV.length]
    repeat walk1
    refine d2i_inner n xs hn hz hxs 6 f2 0 xs.length _ _ (by omega) (by omega) (Nat.le_refl _) (G2.down (by omega)) F4.keep hI ?_
    intro h6 tk6 t6 k6
    have N6 := News.stay N4 k6
    have F6 := Fr.stay F4 k6
    clear N4 F4
    repeat walk1
    rw [List.drop_zero, Nat.sub_zero, List.take_length]
    exact ret _ _ _ (fun b o hb e => F6.keep _ _ (hideAll_get _ e hb)) ⟨_, (N6 _ (.tail _ (.head _))).1, hcr _ F6.keep, .inr hP⟩
end Mine
end
end
section
open PySem PySem.W PyProof.Rows PySem.Calls PySem.Spec
set_option Elab.async false
set_option maxRecDepth 100000
noncomputable section
namespace Mine
theorem nat_and_high (x k : Nat) : x &&& (x / 2 ^ k * 2 ^ k) = x / 2 ^ k * 2 ^ k := by
  rw [← Nat.shiftRight_eq_div_pow, ← Nat.shiftLeft_eq]
  refine Nat.eq_of_testBit_eq fun i => ?_
  rw [Nat.testBit_and, Nat.testBit_shiftLeft, Nat.testBit_shiftRight]
  by_cases h : k ≤ i
  · simp [h]
  · simp [h]
theorem nat_and_apart (a b k : Nat) (h : b < 2 ^ k) : (a * 2 ^ k) &&& b = 0 := by
  rw [← Nat.shiftLeft_eq]
  refine Nat.eq_of_testBit_eq fun i => ?_
  rw [Nat.testBit_and, Nat.testBit_shiftLeft, Nat.zero_testBit]
  by_cases hi : k ≤ i
  · rw [Nat.testBit_lt_two_pow (Nat.lt_of_lt_of_le h (Nat.pow_le_pow_right (by decide) hi))]; simp
  · simp [hi]
theorem and_cast (x y : Nat) : Builtin.bitAnd (x : Int) (y : Int) = ((x &&& y : Nat) : Int) := by
  unfold Builtin.bitAnd
  simp
theorem or_and (x y : Int) : Builtin.bitOr x y = x + y - Builtin.bitAnd x y := by
  have h := bitXor_and x y
  have e : Builtin.bitXor x y = Builtin.bitOr x y - Builtin.bitAnd x y := rfl
  omega
theorem xor_high (x k : Nat) : Builtin.bitXor (x : Int) (((x / 2 ^ k * 2 ^ k : Nat)) : Int) = ((x % 2 ^ k : Nat) : Int) := by
  rw [bitXor_and, and_cast, nat_and_high]
  have := Nat.div_add_mod x (2 ^ k)
  rw [Nat.mul_comm] at this
  omega
theorem or_low (a b k : Nat) (h : b < 2 ^ k) : Builtin.bitOr ((a * 2 ^ k : Nat) : Int) (b : Int) = ((a * 2 ^ k + b : Nat) : Int) := by
  rw [or_and, and_cast, nat_and_apart a b k h]; omega
end Mine
end
end
section
open PySem PySem.W PyProof.Rows PySem.Calls PySem.Spec
set_option Elab.async false
set_option maxRecDepth 100000
noncomputable section
namespace Mine
theorem rules_W13 : True := by
  k_with_none
  w_top off
  k_with "storeName" => (k_here; with_reducible show wpAny _ _ (storeName _ _ (Value.int _ (Shared.toks _))) _ _ _; k_dflt (refine storeX_Li (by k_asm) (by k_asm) (fun t_kw h_kw F_kw N_kw => ?_) rfl rfl; try k_sweep))
  k_with "storeName" => (k_here; with_reducible show wpAny _ _ (storeName _ _ (Value.str _ (Shared.toks _))) _ _ _; k_dflt (refine storeX_Ls (by k_asm) (by k_asm) (fun t_kw h_kw F_kw N_kw => ?_) rfl rfl; try k_sweep))
  k_with "eval Name" => (k_here; (with_reducible show wpAny _ _ (eval (Expr.Name _ _) (envX _ _ _ _ _ _)) _ _ _); k_dflt (refine' ldX_free ?kw_F ?kw_c ?kw_g ?_ ?kw_a ?kw_b; (case kw_a => rfl); (case kw_b => rfl); (case kw_F => k_asm); (case kw_c => with_reducible assumption); (case kw_g => with_reducible assumption); k_whole))
  k_with "callWith ref" => (k_here; k_dflt (refine' callWith_F ?kw_k1 ?_; (case kw_k1 => exact fnAt_keep (by k_asm) (by with_reducible assumption)); k_whole))
  k_with "FnAt" => (k_dflt (exact fnAt_keep (by k_asm) (by with_reducible assumption)))
  trivial
theorem fillK_W13 : (fun (_ : OpenLaw) (_ : Params → Frag) => True) PySem.Challenge.rw_xe0047_01 KF := by
  k_fill
  trivial
theorem valL_split (n : Nat) {l r : List Int} (hl : ∀ x ∈ l, 0 ≤ x ∧ x < 2 ^ n) (hr : ∀ x ∈ r, 0 ≤ x ∧ x < 2 ^ n) :
    (valL n (l ++ r)).fdiv (2 ^ (n * l.length)) = valL n r ∧ Builtin.bitXor (valL n (l ++ r)) (valL n r * 2 ^ (n * l.length)) = valL n l := by
  have h1 := valL_lt n l hl
  have h2 := valL_lt n r hr
  rw [valL_app]
  obtain ⟨a, ha⟩ := Int.eq_ofNat_of_zero_le h1.1
  obtain ⟨b, hb⟩ := Int.eq_ofNat_of_zero_le h2.1
  rw [ha, hb]
  rw [ha] at h1
  generalize n * l.length = k at *
  have hk : ((2 ^ k : Nat) : Int) = (2 : Int) ^ k := kbt_cast k
  have hlt : a < 2 ^ k := Int.ofNat_lt.mp (by rw [hk]; exact h1.2)
  have e1 : (a : Int) + 2 ^ k * (b : Int) = ((a + 2 ^ k * b : Nat) : Int) := by rw [Int.natCast_add, Int.natCast_mul, hk]
  have hd : (a + 2 ^ k * b) / 2 ^ k = b := by rw [Nat.add_mul_div_left _ _ (Nat.two_pow_pos k), Nat.div_eq_of_lt hlt, Nat.zero_add]
  have hm : (a + 2 ^ k * b) % 2 ^ k = a := by rw [Nat.add_mul_mod_self_left, Nat.mod_eq_of_lt hlt]
  refine ⟨?_, ?_⟩
  · rw [e1, ← hk, Int.fdiv_eq_ediv_of_nonneg _ (Int.natCast_nonneg _), ← Int.natCast_ediv, hd]
  · have e2 : (b : Int) * 2 ^ k = (((a + 2 ^ k * b) / 2 ^ k * 2 ^ k : Nat) : Int) := by rw [hd, Int.natCast_mul, hk]
    rw [e1, e2, xor_high, hm]
/-- what the inner def of _int2digits works on -/
structure InnIx (h : Heap) (f : Addr) (n : Nat) (D : Addr) (clos : List (Str × Addr)) (doc pm : Value) (c' : Addr) (ctv : Value) (cD cN cI : Addr) (tn : Tok) : Prop where
  hf : h.get? f = some (innerFn 4 "_int2digits.<locals>.inner" clos doc pm c' ctv)
  hcd : h.CodeRec (.ref c') "_int2digits.<locals>.inner"
  l1 : clos.lookup (Str.ofString "a_digits") = some cD
  l2 : clos.lookup (Str.ofString "n") = some cN
  l3 : clos.lookup (Str.ofString "inner") = some cI
  g1 : h.IsCell cD (some (.ref D))
  g2 : h.IsCell cN (some (.int n tn))
  g3 : h.IsCell cI (some (.ref f))
inductive InnI (h : Heap) (f : Addr) (n : Nat) (D : Addr) : Prop
  | mk (clos : List (Str × Addr)) (doc pm : Value) (c' : Addr) (ctv : Value) (cD cN cI : Addr) (tn : Tok) (x : InnIx h f n D clos doc pm c' ctv cD cN cI tn) : InnI h f n D
theorem innerFn4_ne (q : Str) (clos : List (Str × Addr)) (doc pm : Value) (c' : Addr) (ctv : Value) (vs : Array Value) (nn : Nat) : innerFn 4 q clos doc pm c' ctv ≠ W.listOf vs nn := fun e => by
  have h : Value.type "function" = Value.type "list" := congrArg Obj.cls e
  exact absurd h (by decide)
theorem InnIx.but {h h' : Heap} {f D : Addr} {n nn : Nat} {vs : Array Value} {clos : List (Str × Addr)} {doc pm : Value} {c' : Addr} {ctv : Value} {cD cN cI : Addr} {tn : Tok} (x : InnIx h f n D clos doc pm c' ctv cD cN cI tn) (hD : h.get? D = some (W.listOf vs nn)) (k : StayBut [D] h h') : InnIx h' f n D clos doc pm c' ctv cD cN cI tn := by
  have ne : ∀ {b : Addr} {o : Obj}, h.get? b = some o → o ≠ W.listOf vs nn → b ∉ [D] := fun e hn q => by
    rw [List.mem_singleton.mp q, hD] at e; cases e; exact hn rfl
  have cell : ∀ {c : Addr} {v : Value}, h.IsCell c (some v) → h'.IsCell c (some v) := fun ⟨o, e, r⟩ => ⟨o, k _ _ (ne e fun q => by rw [q] at r; cases r) e, r⟩
  exact ⟨k _ _ (ne x.hf (innerFn4_ne _ _ _ _ _ _ _ _)) x.hf, let ⟨c, o, vs, t, e, g, hd, hv⟩ := x.hcd; ⟨c, o, vs, t, e, k _ _ (ne g fun q => by rw [q] at hd; cases hd) g, hd, hv⟩, x.l1, x.l2, x.l3, cell x.g1, cell x.g2, cell x.g3⟩
theorem InnI.but {h h' : Heap} {f D : Addr} {n nn : Nat} {vs : Array Value} (x : InnI h f n D) (hD : h.get? D = some (W.listOf vs nn)) (k : StayBut [D] h h') : InnI h' f n D := by
  obtain ⟨a, b, c, d, e, f, g, i, j, r⟩ := x
  exact ⟨a, b, c, d, e, f, g, i, j, r.but hD k⟩
theorem InnI.stay {h h' : Heap} {f D : Addr} {n : Nat} (y : InnI h f n D) (k : h.StaysIn h') : InnI h' f n D :=
  let ⟨a, b, c, d, e, f, g, i, j, x⟩ := y; ⟨a, b, c, d, e, f, g, i, j, ⟨k _ _ x.hf, let ⟨c, o, vs, t, e, g, r⟩ := x.hcd; ⟨c, o, vs, t, e, k _ _ g, r⟩, x.l1, x.l2, x.l3, x.g1.keeps k, x.g2.keeps k, x.g3.keeps k⟩⟩
theorem ki_setL_at : ∀ (vs : List Value) (i : Nat) (v : Value), i < vs.length → ki_setL vs i v = some (vs.take i ++ [v] ++ vs.drop (i + 1))
  | [], _, _, h => absurd h (Nat.not_lt_zero _)
  | a :: r, 0, v, _ => rfl
  | a :: r, i + 1, v, h => by
    show (match ki_setL r i v with | some q => some (a :: q) | none => none) = _
    rw [ki_setL_at r i v (by simpa using h)]; rfl
theorem splice_two {α : Type} {vs z1 z2 : List α} {lo mid hi : Nat} (h1 : lo < mid) (h2 : mid < hi) (h3 : hi ≤ vs.length) (hz : z1.length = mid - lo) :
    (vs.take lo ++ z1 ++ vs.drop mid).take mid ++ z2 ++ (vs.take lo ++ z1 ++ vs.drop mid).drop hi = vs.take lo ++ (z1 ++ z2) ++ vs.drop hi := by
  have e1 : (vs.take lo ++ z1).length = mid := by rw [List.length_append, List.length_take, hz]; omega
  have t1 : (vs.take lo ++ z1 ++ vs.drop mid).take mid = vs.take lo ++ z1 := by rw [List.take_append_of_le_length (by omega), List.take_of_length_le (by omega)]
  have t2 : (vs.take lo ++ z1 ++ vs.drop mid).drop hi = vs.drop hi := by
    rw [List.drop_append, List.drop_of_length_le (by omega), e1, List.drop_drop, show mid + (hi - mid) = hi by omega, List.nil_append]
  rw [t1, t2, List.append_assoc (vs.take lo) z1 z2]
set_option maxHeartbeats 4000000 in
theorem i2d_inner (n : Nat) (hn : 0 < n ∧ n ≤ 2509) : ∀ (k : Nat) {w : World} {A : Around} {s : Shared} {B : Heap} {Q E : Value → Shared → Prop} (f D : Addr) (lo hi : Nat) (ys : List Int) (tx tl th : Tok) (vs : List Value) (nn : Nat), hi - lo ≤ k → lo < hi → hi ≤ vs.length → vs.length ≤ 6 → ys.length = hi - lo → (∀ y ∈ ys, 0 ≤ y ∧ y < 2 ^ n) →
    Env0 w A B (k + 1) → B.StaysIn s.heap → B.get? D = none → InnI s.heap f n D → s.heap.get? D = some (W.listOf vs.toArray nn) →
    (∀ h' tk' zs, StayBut [D] s.heap h' → h'.get? D = some (W.listOf (vs.take lo ++ zs ++ vs.drop hi).toArray nn) → All2 IV zs ys → Q .none { s with heap := h', toks := tk' }) →
    wpAny (model pw w) A (call (.ref f) [.int (valL n ys) tx, .int (lo : Nat) tl, .int (hi : Nat) th]) Q E s
  | 0, _, _, _, _, _, _, _, _, _, _, _, _, _, _, _, _, h1, h2, _, _, _, _, _, _, _, _, _, _ => by omega
  | k + 1, w, A, s, B, Q, E, f, D, lo, hi, ys, tx, tl, th, vs, nn, hk, hlh, hle, hz, hys, hy, G, kB, hBD, I, hD, ret => by
    have hBD' : ∀ P ∈ [D], B.get? P = none := fun P hP => by rw [List.mem_singleton.mp hP]; exact hBD
    have kg : StayBut [D] s.heap (hideAll s.heap [D]) := fun b o hb e => hideAll_get _ e hb
    obtain ⟨clos, doc, pm, c', ctv, cD, cN, cI, tn, J⟩ := id I
    refine enterX (binds := [("x", .int (valL n ys) tx), ("L", .int (lo : Nat) tl), ("R", .int (hi : Nat) th)]) G kB J.hf J.hcd rfl rfl (fun L' h₁ G' F' N' => ?_)
    have G2 := G'.stay (hide_base kB hBD')
    have F2 := hide_fr (Ps := [D]) F'
    have N2 := hide_more F' hD (.head _) (hide_news (Ps := [D]) N')
    have Ig := I.but hD kg
    clear F' N'
    obtain ⟨p, lq, me, mg, mb, T⟩ := G2.T
    have X := G2.X
    have hh := G2.hh
    obtain ⟨hf, hcd, l1, l2, l3, g1, g2, g3⟩ := J.but hD kg
    repeat walk1
    rotate_left
    · repeat walk1
      rename Fr _ _ _ _ => F1
      rename News _ _ _ _ => N1
      have ehi : hi = lo + 1 := by omega
      refine' ki_set (q := vs.take lo ++ [.int (valL n ys) tx] ++ vs.drop (lo + 1)) F1 N1 ?h0 ?hf ?e ?U ?_
      case h0 => omega
      case hf => omega
      case e =>
        show ki_setL vs (lo : Int).toNat _ = _
        rw [Int.toNat_natCast]; exact ki_setL_at _ _ _ (by omega)
      case U => k_upd
      intro h2 F3 N3
      repeat walk1
      obtain ⟨y, rfl⟩ : ∃ y, ys = [y] := by
        match ys, hys with
        | [y], _ => exact ⟨y, rfl⟩
        | [], h => simp at h; omega
        | _ :: _ :: _, h => simp at h; omega
      have ev : valL n [y] = y := by show y + 2 ^ n * 0 = y; omega
      rw [ev] at N3
      exact ret _ _ [.int y tx] (fun b o hb e => F3.keep _ _ (hideAll_get _ e hb)) (by rw [ehi]; exact (N3 _ (.head _)).1) (.cons ⟨_, rfl⟩ .nil)
    · obtain ⟨mid, hmid⟩ : ∃ mid, (lo + hi) / 2 = mid := ⟨_, rfl⟩
      have em : ((lo : Int) + (hi : Int)).fdiv (2 ^ Int.toNat 1) = (mid : Int) := by
        rw [← hmid, Int.fdiv_eq_ediv_of_nonneg _ (by decide)]; show _ / (2 : Int) = _; omega
      have es : ((mid : Int) - (lo : Int)) * (n : Int) = ((n * (mid - lo) : Nat) : Int) := by
        rw [Int.natCast_mul, Int.ofNat_sub (by omega), Int.mul_comm]
      have z1 : n * (hi - mid) ≤ 2509 * 6 := Nat.mul_le_mul hn.2 (by omega)
      have z2 : n * (mid - lo) ≤ 2509 * 6 := Nat.mul_le_mul hn.2 (by omega)
      have hFA : FnAt f (hideAll s.heap [D]) := ⟨_, _, _, _, hf⟩
      rename Fr _ _ _ _ => F1
      rw [em, es] at F1 ⊢
      have hy1 : ∀ x ∈ ys.take (mid - lo), 0 ≤ x ∧ x < 2 ^ n := fun x hx => hy x (List.mem_of_mem_take hx)
      have hy2 : ∀ x ∈ ys.drop (mid - lo), 0 ≤ x ∧ x < 2 ^ n := fun x hx => hy x (List.mem_of_mem_drop hx)
      have hl1 : (ys.take (mid - lo)).length = mid - lo := by rw [List.length_take]; omega
      have hl2 : (ys.drop (mid - lo)).length = hi - mid := by rw [List.length_drop]; omega
      have hs := valL_split n hy1 hy2
      rw [List.take_append_drop, hl1] at hs
      have b2 := valL_lt n _ hy2
      rw [hl2] at b2
      refine' rshift_int ?h0 ?_
      case h0 => omega
      rw [Int.toNat_natCast, hs.1]
      repeat walk1
      refine' lshift_int ?h0 ?hsz ?_
      case h0 => omega
      case hsz =>
        have := intBits_le_of b2.1 b2.2
        omega
      rw [Int.toNat_natCast]
      repeat walk1
      rename Fr _ _ _ _ => F3
      rw [hs.2] at F3
      repeat walk1
      rename Fr _ _ _ _ => F3
      rename News _ _ _ _ => N3
      rw [hs.2]
      have gN : ∀ P ∈ [D], (hideAll s.heap [D]).get? P = none := fun P hP => hideAll_none _ hP
      have hLD : L' ∉ [D] := fun q => (N3 _ (.head _)).2.1 (List.mem_singleton.mp q).symm
      have Ig := InnI.but I hD kg
      refine i2d_inner n hn k f D lo mid (ys.take (mid - lo)) _ _ _ vs nn (by omega) (by omega) (by omega) hz hl1 hy1 G' (fun b o e => F3.keep _ _ (hide_base kB hBD' b o e)) hBD (Ig.stay F3.keep) (N3 _ (.head _)).1 ?_
      intro h4 tk4 zs1 k4 hD4 hz1
      have F4 := Fr.but F3 gN hLD k4
      have N4 : News (hideAll s.heap [D]) L' h4 [(D, _)] := fun p hp => by rw [List.mem_singleton.mp hp]; exact ⟨hD4, (N3 _ (.head _)).2⟩
      clear F3 N3 k4 hD4
      have hlz := hz1.length
      rw [hl1] at hlz
      repeat walk1
      rename Fr _ _ _ _ => F5
      rename News _ _ _ _ => N5
      have hlv : (vs.take lo ++ zs1 ++ vs.drop mid).length = vs.length := by rw [List.length_append, List.length_append, List.length_take, List.length_drop, hlz]; omega
      refine i2d_inner n hn k f D mid hi (ys.drop (mid - lo)) _ _ _ _ nn (by omega) (by omega) (by omega) (by omega) hl2 hy2 G' (fun b o e => F5.keep _ _ (hide_base kB hBD' b o e)) hBD (Ig.stay F5.keep) (N5 _ (.head _)).1 ?_
      intro h6 tk6 zs2 k6 hD6 hz2
      have F6 := Fr.but F5 gN hLD k6
      clear F5 N5 k6
      rw [splice_two (by omega) (by omega) hle hlz] at hD6
      have hzz : All2 IV (zs1 ++ zs2) ys := by
        have := hz1.app hz2
        rwa [List.take_append_drop] at this
      have N6 : News (hideAll s.heap [D]) L' h6 [] := News.nil
      repeat walk1
      rename Fr _ _ _ _ => F7
      exact ret _ _ (zs1 ++ zs2) (fun b o hb e => F7.keep _ _ (hideAll_get _ e hb)) hD6 hzz
end Mine
end
end
end
section
open PySem PySem.W PyProof.Rows PySem.Calls PySem.Spec
set_option Elab.async false
set_option maxRecDepth 100000
noncomputable section
namespace Mine
theorem rules_W14 : True := by
  k_with_none
  w_top off
  k_with "storeName" => (k_here; with_reducible show wpAny _ _ (storeName _ _ (Value.int _ (Shared.toks _))) _ _ _; k_dflt (refine storeX_Li (by k_asm) (by k_asm) (fun t_kw h_kw F_kw N_kw => ?_) rfl rfl; try k_sweep))
  k_with "storeName" => (k_here; with_reducible show wpAny _ _ (storeName _ _ (Value.str _ (Shared.toks _))) _ _ _; k_dflt (refine storeX_Ls (by k_asm) (by k_asm) (fun t_kw h_kw F_kw N_kw => ?_) rfl rfl; try k_sweep))
  k_with "callWith ref" => (k_here; k_dflt (refine' callWith_F ?kw_k1 ?_; (case kw_k1 => exact FnAt.of (by k_asm) (by k_mem)); k_whole))
  k_with "FnAt" => (k_dflt (exact FnAt.of (by k_asm) (by k_mem)))
  trivial
theorem fillK_W14 : (fun (_ : OpenLaw) (_ : Params → Frag) => True) PySem.Challenge.rw_xe0047_01 KF := by
  k_fill
  trivial
theorem fold_rep (v : Value) : ∀ (k : Nat) (acc : Array Value), List.foldl (fun x y => x ++ y) acc (List.replicate k #[v]) = acc ++ (List.replicate k v).toArray
  | 0, acc => by simp
  | k + 1, acc => by
    rw [List.replicate_succ, List.foldl_cons, fold_rep v k, List.replicate_succ, Array.append_assoc]
    congr 1
    rw [show (#[v] : Array Value) = [v].toArray from rfl, List.append_toArray]; rfl
theorem mul_listK {prog : Program} {w : World} {A : Around} {E : Value → Shared → Prop} {s : Shared} {h₀ : Heap} {L l : Addr} {m : Str → Option Value} {news : List (Addr × Obj)} {v : Value} {k : Nat} {x : Int} {u : Tok} {Q : Value → Shared → Prop}
    (F : Fr h₀ L s.heap m) (N : News h₀ L s.heap news) (hl : (l, W.listOf #[v] 0) ∈ news) (hx : x = (k : Int)) (hk : k ≤ 1000)
    (h : ∀ D h', Fr h₀ L h' m → News h₀ L h' ((D, W.listOf (List.replicate k v).toArray 0) :: news) → (∀ p ∈ news, p.1 < D) → Q (.ref D) { s with heap := h' }) :
    wpAny (model prog w) A (binaryOp .Mult (.ref l) (.int x u)) Q E s := by
  subst hx
  refine mul_list F N (N _ hl).1 (by lia) (by lia) (by simp; lia) fun h' F' N' => ?_
  rw [if_neg (by simp), Int.toNat_natCast, fold_rep] at N'
  exact h _ h' F' (by simpa using N') fun p hp => Heap.lt_size (N p hp).1
theorem bits_bounds {a : Int} {m k : Nat} (h0 : 0 < a) (h1 : 2 ^ m ≤ a) (h2 : a < 2 ^ k) : m + 1 ≤ Builtin.Int.intBits a ∧ Builtin.Int.intBits a ≤ k := by
  refine ⟨?_, intBits_le_of (Int.le_of_lt h0) h2⟩
  obtain ⟨b, rfl⟩ := Int.eq_ofNat_of_zero_le (Int.le_of_lt h0)
  have hb : b ≠ 0 := by lia
  unfold Builtin.Int.intBits
  rw [if_neg (by simpa using hb)]
  show m + 1 ≤ b.log2 + 1
  have h3 : 2 ^ m ≤ b := Int.ofNat_le.mp (by rw [kbt_cast]; exact h1)
  have := (Nat.le_log2 hb).mpr h3
  lia
theorem valL_top (n : Nat) {l : List Int} {y : Int} (hl : ∀ x ∈ l, 0 ≤ x ∧ x < 2 ^ n) (hy : 0 < y) : 2 ^ (n * l.length) ≤ valL n (l ++ [y]) := by
  rw [valL_app]
  have h1 := valL_lt n l hl
  have h2 : valL n [y] = y := by show y + 2 ^ n * 0 = y; lia
  have hp : (0 : Int) < 2 ^ (n * l.length) := Int.pow_pos (by decide)
  rw [h2]
  have : 2 ^ (n * l.length) * 1 ≤ 2 ^ (n * l.length) * y := Int.mul_le_mul_of_nonneg_left (by lia) (Int.le_of_lt hp)
  lia
theorem count_digits {n : Nat} {xs : List Int} (hn : 0 < n) (hxs : ∀ x ∈ xs, 0 ≤ x ∧ x < 2 ^ n) (htop : ∃ l y, xs = l ++ [y] ∧ 0 < y) : 0 < valL n xs ∧ ((Builtin.Int.intBits (valL n xs) : Int) + n - 1).fdiv n = xs.length := by
  have h1 := valL_lt n xs hxs
  obtain ⟨l, y, rfl, hy⟩ := htop
  have h2 := valL_top n (fun x hx => hxs x (List.mem_append_left _ hx)) hy
  have hp : (0 : Int) < 2 ^ (n * l.length) := Int.pow_pos (by decide)
  have h3 := bits_bounds (by lia) h2 h1.2
  refine ⟨by lia, ?_⟩
  generalize Builtin.Int.intBits (valL n (l ++ [y])) = b at *
  rw [List.length_append, List.length_singleton] at *
  rw [Int.fdiv_eq_ediv_of_nonneg _ (Int.natCast_nonneg _)]
  have e : (b : Int) + n - 1 = ((b + n - 1 : Nat) : Int) := by lia
  rw [e, ← Int.natCast_ediv]
  congr 1
  rw [Nat.mul_add, Nat.mul_one] at h3
  refine Nat.div_eq_of_lt_le ?_ ?_
  · rw [Nat.add_mul, Nat.one_mul, Nat.mul_comm l.length]; lia
  · rw [Nat.add_mul, Nat.add_mul, Nat.one_mul, Nat.mul_comm l.length]; lia
theorem notMem1 {a b : Nat} (h : @Ne Nat a b) : a ∉ [b] := fun q => h (List.mem_singleton.mp q)
noncomputable abbrev q30 : Str := "_int2digits.<locals>.inner"
set_option maxHeartbeats 1000000 in
theorem i2d_spec (n : Nat) (xs : List Int) (hn : 0 < n ∧ n ≤ 2509) (hz : xs.length ≤ 6) (hxs : ∀ x ∈ xs, 0 ≤ x ∧ x < 2 ^ n) (htop : ∃ l y, xs = l ++ [y] ∧ 0 < y) {w : World} {A : Around} {s : Shared} {B : Heap} {dd : Nat} {Q E : Value → Shared → Prop} (ta tn : Tok)
    (G : Env0 w A B (dd + 8)) (kB : B.StaysIn s.heap) (hB : B.get? 30 = none) (hT : Tab s.heap 30 32 4 q30)
    (ret : ∀ h' tk' D vs nn, StayBut [30] s.heap h' → NextTab s.heap h' 30 32 4 q30 → s.heap.get? D = none → h'.get? D = some (W.listOf vs.toArray nn) → All2 IV vs xs → Q (.ref D) { s with heap := h', toks := tk' }) :
    wpAny (model pw w) A (call (.ref 35) [.int (valL n xs) ta, .int n tn]) Q E s := by
  refine enterCK (binds := [("a", .int (valL n xs) ta), ("n", .int n tn)]) G kB rfl rfl rfl rfl (by decide) (fun L' h₁ tk cells G' F' N' Y => ?_)
  obtain ⟨o1, o2, o3, hE, d1, d2, d3⟩ := PyProof.Rows.CellsAre.three Y
  subst hE
  clear Y
  obtain ⟨ps, hP, hps⟩ := hT
  have hB' : ∀ P ∈ [30], B.get? P = none := fun P hP => by rw [List.mem_singleton.mp hP]; exact hB
  have G2 := G'.stay (hide_base kB hB')
  have F2 := hide_fr (Ps := [30]) F'
  have N2 := hide_more F' hP (.head _) (hide_news (Ps := [30]) N')
  obtain ⟨p, lq, me, mg, mb, T⟩ := G2.T
  have X := G2.X
  have hh := G2.hh
  have C : CodeHd (hideAll s.heap [30]) 34 30 := codeHd_of_K X (by kernel_rfl)
  have l0 := ltN (a := 30) (b := L') (Nat.lt_of_lt_of_le (Heap.lt_size hP) F'.above)
  have hsz := F'.above
  clear F' N'
  replace d1 : o1.data = Data.cell none := d1
  replace d2 : o2.data = Data.cell none := d2
  replace d3 : o3.data = Data.cell (some (.int n tn)) := d3
  revert w A s Q E L'
  set_option tactic.hygienic false in intros
  as_aux_lemma =>
  repeat walk1
  obtain ⟨hpos, hcount⟩ := count_digits hn.1 hxs htop
  rw [hcount]
  rename Fr _ _ _ _ => F3
  rename News _ _ _ _ => N3
  refine' mul_listK F3 N3 (.head _) rfl ?q1 ?_
  case q1 => lia
  intro D h4 F4 N4 lt4
  k_lt lt4
  obtain ⟨vs0, hvs0, hl0⟩ : ∃ vs0 : List Value, vs0 = List.replicate xs.length (Value.int 0 tk) ∧ vs0.length = xs.length := ⟨_, rfl, by simp⟩
  rw [← hvs0] at N4
  have hD0 : s.heap.get? D = none := Heap.get?_none_of_le (by lia)
  revert w A s Q E L'
  set_option tactic.hygienic false in intros
  as_aux_lemma =>
  repeat walk1
  rename Fr _ _ _ _ => F5
  rename News _ _ _ _ => N5
  rename _ = Data.cell (some (.ref D)) => d5
  have N6 : News _ _ _ [(D, _), (30, _), (L' + 1 + 1 + 1, _), (L' + 1 + 1, _), (L' + 1, _)] := fun p hp => N5 p (by
    rcases List.mem_cons.mp hp with rfl | hp
    · exact .head _
    · exact .tail _ (.tail _ hp))
  clear N5
  with_unfolding_all refine' nestDef_K ?d0 ?k0 ?a0 ?_
  case d0 => exact rfl
  case k0 => exact rfl
  case a0 => exact rfl
  rcases hps with rfl | ⟨c', rfl, hc'⟩
  · with_unfolding_all refine' nest_K (ps := #[]) (P := 30) (c := 34) F5 N6 T C ?cd ?U ?t ?n ?cl ?_
    case cd => exact rfl
    case U => k_updF
    case t => kn_triples
    case n => kn_among
    case cl => exact rfl
    intro f2 c2 oc2 vs2 t2 ct2 dc2 h7 tk7 F7 N7 e1 e2 lt1 lt2
    dsimp only at N7
    k_lt lt1
    k_lt2 lt2
    clear N6 F5
    revert w A s Q E L'
    set_option tactic.hygienic false in intros
    as_aux_lemma =>
    repeat walk1
    rotate_left
    · exfalso; lia
    rename Fr _ _ _ _ => F8
    rename News _ _ _ _ => N8
    rename _ = Data.cell (some (.ref f2)) => d8
    refine call_len_list (News.isList N8 (.tail _ (.tail _ (.head _)))) (by rw [List.size_toArray]; lia) ?_
    rw [show vs0.toArray.size = xs.length by rw [List.size_toArray]; exact hl0]
    revert w A s Q E L'
    set_option tactic.hygienic false in intros
    as_aux_lemma =>
    repeat walk1
    have hxl : 0 < xs.length := by obtain ⟨l, y, rfl, _⟩ := htop; simp
    have hI : InnI _ f2 n D := ⟨_, _, _, _, _, _, _, _, _, ⟨(N8 _ (.head _)).1, codeRec_news N8 (.tail _ (.head _)) e1 e2, rfl, rfl, rfl, ⟨_, (N8 _ (.tail _ (.tail _ (.tail _ (.tail _ (.tail _ (.head _))))))).1, d5⟩, ⟨_, (N8 _ (.tail _ (.tail _ (.tail _ (.tail _ (.tail _ (.tail _ (.head _)))))))).1, d3⟩, ⟨_, (N8 _ (.tail _ (.tail _ (.tail _ (.tail _ (.head _)))))).1, d8⟩⟩⟩
    have zD := N8 _ (.tail _ (.tail _ (.head _)))
    refine i2d_inner n hn 6 f2 D 0 xs.length xs _ _ _ vs0 0 (by lia) hxl (by lia) (by lia) (by lia) hxs (G2.down (by lia)) F8.keep zD.2.2 hI zD.1 ?_
    intro h9 tk9 zs k9 hD9 hz9
    have gN : ∀ P ∈ [D], (hideAll s.heap [30]).get? P = none := fun P hP => by rw [List.mem_singleton.mp hP]; exact zD.2.2
    have F9 := Fr.but F8 gN (notMem1 (Ne.symm zD.2.1)) k9
    have N9 : News (hideAll s.heap [30]) L' h9 [(D, _), (c2, oc2), (30, _), (L' + 1 + 1, _)] := fun p hp => by
      rcases List.mem_cons.mp hp with rfl | hp
      · exact ⟨hD9, zD.2⟩
      rcases List.mem_cons.mp hp with rfl | hp
      · have z := N8 _ (.tail _ (.head _)); exact ⟨k9 _ _ (notMem1 (by show @Ne Nat _ _; lia)) z.1, z.2⟩
      rcases List.mem_cons.mp hp with rfl | hp
      · have z := N8 _ (.tail _ (.tail _ (.tail _ (.head _)))); exact ⟨k9 _ _ (notMem1 (by show @Ne Nat _ _; lia)) z.1, z.2⟩
      rw [List.mem_singleton.mp hp]
      have z := N8 _ (.tail _ (.tail _ (.tail _ (.tail _ (.tail _ (.head _)))))); exact ⟨k9 _ _ (notMem1 (by show @Ne Nat _ _; lia)) z.1, z.2⟩
    clear N8 F8 k9
    rw [List.take_zero, List.nil_append, show vs0.drop xs.length = [] from List.drop_of_length_le (by lia), List.append_nil] at N9
    revert w A s Q E L'
    set_option tactic.hygienic false in intros
    as_aux_lemma =>
    repeat walk1
    exact ret _ _ D zs 0 (fun b o hb e => F9.keep _ _ (hideAll_get _ e hb)) ⟨_, (N9 _ (.tail _ (.tail _ (.head _)))).1, codeRec_news N9 (.tail _ (.head _)) e1 e2, .inl (notHidden (N9 _ (.tail _ (.head _))).2.2 (by show @Ne Nat _ _; lia))⟩ hD0 (N9 _ (.head _)).1 hz9
  · have hcB : (hideAll s.heap [30]).CodeRec (.ref c') q30 := by
      obtain ⟨c, o, vs, t, e, g, hd, hv⟩ := hc'
      cases e
      refine ⟨_, o, vs, t, rfl, hideAll_get _ g fun q => ?_, hd, hv⟩
      rw [List.mem_singleton.mp q, hP] at g
      cases g; cases hd; cases hv
    have hcr : ∀ h, (hideAll s.heap [30]).StaysIn h → h.CodeRec (.ref c') q30 := fun h k => let ⟨c, o, vs, t, e, g, r⟩ := hcB; ⟨c, o, vs, t, e, k _ _ g, r⟩
    with_unfolding_all refine' nestHit_K (P := 30) (c := 34) F5 N6 T C ?cd (.tail _ (.head _)) ?t ?n ?cl ?_
    case cd => exact rfl
    case t => kn_triples
    case n => kn_hit
    case cl => exact rfl
    intro f2 ct2 dc2 h7 tk7 F7 N7 lt1
    k_lt lt1
    clear N6 F5
    revert w A s Q E L'
    set_option tactic.hygienic false in intros
    as_aux_lemma =>
    repeat walk1
    rotate_left
    · exfalso; lia
    rename Fr _ _ _ _ => F8
    rename News _ _ _ _ => N8
    rename _ = Data.cell (some (.ref f2)) => d8
    refine call_len_list (News.isList N8 (.tail _ (.head _))) (by rw [List.size_toArray]; lia) ?_
    rw [show vs0.toArray.size = xs.length by rw [List.size_toArray]; exact hl0]
    revert w A s Q E L'
    set_option tactic.hygienic false in intros
    as_aux_lemma =>
    repeat walk1
    have hxl : 0 < xs.length := by obtain ⟨l, y, rfl, _⟩ := htop; simp
    have hI : InnI _ f2 n D := ⟨_, _, _, _, _, _, _, _, _, ⟨(N8 _ (.head _)).1, hcr _ F8.keep, rfl, rfl, rfl, ⟨_, (N8 _ (.tail _ (.tail _ (.tail _ (.tail _ (.head _)))))).1, d5⟩, ⟨_, (N8 _ (.tail _ (.tail _ (.tail _ (.tail _ (.tail _ (.head _))))))).1, d3⟩, ⟨_, (N8 _ (.tail _ (.tail _ (.tail _ (.head _))))).1, d8⟩⟩⟩
    have zD := N8 _ (.tail _ (.head _))
    refine i2d_inner n hn 6 f2 D 0 xs.length xs _ _ _ vs0 0 (by lia) hxl (by lia) (by lia) (by lia) hxs (G2.down (by lia)) F8.keep zD.2.2 hI zD.1 ?_
    intro h9 tk9 zs k9 hD9 hz9
    have gN : ∀ P ∈ [D], (hideAll s.heap [30]).get? P = none := fun P hP => by rw [List.mem_singleton.mp hP]; exact zD.2.2
    have F9 := Fr.but F8 gN (notMem1 (Ne.symm zD.2.1)) k9
    have N9 : News (hideAll s.heap [30]) L' h9 [(D, _), (30, _), (L' + 1 + 1, _)] := fun p hp => by
      rcases List.mem_cons.mp hp with rfl | hp
      · exact ⟨hD9, zD.2⟩
      rcases List.mem_cons.mp hp with rfl | hp
      · have z := N8 _ (.tail _ (.tail _ (.head _))); exact ⟨k9 _ _ (notMem1 (by show @Ne Nat _ _; lia)) z.1, z.2⟩
      rw [List.mem_singleton.mp hp]
      have z := N8 _ (.tail _ (.tail _ (.tail _ (.tail _ (.head _))))); exact ⟨k9 _ _ (notMem1 (by show @Ne Nat _ _; lia)) z.1, z.2⟩
    clear N8 F8 k9
    rw [List.take_zero, List.nil_append, show vs0.drop xs.length = [] from List.drop_of_length_le (by lia), List.append_nil] at N9
    revert w A s Q E L'
    set_option tactic.hygienic false in intros
    as_aux_lemma =>
    repeat walk1
    exact ret _ _ D zs 0 (fun b o hb e => F9.keep _ _ (hideAll_get _ e hb)) ⟨_, (N9 _ (.tail _ (.head _))).1, hcr _ F9.keep, .inr hP⟩ hD0 (N9 _ (.head _)).1 hz9
end Mine
end
end
section
local macro_rules | `(tactic| omega) => `(tactic| lia)
section
open PySem PySem.W PyProof.Rows PySem.Calls PySem.Spec
set_option Elab.async false
set_option maxRecDepth 100000
noncomputable section
namespace Mine
theorem bits_nat (a : Nat) (h : a ≠ 0) : Builtin.Int.intBits (a : Int) = a.log2 + 1 := by
  unfold Builtin.Int.intBits
  rw [if_neg (by simpa using h)]; rfl
theorem bits_le {a k : Nat} (h : a < 2 ^ k) : Builtin.Int.intBits (a : Int) ≤ k := by
  by_cases ha : a = 0
  · subst ha; exact Nat.zero_le _
  rw [bits_nat a ha]; exact (Nat.log2_lt ha).mpr h
theorem bits_eq {b n : Nat} (h1 : 2 ^ n ≤ b) (h2 : b < 2 ^ (n + 1)) : Builtin.Int.intBits (b : Int) = n + 1 := by
  have hb : b ≠ 0 := by have := Nat.two_pow_pos n; omega
  have l1 := bits_le h2
  rw [bits_nat b hb] at *
  have := (Nat.le_log2 hb).mpr h1
  omega
theorem nopy {a b n : Nat} (hb : 2 ^ n ≤ b) (h : (Builtin.Int.intBits (a : Int) : Int) - ((n + 1 : Nat) : Int) ≤ 4000) : Builtin.divisionGoesByPylong (a : Int) (b : Int) = false := by
  have hb0 : b ≠ 0 := by have := Nat.two_pow_pos n; omega
  have hl := (Nat.le_log2 hb0).mpr hb
  unfold Builtin.divisionGoesByPylong
  dsimp only
  rw [Bool.and_eq_false_iff]
  right
  refine decide_eq_false ?_
  have eb : (if ((b : Int) == 0) = true then 0 else (b : Int).natAbs.log2 / 30 + 1) = b.log2 / 30 + 1 := if_neg (by simpa using hb0)
  rw [eb]
  by_cases ha : a = 0
  · subst ha
    show ¬ (0 > _)
    omega
  rw [if_neg (by simpa using ha)]
  rw [bits_nat a ha] at h
  show ¬ (a.log2 / 30 + 1 > _)
  omega
/-- a number x, cut by b: the quotient q and the rest r -/
theorem divmod_unique {x b q r : Nat} (h : x = q * b + r) (hr : r < b) : x / b = q ∧ x % b = r := by
  subst h
  have hb : 0 < b := by omega
  constructor
  · rw [Nat.add_comm, Nat.add_mul_div_right _ _ hb, Nat.div_eq_of_lt hr, Nat.zero_add]
  · rw [Nat.add_comm, Nat.add_mul_mod_self_right, Nat.mod_eq_of_lt hr]
/-- a / b cut in the middle -/
structure Halved (a b h b1 b2 a12 a3 a4 : Nat) : Prop where
  eb : b = b1 * 2 ^ h + b2
  l2 : b2 < 2 ^ h
  lo : 2 ^ (h - 1) ≤ b1
  hi : b1 < 2 ^ h
  la : a12 * 2 ^ h + a3 < b * 2 ^ h
  l3 : a3 < 2 ^ h
  l4 : a4 < 2 ^ h
  ea : a = (a12 * 2 ^ h + a3) * 2 ^ h + a4
theorem halved {a b h : Nat} (h1 : 1 ≤ h) (hb1 : 2 ^ (h + h - 1) ≤ b) (hb2 : b < 2 ^ (h + h)) (ha : a < b * 2 ^ (h + h)) :
    Halved a b h (b / 2 ^ h) (b % 2 ^ h) (a / 2 ^ (h + h)) (a / 2 ^ h % 2 ^ h) (a % 2 ^ h) := by
  have hp := Nat.two_pow_pos h
  have e1 : a / 2 ^ (h + h) * 2 ^ h + a / 2 ^ h % 2 ^ h = a / 2 ^ h := by
    rw [Nat.pow_add, ← Nat.div_div_eq_div_mul]
    have := Nat.div_add_mod (a / 2 ^ h) (2 ^ h)
    rw [Nat.mul_comm] at this; exact this
  refine ⟨?_, Nat.mod_lt _ hp, ?_, ?_, ?_, Nat.mod_lt _ hp, Nat.mod_lt _ hp, ?_⟩
  · have := Nat.div_add_mod b (2 ^ h); rw [Nat.mul_comm] at this; exact this.symm
  · rw [Nat.le_div_iff_mul_le hp, ← Nat.pow_add, show h - 1 + h = h + h - 1 by omega]; exact hb1
  · rw [Nat.div_lt_iff_lt_mul hp, ← Nat.pow_add]; exact hb2
  · rw [e1, Nat.div_lt_iff_lt_mul hp, Nat.mul_assoc, ← Nat.pow_add]; exact ha
  · rw [e1]; have := Nat.div_add_mod a (2 ^ h); rw [Nat.mul_comm] at this; exact this.symm
theorem quot_lt {x b h : Nat} (h1 : x < b * 2 ^ h) : x / b < 2 ^ h := by
  rw [Nat.mul_comm] at h1
  exact Nat.div_lt_of_lt_mul (by rw [Nat.mul_comm]; exact h1)
/-- the second cut, and the whole -/
theorem halved_join {a b h b1 b2 a12 a3 a4 : Nat} (H : Halved a b h b1 b2 a12 a3 a4) :
    (a12 * 2 ^ h + a3) % b * 2 ^ h + a4 < b * 2 ^ h ∧ ((a12 * 2 ^ h + a3) % b * 2 ^ h + a4) / b < 2 ^ h ∧
    a / b = (a12 * 2 ^ h + a3) / b * 2 ^ h + ((a12 * 2 ^ h + a3) % b * 2 ^ h + a4) / b ∧ a % b = ((a12 * 2 ^ h + a3) % b * 2 ^ h + a4) % b := by
  have hp := Nat.two_pow_pos h
  have hb : 0 < b := Nat.pos_of_ne_zero fun e => by have := H.la; rw [e, Nat.zero_mul] at this; omega
  obtain ⟨q1, hq1⟩ : ∃ q1, (a12 * 2 ^ h + a3) / b = q1 := ⟨_, rfl⟩
  obtain ⟨r1, hr1⟩ : ∃ r1, (a12 * 2 ^ h + a3) % b = r1 := ⟨_, rfl⟩
  have d1 := Nat.div_add_mod (a12 * 2 ^ h + a3) b
  have m1 := Nat.mod_lt (a12 * 2 ^ h + a3) hb
  rw [hq1, hr1] at d1
  rw [hr1] at m1
  rw [hq1, hr1]
  obtain ⟨q2, hq2⟩ : ∃ q2, (r1 * 2 ^ h + a4) / b = q2 := ⟨_, rfl⟩
  obtain ⟨r2, hr2⟩ : ∃ r2, (r1 * 2 ^ h + a4) % b = r2 := ⟨_, rfl⟩
  have d2 := Nat.div_add_mod (r1 * 2 ^ h + a4) b
  have m2 := Nat.mod_lt (r1 * 2 ^ h + a4) hb
  have l : r1 * 2 ^ h + a4 < b * 2 ^ h := by
    have : (r1 + 1) * 2 ^ h ≤ b * 2 ^ h := Nat.mul_le_mul_right _ m1
    rw [Nat.add_mul, Nat.one_mul] at this
    have := H.l4; omega
  have l2 := quot_lt l
  rw [hq2, hr2] at d2
  rw [hr2] at m2
  rw [hq2, hr2]
  rw [hq2] at l2
  refine ⟨l, l2, ?_⟩
  refine divmod_unique ?_ m2
  rw [H.ea, ← d1, Nat.add_mul, Nat.add_mul, Nat.add_assoc, ← d2, Nat.mul_comm b q2, Nat.mul_comm b q1, Nat.mul_right_comm q1, Nat.add_assoc]
theorem pad_div (a b : Nat) : a * 2 / (b * 2) = a / b ∧ a * 2 % (b * 2) = a % b * 2 := by
  refine ⟨Nat.mul_div_mul_right _ _ (by decide), ?_⟩
  rw [Nat.mul_comm a, Nat.mul_comm b, Nat.mul_mod_mul_left, Nat.mul_comm]
/-- x = q b + r with the rest not yet at home -/
structure QR (x b : Nat) (q r : Int) : Prop where
  eq : (x : Int) = q * (b : Int) + r
  lt : r < (b : Int)
theorem QR.step {x b : Nat} {q r : Int} (H : QR x b q r) (hr : r < 0) : QR x b (q - 1) (r + (b : Int)) ∧ (-(r + (b : Int))).toNat < (-r).toNat := by
  have hb : 0 < (b : Int) ∨ (b : Int) = 0 := by omega
  rcases hb with hb | hb
  · refine ⟨⟨?_, by omega⟩, by omega⟩
    rw [H.eq, Int.sub_mul]; omega
  · exfalso
    have := H.eq; rw [hb, Int.mul_zero] at this; omega
theorem QR.done {x b : Nat} {q r : Int} (H : QR x b q r) (hr : 0 ≤ r) : q = ((x / b : Nat) : Int) ∧ r = ((x % b : Nat) : Int) := by
  have hl := H.lt
  have h0 : 0 ≤ q := by
    apply Int.not_lt.mp
    intro hq
    have : q * (b : Int) ≤ -1 * (b : Int) := Int.mul_le_mul_of_nonneg_right (by omega) (by omega)
    have := H.eq; omega
  obtain ⟨q', rfl⟩ := Int.eq_ofNat_of_zero_le h0
  obtain ⟨r', rfl⟩ := Int.eq_ofNat_of_zero_le hr
  have e : x = q' * b + r' := by have := H.eq; exact_mod_cast this
  have := divmod_unique e (by omega)
  exact ⟨by rw [this.1], by rw [this.2]⟩
/-- the two ways into a third -/
structure Third (b h b1 b2 a12 a3 : Nat) : Prop where
  eb : b = b1 * 2 ^ h + b2
  l2 : b2 < 2 ^ h
  la : a12 * 2 ^ h + a3 < b * 2 ^ h
  l3 : a3 < 2 ^ h
theorem third_hi {b h b1 b2 a12 a3 : Nat} (T : Third b h b1 b2 a12 a3) : a12 / 2 ^ h ≤ b1 := by
  have hp := Nat.two_pow_pos h
  have h1 : a12 < b := by
    apply Nat.lt_of_mul_lt_mul_right (a := 2 ^ h)
    have := T.la; omega
  have : a12 < (b1 + 1) * 2 ^ h := by rw [Nat.add_mul, Nat.one_mul]; have := T.eb; have := T.l2; omega
  have := (Nat.div_lt_iff_lt_mul hp).mpr this
  omega
theorem third_eq {b h b1 b2 a12 a3 : Nat} (T : Third b h b1 b2 a12 a3) (e : a12 / 2 ^ h = b1) :
    a12 = b1 * 2 ^ h + a12 % 2 ^ h ∧ QR (a12 * 2 ^ h + a3) b (2 ^ h - 1) (((a12 % 2 ^ h + b1) * 2 ^ h + a3 : Nat) - (2 ^ h - 1) * (b2 : Int)) := by
  have hp := Nat.two_pow_pos h
  have e0 := Nat.div_add_mod a12 (2 ^ h)
  rw [e, Nat.mul_comm] at e0
  refine ⟨e0.symm, ?_⟩
  obtain ⟨c, hc⟩ : ∃ c, a12 % 2 ^ h = c := ⟨_, rfl⟩
  rw [hc] at e0
  have eP : (2 : Int) ^ h = ((2 ^ h : Nat) : Int) := by norm_cast
  obtain ⟨P, hP⟩ : ∃ P, 2 ^ h = P := ⟨_, rfl⟩
  have la := T.la
  have eb := T.eb
  rw [hc, eP]
  rw [hP] at e0 la eb hp ⊢
  subst eb
  have key : ((a12 * P + a3 : Nat) : Int) = ((P : Int) - 1) * ((b1 * P + b2 : Nat) : Int) + (((c + b1) * P + a3 : Nat) - ((P : Int) - 1) * (b2 : Int)) := by
    rw [← e0]
    push_cast
    simp only [Int.sub_mul, Int.mul_add, Int.add_mul, Int.one_mul]
    rw [Int.mul_comm (P : Int) ((b1 : Int) * P)]
    omega
  refine ⟨key, ?_⟩
  have lb : ((a12 * P + a3 : Nat) : Int) < ((b1 * P + b2 : Nat) : Int) * (P : Int) := by exact_mod_cast la
  rw [key, Int.sub_mul, Int.one_mul, Int.mul_comm (P : Int)] at lb
  omega
theorem third_ne {b h b1 b2 a12 a3 : Nat} (T : Third b h b1 b2 a12 a3) (e : a12 / 2 ^ h ≠ b1) :
    a12 < b1 * 2 ^ h ∧ QR (a12 * 2 ^ h + a3) b ((a12 / b1 : Nat) : Int) ((a12 % b1 * 2 ^ h + a3 : Nat) - ((a12 / b1 : Nat) : Int) * (b2 : Int)) := by
  have hp := Nat.two_pow_pos h
  have h1 : a12 < b1 * 2 ^ h := (Nat.div_lt_iff_lt_mul hp).mp (by have := third_hi T; omega)
  refine ⟨h1, ?_⟩
  have hb1 : 0 < b1 := Nat.pos_of_ne_zero fun z => by rw [z, Nat.zero_mul] at h1; omega
  have d := Nat.div_add_mod a12 b1
  have m := Nat.mod_lt a12 hb1
  obtain ⟨q, hq⟩ : ∃ q, a12 / b1 = q := ⟨_, rfl⟩
  obtain ⟨r, hr⟩ : ∃ r, a12 % b1 = r := ⟨_, rfl⟩
  rw [hq, hr] at d
  rw [hr] at m
  rw [hq, hr]
  have eb := T.eb
  subst eb
  have l3 := T.l3
  have l : r * 2 ^ h + a3 < b1 * 2 ^ h := by
    have : (r + 1) * 2 ^ h ≤ b1 * 2 ^ h := Nat.mul_le_mul_right _ m
    rw [Nat.add_mul, Nat.one_mul] at this; omega
  refine ⟨?_, ?_⟩
  · have e : (a12 * 2 ^ h + a3 : Nat) + q * b2 = q * (b1 * 2 ^ h + b2) + (r * 2 ^ h + a3) := by
      rw [← d, Nat.add_mul, Nat.mul_add, Nat.mul_comm b1 q, Nat.mul_assoc]; omega
    have e' : (((a12 * 2 ^ h + a3 : Nat)) : Int) + (q : Int) * (b2 : Int) = (q : Int) * ((b1 * 2 ^ h + b2 : Nat) : Int) + ((r * 2 ^ h + a3 : Nat) : Int) := by exact_mod_cast e
    omega
  · have := Int.mul_nonneg (Int.natCast_nonneg q) (Int.natCast_nonneg b2)
    omega
end Mine
end
end
section
open PySem PySem.W PyProof.Rows PySem.Calls PySem.Spec
set_option Elab.async false
set_option maxRecDepth 100000
noncomputable section
namespace Mine
theorem rules_D2 : True := by
  k_with_none
  w_top off
  k_with "storeName" => (k_here; with_reducible show wpAny _ _ (storeName _ _ (Value.int _ (Shared.toks _))) _ _ _; k_dflt (refine storeX_Li (by k_asm) (by k_asm) (fun t_kw h_kw F_kw N_kw => ?_) rfl rfl; try k_sweep))
  k_with "storeName" => (k_here; with_reducible show wpAny _ _ (storeName _ _ (Value.str _ (Shared.toks _))) _ _ _; k_dflt (refine storeX_Ls (by k_asm) (by k_asm) (fun t_kw h_kw F_kw N_kw => ?_) rfl rfl; try k_sweep))
  k_with "assign Tuple" => (k_here; (with_reducible show wpAny _ _ (assign (Expr.Tuple _ _ _) _ (Value.ref _)) _ _ _); k_dflt (refine' unpackN_ ?kw_F ?kw_N ?kw_T ?kw_k1 ?kw_k2 ?kw_k3 ?_; (case kw_F => k_asm); (case kw_N => k_asm); (case kw_T => first | k_asm | (refine News.isTup (by k_asm) (by k_mem)) | exact tup_at (by k_asm) (by k_asm)); (case kw_k1 => first | exact rfl | k_asm); (case kw_k2 => exact rfl); (case kw_k3 => exact rfl)); intro h_kw F_kw N_kw; (try k_sweep))
  trivial
theorem fillK_D2 : (fun (_ : OpenLaw) (_ : Params → Frag) => True) PySem.Challenge.rw_xe0047_01 KF := by
  k_fill
  trivial
/-- a pair of numbers, made anew -/
noncomputable def PairRet (s : Shared) (q r : Nat) (Q : Value → Shared → Prop) : Prop :=
  ∀ h' tk T tq tr, s.heap.StaysIn h' → s.heap.get? T = none → h'.get? T = some (tupOf #[.int (q : Nat) tq, .int (r : Nat) tr]) → Q (.ref T) { s with heap := h', toks := tk }
noncomputable def Div2 (w : World) (M k : Nat) : Prop := ∀ {A : Around} {s : Shared} {h₀ : Heap} {L : Addr} {m : Str → Option Value} {Q E : Value → Shared → Prop} (a b n : Nat) (Av Bv Nv : Int) (ta tb tn : Tok),
  Av = (a : Int) → Bv = (b : Int) → Nv = ((n + 1 : Nat) : Int) → n + 1 ≤ M → 2 ^ n ≤ b → b < 2 ^ (n + 1) → a < b * 2 ^ (n + 1) → Env0 w A h₀ k → Fr h₀ L s.heap m → PairRet s (a / b) (a % b) Q →
  wpAny (model pw w) A (call (.ref 21) [.int Av ta, .int Bv tb, .int Nv tn]) Q E s
noncomputable def Div3 (w : World) (M k : Nat) : Prop := ∀ {A : Around} {s : Shared} {h₀ : Heap} {L : Addr} {m : Str → Option Value} {Q E : Value → Shared → Prop} (a12 a3 b b1 b2 h : Nat) (V1 V2 V3 V4 V5 V6 : Int) (t1 t2 t3 t4 t5 t6 : Tok),
  V1 = (a12 : Int) → V2 = (a3 : Int) → V3 = (b : Int) → V4 = (b1 : Int) → V5 = (b2 : Int) → V6 = ((h + 1 : Nat) : Int) → h + 1 ≤ M → 2 ^ h ≤ b1 → b1 < 2 ^ (h + 1) → Third b (h + 1) b1 b2 a12 a3 → Env0 w A h₀ k → Fr h₀ L s.heap m →
  PairRet s ((a12 * 2 ^ (h + 1) + a3) / b) ((a12 * 2 ^ (h + 1) + a3) % b) Q →
  wpAny (model pw w) A (call (.ref 28) [.int V1 t1, .int V2 t2, .int V3 t3, .int V4 t4, .int V5 t5, .int V6 t6]) Q E s
set_option maxHeartbeats 1000000 in
theorem div3_of {w : World} {M k : Nat} (hM : M ≤ 16000) (ih : Div2 w M k) : Div3 w M (k + 1) := by
  intro A s h₀ L m Q E a12 a3 b b1 b2 h V1 V2 V3 V4 V5 V6 t1 t2 t3 t4 t5 t6 e1 e2 e3 e4 e5 e6 hle hb1 hb1' H G F ret
  subst e1 e2 e3 e4 e5 e6
  refine enter (binds := [("a12", .int (a12 : Nat) t1), ("a3", .int (a3 : Nat) t2), ("b", .int (b : Nat) t3), ("b1", .int (b1 : Nat) t4), ("b2", .int (b2 : Nat) t5), ("n", .int ((h + 1 : Nat)) t6)]) G F rfl rfl rfl rfl (fun L' h₁ G' F' N' => ?_)
  obtain ⟨p, l, me, mg, mb, T⟩ := G'.T
  have X := G'.X
  have hh := G'.hh
  have hm0 : ∃ m0 : Str → Option Value, m0 = fun x => List.lookup x [((Str.ofString "a12" : Str), Value.int (a12 : Nat) t1), ("a3", .int (a3 : Nat) t2), ("b", .int (b : Nat) t3), ("b1", .int (b1 : Nat) t4), ("b2", .int (b2 : Nat) t5), ("n", .int ((h + 1 : Nat)) t6)].reverse := ⟨_, rfl⟩
  obtain ⟨m0, hm0⟩ := hm0
  have hN : (((h + 1 : Nat) : Int)).toNat = h + 1 := Int.toNat_natCast _
  have eP : (2 : Int) ^ (h + 1) = ((2 ^ (h + 1) : Nat) : Int) := by norm_cast
  have z1 := bits_le hb1'
  have z2 := bits_le H.l2
  revert w A s Q E L'
  set_option tactic.hygienic false in intros
  as_aux_lemma =>
  repeat walk1
  · rename _ = _ => hc
    have hc' : a12 / 2 ^ (h + 1) = b1 := by
      rw [hN, eP, Int.fdiv_eq_ediv_of_nonneg _ (Int.natCast_nonneg _), ← Int.natCast_ediv] at hc
      exact_mod_cast hc
    obtain ⟨d1, qr⟩ := third_eq H hc'
    refine' lshift_int ?h0 ?sz ?_
    case h0 => omega
    case sz => omega
    rw [hN]
    revert w A s Q E L'
    set_option tactic.hygienic false in intros
    as_aux_lemma =>
    repeat walk1
    rename Fr _ _ _ _ => F2
    rename News _ _ _ _ => N2
    have er : (a12 : Int) - (b1 : Int) * 2 ^ (h + 1) + (b1 : Int) = ((a12 % 2 ^ (h + 1) + b1 : Nat) : Int) := by
      rw [eP]
      have : (a12 : Int) = (b1 : Int) * ((2 ^ (h + 1) : Nat) : Int) + ((a12 % 2 ^ (h + 1) : Nat) : Int) := by exact_mod_cast d1
      omega
    have eq : (1 : Int) * 2 ^ (h + 1) - 1 = 2 ^ (h + 1) - 1 := by rw [Int.one_mul]
    rw [er, eq] at N2
    refine' unpackItemsN_ F2 N2 (News.isTup N2 (.head _)) ?k1 ?k2 ?_
    case k1 => exact hh
    case k2 => exact rfl
    intro h' F3 N3
    have lq : Builtin.Int.intBits ((2 : Int) ^ (h + 1) - 1) ≤ 16000 := by
      have := intBits_le_of (a := (2 : Int) ^ (h + 1) - 1) (b := h + 1) (by have : (0 : Int) < 2 ^ (h + 1) := Int.pow_pos (by decide); omega) (by omega)
      omega
    have lr : a12 % 2 ^ (h + 1) + b1 < 2 ^ (h + 2) := by
      have := Nat.mod_lt a12 (Nat.two_pow_pos (h + 1))
      rw [Nat.pow_succ 2 (h + 1)]; omega
    clear er eq d1
    generalize (2 : Int) ^ (h + 1) - 1 = q at *
    generalize a12 % 2 ^ (h + 1) + b1 = r0 at *
    clear F2 N2
    revert w A s Q E L'
    set_option tactic.hygienic false in intros
    as_aux_lemma =>
    repeat walk1
    rename Fr _ _ _ _ => F2
    rename News _ _ _ _ => N2
    refine' lshift_int ?h0 ?sz ?_
    case h0 => omega
    case sz => have := bits_le lr; omega
    rw [hN]
    have eo : Builtin.bitOr ((r0 : Int) * 2 ^ (h + 1)) (a3 : Int) = ((r0 * 2 ^ (h + 1) + a3 : Nat) : Int) := by
      have e : (r0 : Int) * 2 ^ (h + 1) = ((r0 * 2 ^ (h + 1) : Nat) : Int) := by norm_cast
      rw [e, or_low _ _ _ H.l3]
    iterate 3 walk1
    rw [eo]
    have mo : IntMulOk q (b2 : Int) := IntMulOk.of_le lq z2 (by omega)
    revert w A s Q E L'
    set_option tactic.hygienic false in intros
    as_aux_lemma =>
    iterate 6 walk1
    rename Fr _ _ _ _ => F3
    rename News _ _ _ _ => N3

    with_reducible refine' While_inv (n₀ := (-(((r0 * 2 ^ (h + 1) + a3 : Nat) : Int) - q * (b2 : Int))).toNat) (fun n m' nx => nx = [] ∧ ∃ q' r' tq' tr', QR (a12 * 2 ^ (h + 1) + a3) b q' r' ∧ n = (-r').toNat ∧
      m' = fun y => if y = Str.ofString "r" then some (.int r' tr') else if y = Str.ofString "q" then some (.int q' tq') else m0 y) F3 (News.nil (h₀ := s.heap) (L := L')) ?hJ ?turn ?hE
    case hE => passes_own
    case hJ =>
      refine ⟨rfl, q, _, ?tq, ?tr, qr, rfl, ?_⟩
      rotate_left 2
      subst hm0
      funext y
      by_cases h1 : y = Str.ofString "r"
      · subst h1; rfl
      by_cases h2 : y = Str.ofString "q"
      · subst h2; rfl
      simp only [if_neg h1, if_neg h2]
    case turn =>
      rintro n m1 nx h4 tk4 F4 N4 ⟨rfl, q', r', tq', tr', qr', rfl, rfl⟩
      clear F3 N3 qr
      subst hm0
      revert w A s Q E L'
      set_option tactic.hygienic false in intros
      as_aux_lemma =>
      repeat walk1
      · rename _ < _ => hlt
        obtain ⟨qr2, hlt2⟩ := qr'.step hlt
        rename Fr _ _ _ _ => F5
        refine WhileStep.intro F5 (News.nil (h₀ := s.heap) (L := L')) hlt2 ⟨rfl, _, _, ?tq1, ?tr1, qr2, rfl, ?_⟩
        rotate_left 2
        funext y
        by_cases h1 : y = Str.ofString "r"
        · subst h1; rfl
        by_cases h2 : y = Str.ofString "q"
        · subst h2; rfl
        simp only [if_neg h1, if_neg h2]
      · repeat walk1
        rename ¬ (_ < _) => hge
        obtain ⟨eq, er⟩ := qr'.done (Int.not_lt.mp hge)
        rename Fr _ _ _ _ => F5
        rename News _ _ _ _ => N5
        rw [eq, er] at N5
        have z := N5 _ (.head _)
        exact ret _ _ _ _ _ (Fr.keep F5) z.2.2 z.1
  · rename ¬ _ => hc
    have hc' : a12 / 2 ^ (h + 1) ≠ b1 := fun e => hc (by
      rw [hN, eP, Int.fdiv_eq_ediv_of_nonneg _ (Int.natCast_nonneg _), ← Int.natCast_ediv]
      exact_mod_cast e)
    obtain ⟨d1, qr⟩ := third_ne H hc'
    revert w A s Q E L'
    set_option tactic.hygienic false in intros
    as_aux_lemma =>
    repeat walk1
    rename Fr _ _ _ _ => F2
    rename News _ _ _ _ => N2
    refine ih a12 b1 h _ _ _ _ _ _ rfl rfl rfl hle hb1 hb1' d1 G' F2 ?_
    intro h3 tk3 T tq tr k3 n3 g3
    have F3 := Fr.stay F2 k3
    have N3 : News s.heap L' h3 [(T, _)] := fun p hp => by rw [List.mem_singleton.mp hp]; exact ⟨g3, Fr.neL F2 n3, Fr.noB F2 n3⟩
    clear F2 N2 k3
    have lq : Builtin.Int.intBits ((a12 / b1 : Nat) : Int) ≤ 16000 := by
      have := bits_le (quot_lt (b := b1) d1)
      omega
    have lr : a12 % b1 < 2 ^ (h + 2) := by
      have := Nat.mod_lt a12 (show 0 < b1 by have := Nat.two_pow_pos h; omega)
      rw [Nat.pow_succ 2 (h + 1)]; omega
    clear d1
    generalize ((a12 / b1 : Nat) : Int) = q at *
    generalize a12 % b1 = r0 at *
    revert w A s Q E L'
    set_option tactic.hygienic false in intros
    as_aux_lemma =>
    repeat walk1
    rename Fr _ _ _ _ => F2
    rename News _ _ _ _ => N2
    refine' lshift_int ?h0 ?sz ?_
    case h0 => omega
    case sz => have := bits_le lr; omega
    rw [hN]
    have eo : Builtin.bitOr ((r0 : Int) * 2 ^ (h + 1)) (a3 : Int) = ((r0 * 2 ^ (h + 1) + a3 : Nat) : Int) := by
      have e : (r0 : Int) * 2 ^ (h + 1) = ((r0 * 2 ^ (h + 1) : Nat) : Int) := by norm_cast
      rw [e, or_low _ _ _ H.l3]
    iterate 3 walk1
    rw [eo]
    have mo : IntMulOk q (b2 : Int) := IntMulOk.of_le lq z2 (by omega)
    revert w A s Q E L'
    set_option tactic.hygienic false in intros
    as_aux_lemma =>
    iterate 6 walk1
    rename Fr _ _ _ _ => F3
    rename News _ _ _ _ => N3

    with_reducible refine' While_inv (n₀ := (-(((r0 * 2 ^ (h + 1) + a3 : Nat) : Int) - q * (b2 : Int))).toNat) (fun n m' nx => nx = [] ∧ ∃ q' r' tq' tr', QR (a12 * 2 ^ (h + 1) + a3) b q' r' ∧ n = (-r').toNat ∧
      m' = fun y => if y = Str.ofString "r" then some (.int r' tr') else if y = Str.ofString "q" then some (.int q' tq') else m0 y) F3 (News.nil (h₀ := s.heap) (L := L')) ?hJb ?turnb ?hEb
    case hEb => passes_own
    case hJb =>
      refine ⟨rfl, q, _, ?tqb, ?trb, qr, rfl, ?_⟩
      rotate_left 2
      subst hm0
      funext y
      by_cases h1 : y = Str.ofString "r"
      · subst h1; rfl
      by_cases h2 : y = Str.ofString "q"
      · subst h2; rfl
      simp only [if_neg h1, if_neg h2]
    case turnb =>
      rintro n m1 nx h4 tk4 F4 N4 ⟨rfl, q', r', tq', tr', qr', rfl, rfl⟩
      clear F3 N3 qr
      subst hm0
      revert w A s Q E L'
      set_option tactic.hygienic false in intros
      as_aux_lemma =>
      repeat walk1
      · rename _ < _ => hlt
        obtain ⟨qr2, hlt2⟩ := qr'.step hlt
        rename Fr _ _ _ _ => F5
        refine WhileStep.intro F5 (News.nil (h₀ := s.heap) (L := L')) hlt2 ⟨rfl, _, _, ?tq2, ?tr2, qr2, rfl, ?_⟩
        rotate_left 2
        funext y
        by_cases h1 : y = Str.ofString "r"
        · subst h1; rfl
        by_cases h2 : y = Str.ofString "q"
        · subst h2; rfl
        simp only [if_neg h1, if_neg h2]
      · repeat walk1
        rename ¬ (_ < _) => hge
        obtain ⟨eq, er⟩ := qr'.done (Int.not_lt.mp hge)
        rename Fr _ _ _ _ => F5
        rename News _ _ _ _ => N5
        rw [eq, er] at N5
        have z := N5 _ (.head _)
        exact ret _ _ _ _ _ (Fr.keep F5) z.2.2 z.1
end Mine
end
end
section
open PySem PySem.W PyProof.Rows PySem.Calls PySem.Spec
set_option Elab.async false
set_option maxRecDepth 100000
noncomputable section
namespace Mine
theorem rules_D3 : True := by
  k_with_none
  w_top off
  k_with "storeName" => (k_here; with_reducible show wpAny _ _ (storeName _ _ (Value.int _ (Shared.toks _))) _ _ _; k_dflt (refine storeX_Li (by k_asm) (by k_asm) (fun t_kw h_kw F_kw N_kw => ?_) rfl rfl; try k_sweep))
  k_with "storeName" => (k_here; with_reducible show wpAny _ _ (storeName _ _ (Value.str _ (Shared.toks _))) _ _ _; k_dflt (refine storeX_Ls (by k_asm) (by k_asm) (fun t_kw h_kw F_kw N_kw => ?_) rfl rfl; try k_sweep))
  k_with "assign Tuple" => (k_here; (with_reducible show wpAny _ _ (assign (Expr.Tuple _ _ _) _ (Value.ref _)) _ _ _); k_dflt (refine' unpackN_ ?kw_F ?kw_N ?kw_T ?kw_k1 ?kw_k2 ?kw_k3 ?_; (case kw_F => k_asm); (case kw_N => k_asm); (case kw_T => first | k_asm | (refine News.isTup (by k_asm) (by k_mem)) | exact tup_at (by k_asm) (by k_asm)); (case kw_k1 => first | exact rfl | k_asm); (case kw_k2 => exact rfl); (case kw_k3 => exact rfl)); intro h_kw F_kw N_kw; (try k_sweep))
  trivial
theorem fillK_D3 : (fun (_ : OpenLaw) (_ : Params → Frag) => True) PySem.Challenge.rw_xe0047_01 KF := by
  k_fill
  trivial
theorem and_one (n : Nat) : Builtin.bitAnd ((n : Nat) : Int) 1 = ((n % 2 : Nat) : Int) := by
  have := and_cast n 1
  rw [show ((1 : Nat) : Int) = 1 from rfl] at this
  rw [this, Nat.and_one_is_mod]
theorem shr_cast (x k : Nat) : ((x : Nat) : Int).fdiv (2 ^ Int.toNat ((k : Nat) : Int)) = ((x / 2 ^ k : Nat) : Int) := by
  rw [Int.toNat_natCast, Int.fdiv_eq_ediv_of_nonneg _ (Int.le_of_lt (Int.pow_pos (by decide)))]
  norm_cast
theorem and_mask (x k : Nat) : Builtin.bitAnd ((x : Nat) : Int) (1 * 2 ^ k - 1) = ((x % 2 ^ k : Nat) : Int) := by
  rw [Int.one_mul, kbt_mask]; norm_cast
theorem half_up (h : Nat) : ((h + 1 + (h + 1) : Nat) : Int).fdiv (2 ^ Int.toNat 1) = ((h + 1 : Nat) : Int) := by
  have := shr_cast (h + 1 + (h + 1)) 1
  rw [show ((1 : Nat) : Int) = 1 from rfl] at this
  rw [this]; congr 1; omega
set_option maxHeartbeats 4000000 in
theorem div2_of {w : World} {M M' k : Nat} (hM : M ≤ 16000) (hMM : M ≤ M' + M') (ih : 4000 < M → Div3 w M' k) : Div2 w M (k + 1) := by
  intro A s h₀ L m Q E a b n Av Bv Nv ta tb tn e1 e2 e3 hle hb1 hb2 hab G F ret
  subst e1 e2 e3
  have hz : a < 2 ^ (n + 1 + (n + 1)) := by rw [Nat.pow_add]; exact Nat.lt_of_lt_of_le hab (Nat.mul_le_mul_right _ (Nat.le_of_lt hb2))
  have za := bits_le hz
  have zb := bits_le hb2
  refine enter (binds := [("a", .int (a : Nat) ta), ("b", .int (b : Nat) tb), ("n", .int ((n + 1 : Nat)) tn)]) G F rfl rfl rfl rfl (fun L' h₁ G' F' N' => ?_)
  obtain ⟨p, l, me, mg, mb, T⟩ := G'.T
  have X := G'.X
  have hh := G'.hh
  have hb0 : (b : Int) ≠ 0 := by have := Nat.two_pow_pos n; omega
  revert w A s Q E L'
  set_option tactic.hygienic false in intros
  as_aux_lemma =>
  repeat walk1
  · rename _ ≤ _ => hc
    rename Fr _ _ _ _ => F1
    rename News _ _ _ _ => N1
    refine' divmod_N F1 N1 hb0 ?_ (.inl (nopy hb1 hc))
    intro h' F2 N2
    revert w A s Q E L'
    set_option tactic.hygienic false in intros
    as_aux_lemma =>
    k_steps
    have z := N2 _ (.head _)
    rw [Int.fdiv_eq_ediv_of_nonneg _ (Int.natCast_nonneg _), ← Int.natCast_ediv, Int.fmod_eq_emod_of_nonneg _ (Int.natCast_nonneg _), ← Int.natCast_emod] at z
    exact ret _ _ _ _ _ F2.keep z.2.2 z.1
  · rename ¬ _ => hc
    have hM4 : 4000 < M := by omega
    have ih' := @ih hM4
    clear ih hc
    revert w A s Q E L'
    set_option tactic.hygienic false in intros
    as_aux_lemma =>
    iterate 7 walk1
    rw [and_one]
    rcases Nat.mod_two_eq_zero_or_one (n + 1) with ev | ev
    · rw [ev]
      obtain ⟨h, eh⟩ : ∃ h, n + 1 = h + 1 + (h + 1) := ⟨(n + 1) / 2 - 1, by omega⟩
      have H := halved (a := a) (b := b) (h := h + 1) (by omega) (by rw [← eh]; exact hb1) (by rw [← eh]; exact hb2) (by rw [← eh]; exact hab)
      rw [eh] at F'
      revert w A s Q E L'
      set_option tactic.hygienic false in intros
      as_aux_lemma =>
      iterate 15 walk1

      rw [half_up]
      revert w A s Q E L'
      set_option tactic.hygienic false in intros
      as_aux_lemma =>
      iterate 7 walk1
      refine' lshift_int ?h01 ?sz1 ?_
      case h01 => omega
      case sz1 => have : Builtin.Int.intBits 1 = 1 := rfl; omega
      rw [Int.toNat_natCast]
      revert w A s Q E L'
      set_option tactic.hygienic false in intros
      as_aux_lemma =>
      iterate 11 walk1
      rw [shr_cast]
      revert w A s Q E L'
      set_option tactic.hygienic false in intros
      as_aux_lemma =>
      iterate 5 walk1
      rw [and_mask]
      iterate 2 walk1
      rename Fr _ _ _ _ => F2
      rename News _ _ _ _ => N2
      refine' unpackItemsN_ F2 N2 (News.isTup N2 (.head _)) ?k11 ?k21 ?_
      case k11 => exact hh
      case k21 => exact rfl
      intro h' F3 N3
      clear N2 F2 N3
      revert w A s Q E L'
      set_option tactic.hygienic false in intros
      as_aux_lemma =>
      iterate 18 walk1
      rw [shr_cast]
      revert w A s Q E L'
      set_option tactic.hygienic false in intros
      as_aux_lemma =>
      iterate 6 walk1
      rw [shr_cast]
      iterate 2 walk1
      rw [and_mask]
      revert w A s Q E L'
      set_option tactic.hygienic false in intros
      as_aux_lemma =>
      iterate 9 walk1
      refine ⟨?XX1, ?_⟩
      case XX1 => exact X.keeps (Fr.keep (by assumption))
      have T3 : Third b (h + 1) (b / 2 ^ (h + 1)) (b % 2 ^ (h + 1)) (a / 2 ^ (h + 1 + (h + 1))) (a / 2 ^ (h + 1) % 2 ^ (h + 1)) := ⟨H.eb, H.l2, H.la, H.l3⟩
      have lo : 2 ^ h ≤ b / 2 ^ (h + 1) := H.lo
      have hi := H.hi
      obtain ⟨J1, J2, J3, J4⟩ := halved_join H
      have Q1 := quot_lt H.la
      have l4 := H.l4
      clear H
      rename Fr _ _ _ _ => F2
      refine ih' (a / 2 ^ (h + 1 + (h + 1))) (a / 2 ^ (h + 1) % 2 ^ (h + 1)) b (b / 2 ^ (h + 1)) (b % 2 ^ (h + 1)) h _ _ _ _ _ _ _ _ _ _ _ _ rfl rfl rfl rfl rfl rfl (by omega) lo hi T3 G' F2 ?_
      intro h3 tk3 T1 tq tr k3 n3 g3
      have F3 := Fr.stay F2 k3
      have N3 : News s.heap L' h3 [(T1, _)] := fun p hp => by rw [List.mem_singleton.mp hp]; exact ⟨g3, Fr.neL F2 n3, Fr.noB F2 n3⟩
      clear F2 k3
      have T4 : Third b (h + 1) (b / 2 ^ (h + 1)) (b % 2 ^ (h + 1)) ((a / 2 ^ (h + 1 + (h + 1)) * 2 ^ (h + 1) + a / 2 ^ (h + 1) % 2 ^ (h + 1)) % b) (a % 2 ^ (h + 1)) := ⟨T3.eb, T3.l2, J1, l4⟩
      clear T3 J1
      generalize (a / 2 ^ (h + 1 + (h + 1)) * 2 ^ (h + 1) + a / 2 ^ (h + 1) % 2 ^ (h + 1)) / b = q1 at *
      generalize (a / 2 ^ (h + 1 + (h + 1)) * 2 ^ (h + 1) + a / 2 ^ (h + 1) % 2 ^ (h + 1)) % b = r1 at *
      revert w A s Q E L'
      set_option tactic.hygienic false in intros
      as_aux_lemma =>
      iterate 21 walk1
      rw [and_mask]
      revert w A s Q E L'
      set_option tactic.hygienic false in intros
      as_aux_lemma =>
      iterate 9 walk1
      refine ⟨?XY1, ?_⟩
      case XY1 => exact X.keeps (Fr.keep (by assumption))
      rename Fr _ _ _ _ => F2
      refine ih' r1 (a % 2 ^ (h + 1)) b (b / 2 ^ (h + 1)) (b % 2 ^ (h + 1)) h _ _ _ _ _ _ _ _ _ _ _ _ rfl rfl rfl rfl rfl rfl (by omega) lo hi T4 G' F2 ?_
      intro h4 tk4 T2 tq2 tr2 k4 n4 g4
      have F4 := Fr.stay F2 k4
      have N4 : News s.heap L' h4 [(T2, _)] := fun p hp => by rw [List.mem_singleton.mp hp]; exact ⟨g4, Fr.neL F2 n4, Fr.noB F2 n4⟩
      clear F2 k4 T4
      rename News _ _ _ [(T1, _)] => N3
      clear N3
      generalize (r1 * 2 ^ (h + 1) + a % 2 ^ (h + 1)) / b = q2 at *
      generalize (r1 * 2 ^ (h + 1) + a % 2 ^ (h + 1)) % b = r2 at *
      revert w A s Q E L'
      set_option tactic.hygienic false in intros
      as_aux_lemma =>
      repeat walk1
      rw [← J4] at *
      refine' lshift_int ?hx1 ?sy1 ?_
      case hx1 => omega
      case sy1 => have := bits_le Q1; omega
      rw [Int.toNat_natCast]
      have eo : Builtin.bitOr ((q1 : Int) * 2 ^ (h + 1)) (q2 : Int) = ((q1 * 2 ^ (h + 1) + q2 : Nat) : Int) := by
        have e : (q1 : Int) * 2 ^ (h + 1) = ((q1 * 2 ^ (h + 1) : Nat) : Int) := by norm_cast
        rw [e, or_low _ _ _ J2]
      iterate 3 walk1
      rw [eo]
      rw [← J3]
      revert w A s Q E L'
      set_option tactic.hygienic false in intros
      as_aux_lemma =>
      repeat walk1
      rename Fr _ _ _ _ => F5
      rename News _ _ _ _ => N5
      have z := N5 _ (.head _)
      skip
      exact ret _ _ _ _ _ (Fr.keep F5) z.2.2 z.1

    · rw [ev]
      obtain ⟨h, eh⟩ : ∃ h, n + 1 + 1 = h + 1 + (h + 1) := ⟨(n + 1 + 1) / 2 - 1, by omega⟩
      have H := halved (a := a * 2) (b := b * 2) (h := h + 1) (by omega)
        (by rw [← eh, Nat.add_sub_cancel, Nat.pow_succ]; exact Nat.mul_le_mul_right _ hb1)
        (by rw [← eh, Nat.pow_succ]; exact Nat.mul_lt_mul_of_pos_right hb2 (by decide))
        (by rw [← eh, Nat.pow_succ, ← Nat.mul_assoc]; exact Nat.mul_lt_mul_of_pos_right (Nat.lt_of_lt_of_le hab (Nat.mul_le_mul_right _ (Nat.le_mul_of_pos_right _ (by decide)))) (by decide))
      obtain ⟨P1, P2⟩ := pad_div a b
      have e1 : ∀ x : Nat, (x : Int) * 2 ^ Int.toNat 1 = ((x * 2 : Nat) : Int) := fun x => by norm_cast
      have e2 : ((n + 1 : Nat) : Int) + 1 = ((h + 1 + (h + 1) : Nat) : Int) := by rw [← eh]; norm_cast
      revert w A s Q E L'
      set_option tactic.hygienic false in intros
      as_aux_lemma =>
      repeat walk1
      refine' ilshift_int ?ha2 ?sa2 ?_
      case ha2 => decide
      case sa2 => omega
      rw [e1]
      revert w A s Q E L'
      set_option tactic.hygienic false in intros
      as_aux_lemma =>
      repeat walk1
      refine' ilshift_int ?hb2 ?sb2 ?_
      case hb2 => decide
      case sb2 => omega
      rw [e1]
      revert w A s Q E L'
      set_option tactic.hygienic false in intros
      as_aux_lemma =>
      iterate 6 walk1
      rw [e2]
      revert w A s Q E L'
      set_option tactic.hygienic false in intros
      as_aux_lemma =>
      iterate 8 walk1

      rw [half_up]
      revert w A s Q E L'
      set_option tactic.hygienic false in intros
      as_aux_lemma =>
      iterate 7 walk1
      refine' lshift_int ?h02 ?sz2 ?_
      case h02 => omega
      case sz2 => have : Builtin.Int.intBits 1 = 1 := rfl; omega
      rw [Int.toNat_natCast]
      revert w A s Q E L'
      set_option tactic.hygienic false in intros
      as_aux_lemma =>
      iterate 11 walk1
      rw [shr_cast]
      revert w A s Q E L'
      set_option tactic.hygienic false in intros
      as_aux_lemma =>
      iterate 5 walk1
      rw [and_mask]
      iterate 2 walk1
      rename Fr _ _ _ _ => F2
      rename News _ _ _ _ => N2
      refine' unpackItemsN_ F2 N2 (News.isTup N2 (.head _)) ?k12 ?k22 ?_
      case k12 => exact hh
      case k22 => exact rfl
      intro h' F3 N3
      clear N2 F2 N3
      revert w A s Q E L'
      set_option tactic.hygienic false in intros
      as_aux_lemma =>
      iterate 18 walk1
      rw [shr_cast]
      revert w A s Q E L'
      set_option tactic.hygienic false in intros
      as_aux_lemma =>
      iterate 6 walk1
      rw [shr_cast]
      iterate 2 walk1
      rw [and_mask]
      revert w A s Q E L'
      set_option tactic.hygienic false in intros
      as_aux_lemma =>
      iterate 9 walk1
      refine ⟨?XX2, ?_⟩
      case XX2 => exact X.keeps (Fr.keep (by assumption))
      have T3 : Third (b * 2) (h + 1) ((b * 2) / 2 ^ (h + 1)) ((b * 2) % 2 ^ (h + 1)) ((a * 2) / 2 ^ (h + 1 + (h + 1))) ((a * 2) / 2 ^ (h + 1) % 2 ^ (h + 1)) := ⟨H.eb, H.l2, H.la, H.l3⟩
      have lo : 2 ^ h ≤ (b * 2) / 2 ^ (h + 1) := H.lo
      have hi := H.hi
      obtain ⟨J1, J2, J3, J4⟩ := halved_join H
      have Q1 := quot_lt H.la
      have l4 := H.l4
      clear H
      rename Fr _ _ _ _ => F2
      refine ih' ((a * 2) / 2 ^ (h + 1 + (h + 1))) ((a * 2) / 2 ^ (h + 1) % 2 ^ (h + 1)) (b * 2) ((b * 2) / 2 ^ (h + 1)) ((b * 2) % 2 ^ (h + 1)) h _ _ _ _ _ _ _ _ _ _ _ _ rfl rfl rfl rfl rfl rfl (by omega) lo hi T3 G' F2 ?_
      intro h3 tk3 T1 tq tr k3 n3 g3
      have F3 := Fr.stay F2 k3
      have N3 : News s.heap L' h3 [(T1, _)] := fun p hp => by rw [List.mem_singleton.mp hp]; exact ⟨g3, Fr.neL F2 n3, Fr.noB F2 n3⟩
      clear F2 k3
      have T4 : Third (b * 2) (h + 1) ((b * 2) / 2 ^ (h + 1)) ((b * 2) % 2 ^ (h + 1)) (((a * 2) / 2 ^ (h + 1 + (h + 1)) * 2 ^ (h + 1) + (a * 2) / 2 ^ (h + 1) % 2 ^ (h + 1)) % (b * 2)) ((a * 2) % 2 ^ (h + 1)) := ⟨T3.eb, T3.l2, J1, l4⟩
      clear T3 J1
      generalize ((a * 2) / 2 ^ (h + 1 + (h + 1)) * 2 ^ (h + 1) + (a * 2) / 2 ^ (h + 1) % 2 ^ (h + 1)) / (b * 2) = q1 at *
      generalize ((a * 2) / 2 ^ (h + 1 + (h + 1)) * 2 ^ (h + 1) + (a * 2) / 2 ^ (h + 1) % 2 ^ (h + 1)) % (b * 2) = r1 at *
      revert w A s Q E L'
      set_option tactic.hygienic false in intros
      as_aux_lemma =>
      iterate 21 walk1
      rw [and_mask]
      revert w A s Q E L'
      set_option tactic.hygienic false in intros
      as_aux_lemma =>
      iterate 9 walk1
      refine ⟨?XY2, ?_⟩
      case XY2 => exact X.keeps (Fr.keep (by assumption))
      rename Fr _ _ _ _ => F2
      refine ih' r1 ((a * 2) % 2 ^ (h + 1)) (b * 2) ((b * 2) / 2 ^ (h + 1)) ((b * 2) % 2 ^ (h + 1)) h _ _ _ _ _ _ _ _ _ _ _ _ rfl rfl rfl rfl rfl rfl (by omega) lo hi T4 G' F2 ?_
      intro h4 tk4 T2 tq2 tr2 k4 n4 g4
      have F4 := Fr.stay F2 k4
      have N4 : News s.heap L' h4 [(T2, _)] := fun p hp => by rw [List.mem_singleton.mp hp]; exact ⟨g4, Fr.neL F2 n4, Fr.noB F2 n4⟩
      clear F2 k4 T4
      rename News _ _ _ [(T1, _)] => N3
      clear N3
      generalize (r1 * 2 ^ (h + 1) + (a * 2) % 2 ^ (h + 1)) / (b * 2) = q2 at *
      generalize (r1 * 2 ^ (h + 1) + (a * 2) % 2 ^ (h + 1)) % (b * 2) = r2 at *
      revert w A s Q E L'
      set_option tactic.hygienic false in intros
      as_aux_lemma =>
      repeat walk1
      have er : ((r2 : Nat) : Int).fdiv (2 ^ Int.toNat 1) = ((a % b : Nat) : Int) := by
        have := shr_cast r2 1
        rw [show ((1 : Nat) : Int) = 1 from rfl] at this
        rw [this, ← J4, P2]; congr 1; omega
      refine' lshift_int ?hx2 ?sy2 ?_
      case hx2 => omega
      case sy2 => have := bits_le Q1; omega
      rw [Int.toNat_natCast]
      have eo : Builtin.bitOr ((q1 : Int) * 2 ^ (h + 1)) (q2 : Int) = ((q1 * 2 ^ (h + 1) + q2 : Nat) : Int) := by
        have e : (q1 : Int) * 2 ^ (h + 1) = ((q1 * 2 ^ (h + 1) : Nat) : Int) := by norm_cast
        rw [e, or_low _ _ _ J2]
      iterate 3 walk1
      rw [eo]
      rw [← J3, P1]
      revert w A s Q E L'
      set_option tactic.hygienic false in intros
      as_aux_lemma =>
      repeat walk1
      rename Fr _ _ _ _ => F5
      rename News _ _ _ _ => N5
      have z := N5 _ (.head _)
      rw [er] at z
      exact ret _ _ _ _ _ (Fr.keep F5) z.2.2 z.1
end Mine
end
end
section
open PySem PySem.W PyProof.Rows PySem.Calls PySem.Spec
set_option Elab.async false
set_option maxRecDepth 100000
noncomputable section
namespace Mine
/-- the division, for all sizes that this law meets -/
theorem div_spec {w : World} (k : Nat) : Div2 w 16000 (k + 5) :=
  have d1 : Div2 w 4000 (k + 1) := div2_of (M' := 4000) (by decide) (by decide) fun h => absurd h (by decide)
  have d2 : Div3 w 4000 (k + 2) := div3_of (by decide) d1
  have d3 : Div2 w 8000 (k + 3) := div2_of (by decide) (by decide) fun _ => d2
  have d4 : Div3 w 8000 (k + 4) := div3_of (by decide) d3
  div2_of (by decide) (by decide) fun _ => d4
end Mine
end
end
section
open PySem PySem.W PyProof.Rows PySem.Calls PySem.Spec
set_option Elab.async false
set_option maxRecDepth 100000
noncomputable section
namespace Mine
/-- an iterator stands there: no code, no tuple, no dict -/
noncomputable def NoCodeAt (h : Heap) (I : Addr) : Prop := ∃ o vs, h.get? I = some o ∧ o.data = .fields vs ∧ ∀ q t, vs[1]? ≠ some (.str q t)
/-- all stands but the iterator -/
noncomputable def Still (I : Addr) (h h' : Heap) : Prop := NoCodeAt h I ∧ ∀ b o, b ≠ I → h.get? b = some o → h'.get? b = some o
theorem tab_still {h h' : Heap} {I P : Addr} {l c : Nat} {q : Str} (hP : @Ne Nat P I) (x : Tab h P l c q) (k : Still I h h') : Tab h' P l c q := by
  obtain ⟨ps, hp, hc⟩ := x
  refine ⟨ps, k.2 _ _ hP hp, hc.imp id fun ⟨c', e, y⟩ => ⟨c', e, ?_⟩⟩
  obtain ⟨c, o, vs, t, e1, g, hd, hv⟩ := y
  refine ⟨c, o, vs, t, e1, k.2 _ _ (fun z => ?_) g, hd, hv⟩
  obtain ⟨o', vs', e', hd', hn⟩ := k.1
  rw [z, e'] at g; cases g
  rw [hd'] at hd; cases hd
  exact hn _ _ hv
theorem Still.other {h h' : Heap} {I b : Addr} {o : Obj} (k : Still I h h') (e : h.get? b = some o) (hn : ∀ vs, o.data ≠ .fields vs) : h'.get? b = some o := by
  refine k.2 _ _ (fun z => ?_) e
  obtain ⟨o', vs', e', hd', _⟩ := k.1
  rw [z, e'] at e; cases e
  exact hn _ hd'
inductive TurnEndG (h₀ : Heap) (L I : Addr) (oI : Obj) (J : Heap → (Str → Option Value) → List (Addr × Obj) → Prop) (s₁ s₂ : Shared) : Prop
  | mk (h' : Heap) (tk : Nat) (g : Array GenState) (m' : Str → Option Value) (nx : List (Addr × Obj)) (e : s₂ = { s₁ with heap := h', toks := tk, gens := g }) (hg : AllBare g) (F : Fr h₀ L h' m') (N : News h₀ L h' (nx ++ [(I, oI)])) (hn : ∀ p ∈ nx, @Ne Nat p.1 I) (hJ : J h' m' nx) : TurnEndG h₀ L I oI J s₁ s₂
/-- what holds before turn i of such a loop -/
inductive AtG (h₀ : Heap) (L I : Addr) (n : Nat) (St : Nat → Heap → Prop) (J : Nat → Heap → (Str → Option Value) → List (Addr × Obj) → Prop) (s : Shared) (k : Nat) (s' : Shared) : Prop
  | mk (h : Heap) (tk : Nat) (g : Array GenState) (m : Str → Option Value) (nx : List (Addr × Obj)) (i : Nat) (e : s' = { s with heap := h, toks := tk, gens := g }) (hg : AllBare g) (hst : St i h) (F : Fr h₀ L h m) (N : News h₀ L h nx) (hn : ∀ p ∈ nx, @Ne Nat p.1 I) (hj : J i h m nx) (hi : i ≤ n) (hk : k = n + 1 - i) : AtG h₀ L I n St J s k s'
noncomputable def TurnPostG (h₀ : Heap) (L I : Addr) (oI : Obj) (J : Heap → (Str → Option Value) → List (Addr × Obj) → Prop) (s₁ : Shared) (Q : Flow → Shared → Prop) (f : Flow) (s₂ : Shared) : Prop :=
  match f with
  | .ret v => Q (.ret v) s₂
  | .brk => Q .next s₂
  | _ => TurnEndG h₀ L I oI J s₁ s₂
theorem turn_endG {h₀ h' : Heap} {L I : Addr} {oI : Obj} {J : Heap → (Str → Option Value) → List (Addr × Obj) → Prop} {s₁ : Shared} {tk : Nat} {g : Array GenState} {m' : Str → Option Value} {nx : List (Addr × Obj)}
    (hg : AllBare g) (F : Fr h₀ L h' m') (N : News h₀ L h' (nx ++ [(I, oI)])) (hn : ∀ p ∈ nx, @Ne Nat p.1 I) (hJ : J h' m' nx) : TurnEndG h₀ L I oI J s₁ { s₁ with heap := h', toks := tk, gens := g } :=
  ⟨h', tk, g, m', nx, rfl, hg, F, N, hn, hJ⟩
noncomputable def LoopAtG (prog : Program) (w : World) (A : Around) (env : Env) (target : Expr) (body : List Stmt) (Q : Flow → Shared → Prop) (E : Value → Shared → Prop) (it : Value) (s₂ : Shared) : Prop :=
  codeAny (model prog w) A (.forLoop target it body [] env) (fun r s' => match r with | .ok f => Q f s' | .error e => cameBackBy (model prog w) A env E e s') s₂
section
variable {prog : Program} {w : World} {A : Around} {E : Value → Shared → Prop} {s : Shared} {env : Env} {h₀ : Heap} {target : Expr} {body : List Stmt} {Q : Flow → Shared → Prop}
theorem For_G {iter : Expr} {pos : Pos} (h : wpAny (model prog w) A (eval iter env) (fun xv s₁ => wpAny (model prog w) A (pyIter xv) (fun it s₂ => LoopAtG prog w A env target body Q E it s₂) E s₁) E s)
    (hs : ∀ x, foldedSetIterable iter env x = pure x := by intro _; rfl) : wpAny (model prog w) A (exec (.For target iter body [] pos) env) Q E s :=
  wpAny_For h hs
/-- a loop whose iterator walks over something of the base; its turns may make generators -/
theorem turnsG {fp : List Addr} {n : Nat} {P Md : Nat → Value → Heap → Prop} {St : Nat → Heap → Prop} {o₂ : Obj} {m₀ : Str → Option Value} {news : List (Addr × Obj)} {s₂ : Shared} (h2 : s₂ = { s with heap := s.heap.push o₂ }) (hE : PassesOwn (model prog w) A env E)
    (T : KTurns prog w A target s.heap.objs.size fp [s.heap.objs.size] n P Md St) (hfp : ∀ b ∈ fp, b = s.heap.objs.size ∨ (h₀.get? b).isSome) (hI : s.heap.objs.size ∈ fp) (hSt : ∀ i h, St i h → ∃ o, h.get? s.heap.objs.size = some o)
    (hSc : ∀ i h, St i h → NoCodeAt h s.heap.objs.size) (hMc : ∀ i v h, Md i v h → NoCodeAt h s.heap.objs.size)
    (hG : AllBare s.gens) (st0 : St 0 s₂.heap) (F : Fr h₀ env.locals s.heap m₀) (N : News h₀ env.locals s.heap news) (J : Nat → Heap → (Str → Option Value) → List (Addr × Obj) → Prop) (h0 : J 0 s₂.heap m₀ news)
    (hJ : ∀ i h h' m nx, J i h m nx → Still s.heap.objs.size h h' → J i h' m nx)
    (turn : ∀ i v m₁ nx h tk g I oI, i < n → P i v h → AllBare g → @LT.lt Nat _ env.locals I → (∀ p ∈ nx, @Ne Nat p.1 I) → J i h m₁ nx → Fr h₀ env.locals h m₁ → News h₀ env.locals h (nx ++ [(I, oI)]) →
      wpAny (model prog w) A (assign target env v) (fun _ s₃ => wpAny (model prog w) A (execs body env) (TurnPostG h₀ env.locals I oI (J (i + 1)) { s with heap := h, toks := tk, gens := g } Q) E s₃) E { s with heap := h, toks := tk, gens := g })
    (done : ∀ m₁ nx h tk g, AllBare g → J n h m₁ nx → Fr h₀ env.locals h m₁ → News h₀ env.locals h nx → Q .next { s with heap := h, toks := tk, gens := g }) :
    LoopAtG prog w A env target body Q E (.ref s.heap.objs.size) s₂ := by
  subst h2
  generalize hII : s.heap.objs.size = I at *
  have hIL : @Ne Nat env.locals I := fun e => absurd F.ns.lt (by rw [hII, e]; exact Nat.lt_irrefl _)
  have hLI : @LT.lt Nat _ env.locals I := by have := F.ns.lt; rw [hII] at this; exact this
  have hIB : h₀.get? I = none := hII ▸ next_is_new F
  refine codeAny_forLoop_any (AtG h₀ env.locals I n St J s) ?_ (n + 1)
    ⟨_, s.toks, s.gens, m₀, news, 0, rfl, hG, st0, F.push _, fun p hp => ⟨Heap.get?_push_of_some _ (N p hp).1, (N p hp).2⟩, fun p hp e => absurd (Heap.lt_size (N p hp).1) (by rw [hII, e]; exact Nat.lt_irrefl _), h0, Nat.zero_le _, rfl⟩
  rintro k s' ⟨h, tk, g, m, nx, i, rfl, hg, hst, F', N', hn, hj, hi, rfl⟩
  have move : ∀ h₁ : Heap, (∀ b o, b ∉ [I] → h.get? b = some o → h₁.get? b = some o) → Fr h₀ env.locals h₁ m ∧ News h₀ env.locals h₁ nx := fun h₁ k₁ =>
    ⟨⟨F'.ns.at' fun o e => k₁ _ o (fun q => hIL (List.mem_singleton.mp q)) e, fun b o e => k₁ b o (fun q => by rw [List.mem_singleton.mp q, hIB] at e; cases e) (F'.keep b o e), F'.above⟩,
      fun p hp => ⟨k₁ _ _ (fun q => hn p hp (List.mem_singleton.mp q)) (N' p hp).1, (N' p hp).2⟩⟩
  by_cases hlt : i < n
  · refine T.item i _ _ _ hlt hst fun v h₁ tk₁ hMd k₁ => ?_
    refine T.go i v _ _ _ hMd fun h₂ hP st₂ k₂ => ?_
    obtain ⟨F₂, N₂⟩ := move h₂ fun b o hb x => k₂ b o hb (k₁ b o hb x)
    obtain ⟨oI, hoI⟩ := hSt _ _ st₂
    have N₃ : News h₀ env.locals h₂ (nx ++ [(I, oI)]) := fun p hp => by
      rcases List.mem_append.mp hp with hp | hp
      · exact N₂ p hp
      · rw [List.mem_singleton.mp hp]; exact ⟨hoI, fun e => hIL e.symm, hIB⟩
    have j₁ := hJ i _ _ _ _ hj ⟨hSc _ _ hst, fun b o hb e => k₁ b o (fun q => hb (List.mem_singleton.mp q)) e⟩
    have j₂ := hJ i _ _ _ _ j₁ ⟨hMc _ _ _ hMd, fun b o hb e => k₂ b o (fun q => hb (List.mem_singleton.mp q)) e⟩
    refine wpAny_mono (turn i v m nx h₂ tk₁ g I oI hlt hP hg hLI hn j₂ F₂ N₃) (fun _ s₃ x => wpAny_passesOwn hE (wpAny_mono x (fun f s₄ y => ?_) fun _ _ e => e)) hE
    have fin : TurnEndG h₀ env.locals I oI (J (i + 1)) { s with heap := h₂, toks := tk₁, gens := g } s₄ → ∃ m, m < n + 1 - i ∧ AtG h₀ env.locals I n St J s m s₄ := by
      rintro ⟨h', tk', g', m', nx', rfl, hg', F4, N4, hn4, j4⟩
      refine ⟨n + 1 - (i + 1), by omega, h', tk', g', m', nx', i + 1, rfl, hg', ?_, F4, fun p hp => N4 p (List.mem_append_left _ hp), hn4, j4, hlt, rfl⟩
      refine T.frame _ _ _ st₂ fun b hb o e => ?_
      rcases hfp b hb with rfl | hs
      · have := (N4 (b, oI) (List.mem_append_right _ (.head _))).1
        rw [hoI] at e; cases e; exact this
      · obtain ⟨o', ho'⟩ := Option.isSome_iff_exists.mp hs
        have := F₂.keep _ _ ho'
        rw [this] at e; cases e
        exact F4.keep _ _ ho'
    cases f with
    | ret v => exact y
    | brk => exact y
    | cont => exact fin y
    | next => exact fin y
  · have hin : i = n := by omega
    subst hin
    refine T.done _ _ _ hst fun h₁ tk₁ k₁ => wpAny_execs_nil ?_
    obtain ⟨F₁, N₁⟩ := move h₁ k₁
    exact done m nx h₁ tk₁ g hg (hJ i _ _ _ _ hj ⟨hSc _ _ hst, fun b o hb e => k₁ b o (fun q => hb (List.mem_singleton.mp q)) e⟩) F₁ N₁
theorem noCode_of {h : Heap} {I : Addr} {o : Obj} (e : h.get? I = some o) (hn : ∃ vs, o.data = .fields vs ∧ ∀ q t, vs[1]? ≠ some (.str q t)) : NoCodeAt h I := let ⟨vs, x⟩ := hn; ⟨o, vs, e, x⟩
theorem noCode_fields {h : Heap} {I : Addr} {ty : String} {vs : Array Value} (e : ∃ o, h.get? I = some o ∧ o.cls = .type ty ∧ o.data = .fields vs) (hn : ∀ q t, vs[1]? ≠ some (.str q t)) : NoCodeAt h I := by
  obtain ⟨o, e, _, hd⟩ := e
  exact ⟨o, vs, e, hd, hn⟩
variable {K : Type} [DecidableEq K] {knd : KeyKind prog w K} {kvs : List (K × Value)} {d vw : Addr} {m₀ : Str → Option Value} {news : List (Addr × Obj)}
theorem valuesG (hh : A.handled = none) (hE : PassesOwn (model prog w) A env E) (hG : AllBare s.gens) (F : Fr h₀ env.locals s.heap m₀) (N : News h₀ env.locals s.heap news) (hv : s.heap.IsValuesView vw d) (hd : h₀.DictOf knd d kvs)
    (J : Nat → Heap → (Str → Option Value) → List (Addr × Obj) → Prop) (h0 : ∀ o, J 0 (s.heap.push o) m₀ news) (hJ : ∀ i h h' m nx, J i h m nx → Still s.heap.objs.size h h' → J i h' m nx)
    (turn : ∀ i k v m₁ nx h tk g I oI, kvs[i]? = some (k, v) → AllBare g → @LT.lt Nat _ env.locals I → (∀ p ∈ nx, @Ne Nat p.1 I) → J i h m₁ nx → Fr h₀ env.locals h m₁ → News h₀ env.locals h (nx ++ [(I, oI)]) →
      wpAny (model prog w) A (assign target env v) (fun _ s₃ => wpAny (model prog w) A (execs body env) (TurnPostG h₀ env.locals I oI (J (i + 1)) { s with heap := h, toks := tk, gens := g } Q) E s₃) E { s with heap := h, toks := tk, gens := g })
    (done : ∀ m₁ nx h tk g, AllBare g → J kvs.length h m₁ nx → Fr h₀ env.locals h m₁ → News h₀ env.locals h nx → Q .next { s with heap := h, toks := tk, gens := g }) :
    wpAny (model prog w) A (pyIter (.ref vw)) (fun it s₂ => LoopAtG prog w A env target body Q E it s₂) E s := by
  have hd' : s.heap.DictOf knd d kvs := hd.at fun o e => F.keep _ _ e
  obtain ⟨ep, hat⟩ := hd'.dictAt
  obtain ⟨_, _, _, hd0, _⟩ := hd
  have hne : d ≠ s.heap.objs.size := Nat.ne_of_lt hat.lt_size
  refine wpAny_pyIter_values hv hat ?_
  refine turnsG rfl hE (KTurns.ofWalks (Walks.dictValues (knd := knd) hh s.heap.objs.size d hne kvs ep) fun i v s Q E st q => letGo_valiter st.1 q) ?_ (.head _) ?_ ?_ ?_ hG ⟨⟨_, Heap.get?_push_size _ rfl, rfl, rfl⟩, hat.push _⟩ F N J (h0 _) hJ ?_ done
  · intro b hb
    rcases List.mem_cons.mp hb with e | hb
    · exact .inl e
    · rw [List.mem_singleton.mp hb, hd0]; exact .inr rfl
  · rintro i h ⟨⟨o, e, _⟩, _⟩; exact ⟨o, e⟩
  · rintro i h ⟨x, _⟩; exact noCode_fields x (by simp)
  · rintro i v h ⟨_, x, _⟩; exact noCode_fields x (by simp)
  · rintro i v m₁ nx h tk g I oI hi ⟨k, hk⟩ hg hLI hn hJ F' N'
    exact turn i k v m₁ nx h tk g I oI hk hg hLI hn hJ F' N'
theorem itemsG {elts : List Expr} {kk : Nat} {pos : Pos} (hh : A.handled = none) (hE : PassesOwn (model prog w) A env E) (hG : AllBare s.gens) (F : Fr h₀ env.locals s.heap m₀) (N : News h₀ env.locals s.heap news) (hv : s.heap.IsItemsView vw d) (hd : h₀.DictOf knd d kvs)
    (J : Nat → Heap → (Str → Option Value) → List (Addr × Obj) → Prop) (h0 : ∀ o, J 0 (s.heap.push o) m₀ news) (hJ : ∀ i h h' m nx, J i h m nx → Still s.heap.objs.size h h' → J i h' m nx)
    (turn : ∀ i k key v T m₁ nx h tk g I oI, kvs[i]? = some (k, v) → knd.is k key = true → h.IsTuple T #[key, v] → AllBare g → @LT.lt Nat _ env.locals I → (∀ p ∈ nx, @Ne Nat p.1 I) → J i h m₁ nx → Fr h₀ env.locals h m₁ → News h₀ env.locals h (nx ++ [(I, oI)]) →
      wpAny (model prog w) A (assign (.Tuple elts kk pos) env (.ref T)) (fun _ s₃ => wpAny (model prog w) A (execs body env) (TurnPostG h₀ env.locals I oI (J (i + 1)) { s with heap := h, toks := tk, gens := g } Q) E s₃) E { s with heap := h, toks := tk, gens := g })
    (done : ∀ m₁ nx h tk g, AllBare g → J kvs.length h m₁ nx → Fr h₀ env.locals h m₁ → News h₀ env.locals h nx → Q .next { s with heap := h, toks := tk, gens := g }) :
    wpAny (model prog w) A (pyIter (.ref vw)) (fun it s₂ => LoopAtG prog w A env (.Tuple elts kk pos) body Q E it s₂) E s := by
  have hd' : s.heap.DictOf knd d kvs := hd.at fun o e => F.keep _ _ e
  obtain ⟨ep, hat⟩ := hd'.dictAt
  obtain ⟨_, _, _, hd0, _⟩ := hd
  have hne : d ≠ s.heap.objs.size := Nat.ne_of_lt hat.lt_size
  refine wpAny_pyIter_items hv hat ?_
  refine turnsG rfl hE (kti_itemsTurns (knd := knd) hh s.heap.objs.size d hne kvs ep) ?_ (.head _) ?_ ?_ ?_ hG ⟨⟨_, _, Heap.get?_push_size _ rfl⟩, hat.push _⟩ F N J (h0 _) hJ ?_ done
  · intro b hb
    rcases List.mem_cons.mp hb with e | hb
    · exact .inl e
    · rw [List.mem_singleton.mp hb, hd0]; exact .inr rfl
  · rintro i h ⟨⟨ok, ov, he⟩, _⟩; exact ⟨_, he⟩
  · rintro i h ⟨⟨ok, ov, he⟩, _⟩; exact noCode_fields ⟨_, he, rfl, rfl⟩ (by simp)
  · rintro i v h ⟨_, _, _, _, _, _, _, _, _, _, he, _⟩; exact noCode_fields ⟨_, he, rfl, rfl⟩ (by simp)
  · rintro i v m₁ nx h tk g I oI hi ⟨T, key, k, x, rfl, hx, hk, hT⟩ hg hLI hn hJ F' N'
    exact turn i k key x T m₁ nx h tk g I oI hx hk hT hg hLI hn hJ F' N'
theorem strG {x : Str} {px : Pos} {l : List Nat} {t₀ : Tok} (hh : A.handled = none) (hE : PassesOwn (model prog w) A env E) (hG : AllBare s.gens) (F : Fr h₀ env.locals s.heap m₀) (N : News h₀ env.locals s.heap news)
    (J : Nat → Heap → (Str → Option Value) → List (Addr × Obj) → Prop) (h0 : ∀ o, J 0 (s.heap.push o) m₀ news) (hJ : ∀ i h h' m nx, J i h m nx → Still s.heap.objs.size h h' → J i h' m nx)
    (turn : ∀ i c t m₁ nx h tk g I oI, l[i]? = some c → AllBare g → @LT.lt Nat _ env.locals I → (∀ p ∈ nx, @Ne Nat p.1 I) → J i h m₁ nx → Fr h₀ env.locals h m₁ → News h₀ env.locals h (nx ++ [(I, oI)]) →
      wpAny (model prog w) A (assign (.Name x px) env (.str (ST [c]) t)) (fun _ s₃ => wpAny (model prog w) A (execs body env) (TurnPostG h₀ env.locals I oI (J (i + 1)) { s with heap := h, toks := tk, gens := g } Q) E s₃) E { s with heap := h, toks := tk, gens := g })
    (done : ∀ m₁ nx h tk g, AllBare g → J l.length h m₁ nx → Fr h₀ env.locals h m₁ → News h₀ env.locals h nx → Q .next { s with heap := h, toks := tk, gens := g }) :
    wpAny (model prog w) A (pyIter (.str (ST l) t₀)) (fun it s₂ => LoopAtG prog w A env (.Name x px) body Q E it s₂) E s := by
  have e : (ST l).cps.size = l.length := by simp [ST]
  have fin : ∀ {St : Nat → Heap → Prop} {o₂ : Obj}, Walks prog w A s.heap.objs.size [s.heap.objs.size] [s.heap.objs.size] (ST l).cps.size (SignAt (ST l)) St → (∀ i h, St i h → ∃ ty t', h.IsStrIter s.heap.objs.size ty (ST l) t' i) → St 0 (s.heap.push o₂) →
      LoopAtG prog w A env (.Name x px) body Q E (.ref s.heap.objs.size) { s with heap := s.heap.push o₂ } := by
    intro St o₂ W hI hst
    have hc : ∀ i h, St i h → NoCodeAt h s.heap.objs.size := fun i h st => by
      obtain ⟨ty, t', y⟩ := hI i h st
      exact noCode_fields y (by simp)
    refine turnsG rfl hE (KTurns.ofWalks W fun i v s Q E _ q => letGo_name q) (fun b hb => .inl (List.mem_singleton.mp hb)) (.head _) (fun i h st => by obtain ⟨_, _, o, e, _⟩ := hI i h st; exact ⟨o, e⟩) hc (fun i v h y => hc _ _ y.2) hG hst F N J (h0 _) hJ ?_ (by rw [e]; exact done)
    rintro i v m₁ nx h tk g I oI hi ⟨c, u, hc, rfl⟩ hg hLI hn hJ F' N'
    exact turn i c u m₁ nx h tk g I oI (by simpa [ST] using hc) hg hLI hn hJ F' N'
  cases ha : (ST l).cps.all (· < 128)
  · exact wpAny_pyIter_wide ha (fin (Walks.strWide hh _ _ _) (fun i h st => ⟨_, _, st⟩) ⟨_, Heap.get?_push_size _ rfl, rfl, rfl⟩)
  · exact wpAny_pyIter_ascii ha (fin (Walks.strAscii hh _ _ _) (fun i h st => ⟨_, _, st⟩) ⟨_, Heap.get?_push_size _ rfl, rfl, rfl⟩)
end
end Mine
end
end
section
open PySem PySem.W PyProof.Rows PySem.Calls PySem.Spec
set_option Elab.async false
set_option maxRecDepth 100000
noncomputable section
namespace Mine
theorem tupIter_at {h h' : Heap} {a t : Addr} {i : Nat} (x : h.IsTupleIter a t i) (k : ∀ o, h.get? a = some o → h'.get? a = some o) : h'.IsTupleIter a t i := let ⟨o, e, r⟩ := x; ⟨o, k o e, r⟩
theorem tuple_at {h h' : Heap} {a : Addr} {xs : Array Value} (x : h.IsTuple a xs) (k : ∀ o, h.get? a = some o → h'.get? a = some o) : h'.IsTuple a xs := let ⟨o, e, r⟩ := x; ⟨o, k o e, r⟩
section
variable {prog : Program} {w : World} {A : Around} {E : Value → Shared → Prop} {s : Shared}
/-- a tuple iterator, asked once: an item -/
theorem nextOf_tup {it l : Addr} {i : Nat} {items : Array Value} {x : Value} {Q : Value → Shared → Prop} (hit : s.heap.IsTupleIter it l i) (hl : s.heap.IsTuple l items) (hx : items[i]? = some x)
    (hQ : ∀ h', h'.IsTupleIter it l (i + 1) → Heap.SameBut it s.heap h' → Q x { s with heap := h' }) : wpAny (model prog w) A (Builtin.SmallTypes.nextOf (.ref it)) Q E s := by
  obtain ⟨o, ho, hc, hd⟩ := id hit
  obtain ⟨ol, hol, _, nl, hdl⟩ := hl
  unfold Builtin.SmallTypes.nextOf
  refine wpAny_bind (wpAny_callSpecial?_slot (name := Str.ofString "__next__") hit.typeIs F.slot_tuple_iterator_next (wpAny_call_entry F.slot_tuple_iterator_next hit.typeIs F.entry_tuple_iterator_next ?_ (F.args_tuple_iterator_next_1 _)))
  show wpAny _ _ (field (.ref it) 0 >>= _) _ _ s
  refine wpAny_bind (wpAny_field ho hd (x := .ref l) rfl ?_)
  show wpAny _ _ (if (Value.ref l == Value.none) = true then _ else _) _ _ s
  rw [if_neg (show ¬ ((Value.ref l == Value.none) = true) from Bool.false_ne_true)]
  show wpAny _ _ (field (.ref it) 1 >>= _) _ _ s
  refine wpAny_bind (wpAny_field ho hd (x := .int i 0) rfl ?_)
  show wpAny _ _ (seqItems? (.ref l) >>= _) _ _ s
  refine wpAny_bind (wpAny_seqItems hol hdl ?_)
  simp only [Int.toNat_natCast, hx]
  refine wpAny_bind (wpAny_setField ho hd (by simp) (wpAny_pure ⟨x, rfl, wpAny_pure (hQ _ ⟨_, Heap.get?_update_self _ ho (Obj.isFreed_of_fields (Obj.data_mapFields hd _)), (Obj.cls_mapFields ..).trans hc, ?_⟩ (Heap.SameBut.update ..))⟩))
  rw [Obj.data_mapFields hd]; simp [rawInt]
/-- ... and the end -/
theorem nextOf_tup_end {it l : Addr} {i : Nat} {items : Array Value} {Q : Value → Shared → Prop} (hh : A.handled = none) (hit : s.heap.IsTupleIter it l i) (hl : s.heap.IsTuple l items) (hx : items[i]? = none)
    (hE : ∀ h' e, Heap.ExtBut it s.heap h' → (∃ o, h'.get? e = some o ∧ o.cls = .type "StopIteration") → E (.ref e) { s with heap := h' }) : wpAny (model prog w) A (Builtin.SmallTypes.nextOf (.ref it)) Q E s := by
  obtain ⟨o, ho, hc, hd⟩ := id hit
  obtain ⟨ol, hol, _, nl, hdl⟩ := hl
  unfold Builtin.SmallTypes.nextOf
  refine wpAny_bind (wpAny_callSpecial?_slot (name := Str.ofString "__next__") hit.typeIs F.slot_tuple_iterator_next (wpAny_call_entry F.slot_tuple_iterator_next hit.typeIs F.entry_tuple_iterator_next ?_ (F.args_tuple_iterator_next_1 _)))
  show wpAny _ _ (field (.ref it) 0 >>= _) _ _ s
  refine wpAny_bind (wpAny_field ho hd (x := .ref l) rfl ?_)
  show wpAny _ _ (if (Value.ref l == Value.none) = true then _ else _) _ _ s
  rw [if_neg (show ¬ ((Value.ref l == Value.none) = true) from Bool.false_ne_true)]
  show wpAny _ _ (field (.ref it) 1 >>= _) _ _ s
  refine wpAny_bind (wpAny_field ho hd (x := .int i 0) rfl ?_)
  show wpAny _ _ (seqItems? (.ref l) >>= _) _ _ s
  refine wpAny_bind (wpAny_seqItems hol hdl ?_)
  simp only [Int.toNat_natCast, hx]
  refine wpAny_bind (wpAny_rule (wpAny_bind (wpAny_setField ho hd (by simp) ?_)))
  show wpAny _ _ (newExc (.type "StopIteration") [] >>= _) _ _ _
  refine wpAny_bind ?_
  simp only [newExc, newTuple]
  refine wpAny_bind (wpAny_newObj_type ?_ (by size_fits))
  refine wpAny_bind (m := firstArgMember _ _) (wpAny_of_eq (a := Value.none) (by first | rfl | (simp only [firstArgMember]; rfl)) ?_)
  refine wpAny_newObj_type ?_ (by size_fits)
  simp only [raiseNew]
  refine wpAny_bind (wpAny_handled ?_)
  first | rw [show A.in1.handled = none from hh] | rw [hh]
  exact wpAny_bind (wpAny_pure (wpAny_throw (hE _ _ (((Heap.SameBut.update ..).extBut.push _).push _) ⟨_, Heap.get?_push_size _ rfl, rfl⟩)))
/-- a zip of two tuples, at its i-th step -/
structure ZT (h : Heap) (z TI TO i1 i2 l1 l2 : Addr) (xs ys : Array Value) (i : Nat) (f0 : Value) : Prop where
  z : IsZip h z TI TO f0
  ti : IsPair h TI (.ref i1) (.ref i2)
  to : ∃ a b, IsPair h TO a b
  h1 : h.IsTupleIter i1 l1 i
  h2 : h.IsTupleIter i2 l2 i
  l1 : h.IsTuple l1 xs
  l2 : h.IsTuple l2 ys
theorem ZT.keep {h h' : Heap} {z TI TO i1 i2 l1 l2 : Addr} {xs ys : Array Value} {i : Nat} {f0 : Value} (Z : ZT h z TI TO i1 i2 l1 l2 xs ys i f0)
    (k : ∀ c ∈ [z, TI, TO, i1, i2, l1, l2], ∀ o, h.get? c = some o → h'.get? c = some o) : ZT h' z TI TO i1 i2 l1 l2 xs ys i f0 :=
  ⟨k z (by simp) _ Z.z, k TI (by simp) _ Z.ti, let ⟨a, b, e⟩ := Z.to; ⟨a, b, k TO (by simp) _ e⟩, tupIter_at Z.h1 (k i1 (by simp)), tupIter_at Z.h2 (k i2 (by simp)), tuple_at Z.l1 (k l1 (by simp)), tuple_at Z.l2 (k l2 (by simp))⟩
/-- the zip's own slot set -/
theorem ZT.slot {h h' : Heap} {z TI TO i1 i2 l1 l2 : Addr} {xs ys : Array Value} {i : Nat} {f0 f1 : Value} (D : ZipApart z TI TO i1 i2 l1 l2) (Z : ZT h z TI TO i1 i2 l1 l2 xs ys i f0)
    (hz : IsZip h' z TI TO f1) (k : ∀ c o, c ≠ z → h.get? c = some o → h'.get? c = some o) : ZT h' z TI TO i1 i2 l1 l2 xs ys i f1 :=
  ⟨hz, k _ _ D.TIz Z.ti, let ⟨a, b, e⟩ := Z.to; ⟨a, b, k _ _ D.TOz e⟩, tupIter_at Z.h1 fun o => k _ o D.i1z, tupIter_at Z.h2 fun o => k _ o D.i2z, tuple_at Z.l1 fun o => k _ o D.l1z, tuple_at Z.l2 fun o => k _ o D.l2z⟩
theorem zt_item {z TI TO i1 i2 l1 l2 : Addr} {i : Nat} {xs ys : Array Value} {x y : Value} {Q : Value → Shared → Prop} (D : ZipApart z TI TO i1 i2 l1 l2) (Z : ZT s.heap z TI TO i1 i2 l1 l2 xs ys i .none) (hx : xs[i]? = some x) (hy : ys[i]? = some y)
    (hQ : ∀ h', ZT h' z TI TO i1 i2 l1 l2 xs ys (i + 1) (rawInt s.heap.objs.size) → IsPair h' s.heap.objs.size x y →
      (∀ c o, c ≠ z → c ≠ TO → c ≠ i1 → c ≠ i2 → s.heap.get? c = some o → h'.get? c = some o) → Q (.ref s.heap.objs.size) { s with heap := h' }) :
    wpAny (model prog w) A (Builtin.«zip.__next__» ⟨[.ref z], []⟩) (fun fin s' => ∃ v, fin = .done (.ret v) ∧ Q v s') E s := by
  obtain ⟨a, b, hTO⟩ := Z.to
  show wpAny _ _ (field (.ref z) 2 >>= _) _ _ _
  refine wpAny_bind (wpAny_field Z.z rfl (x := .bool false) rfl ?_)
  show wpAny _ _ (field (.ref z) 3 >>= _) _ _ _
  refine wpAny_bind (wpAny_field Z.z rfl (x := .ref TI) rfl ?_)
  refine wpAny_bind (wpAny_seqItems Z.ti rfl ?_)
  show wpAny _ _ (Builtin.SmallTypes.ownedTupleIsFree (.ref z) >>= _) _ _ _
  refine wpAny_bind ?_
  unfold Builtin.SmallTypes.ownedTupleIsFree
  refine wpAny_bind (wpAny_field Z.z rfl (x := .none) rfl (wpAny_pure ?_))
  simp only [if_true]
  refine wpAny_bind (wpAny_rule ?_)
  refine wpAny_bind (wpAny_field Z.z rfl (x := .ref TO) rfl ?_)
  refine wpAny_bind (wpAny_setField_rec Z.z (by simp) fun h₁ hz₁ s₁ => ?_)
  have Z₁ : ZT h₁ z TI TO i1 i2 l1 l2 xs ys i .ellipsis := Z.slot D hz₁ fun c o hc e => s₁.extBut c o hc e
  have hTO₁ : IsPair h₁ TO a b := s₁.extBut _ _ D.TOz hTO
  refine wpAny_bind ?_
  simp only [List.zipIdx_cons, List.zipIdx_nil, List.forIn_cons, List.forIn_nil]
  refine wpAny_bind (wpAny_bind (wpAny_onRaise ?_))
  show wpAny _ _ (Builtin.SmallTypes.nextOf (.ref i1) >>= _) _ _ _
  refine wpAny_bind (nextOf_tup Z₁.h1 Z₁.l1 hx fun h₂ i1₂ s₂ => wpAny_pure ?_)
  have hTO₂ : IsPair h₂ TO a b := s₂.extBut _ _ D.TOi1 hTO₁
  refine wpAny_bind (wpAny_seqItems hTO₂ rfl ?_)
  refine wpAny_bind (wpAny_updateSeq_pair hTO₂ fun h₃ hTO₃ s₃ => ?_)
  replace hTO₃ : IsPair h₃ TO x b := hTO₃
  refine wpAny_bind (wpAny_letGo (wpAny_pure ?_))
  refine wpAny_bind (wpAny_bind (wpAny_onRaise ?_))
  have up₃ : ∀ c o, c ≠ i1 → c ≠ TO → h₁.get? c = some o → h₃.get? c = some o := fun c o c1 c2 e => s₃.extBut _ _ c2 (s₂.extBut _ _ c1 e)
  show wpAny _ _ (Builtin.SmallTypes.nextOf (.ref i2) >>= _) _ _ _
  refine wpAny_bind (nextOf_tup (tupIter_at Z₁.h2 fun o => up₃ _ o D.i12.symm D.TOi2.symm) (tuple_at Z₁.l2 fun o => up₃ _ o D.l2i1 D.l2TO) hy fun h₄ i2₄ s₄ => wpAny_pure ?_)
  have hTO₄ : IsPair h₄ TO x b := s₄.extBut _ _ D.TOi2 hTO₃
  refine wpAny_bind (wpAny_seqItems hTO₄ rfl ?_)
  refine wpAny_bind (wpAny_updateSeq_pair hTO₄ fun h₅ hTO₅ s₅ => ?_)
  replace hTO₅ : IsPair h₅ TO x y := hTO₅
  refine wpAny_bind (wpAny_letGo (wpAny_pure (wpAny_pure ?_)))
  refine wpAny_bind (wpAny_seqItems hTO₅ rfl ?_)
  refine wpAny_bind (wpAny_newTuple ?_)
  have up₅ : ∀ c o, c ≠ i1 → c ≠ TO → c ≠ i2 → h₁.get? c = some o → h₅.get? c = some o := fun c o c1 c2 c3 e => s₅.extBut _ _ c2 (s₄.extBut _ _ c3 (up₃ c o c1 c2 e))
  have hsz : h₅.objs.size = s.heap.objs.size := by rw [s₅.1, s₄.1, s₃.1, s₂.1, s₁.1]
  have Z₅ : ZT h₅ z TI TO i1 i2 l1 l2 xs ys (i + 1) .ellipsis :=
    ⟨up₅ _ _ D.i1z.symm D.TOz.symm D.i2z.symm Z₁.z, up₅ _ _ D.TIi1 D.TITO D.TIi2 Z₁.ti, ⟨_, _, hTO₅⟩, tupIter_at i1₂ fun o e => s₅.extBut _ _ D.TOi1.symm (s₄.extBut _ _ D.i12 (s₃.extBut _ _ D.TOi1.symm e)),
      tupIter_at i2₄ fun o e => s₅.extBut _ _ D.TOi2.symm e, tuple_at Z₁.l1 fun o => up₅ _ o D.l1i1 D.l1TO D.l1i2, tuple_at Z₁.l2 fun o => up₅ _ o D.l2i1 D.l2TO D.l2i2⟩
  have hzlt : z < h₅.objs.size := Heap.lt_size Z₅.z
  show wpAny _ _ (Builtin.SmallTypes.ownedTupleHandOut (.ref z) (.ref h₅.objs.size) >>= _) _ _ _
  refine wpAny_bind ?_
  unfold Builtin.SmallTypes.ownedTupleHandOut
  have hz₆ : IsZip (h₅.push { cls := .type "tuple", data := .seq #[x, y] }) z TI TO .ellipsis := Heap.get?_push_of_some _ Z₅.z
  refine wpAny_bind (wpAny_setField_rec hz₆ (by simp) fun h₇ hz₇ s₇ => ?_)
  replace hz₇ : IsZip h₇ z TI TO (rawInt h₅.objs.size) := hz₇
  refine wpAny_setField_rec hz₇ (by simp) fun h₈ hz₈ s₈ => ?_
  replace hz₈ : IsZip h₈ z TI TO (rawInt h₅.objs.size) := hz₈
  have up₈ : ∀ c o, c ≠ z → h₅.get? c = some o → h₈.get? c = some o := fun c o c1 e => s₈.extBut _ _ c1 (s₇.extBut _ _ c1 (Heap.get?_push_of_some _ e))
  have hT₈ : IsPair h₈ h₅.objs.size x y := s₈.extBut _ _ (Nat.ne_of_gt hzlt) (s₇.extBut _ _ (Nat.ne_of_gt hzlt) (Heap.get?_push_size _ rfl))
  have Z₈ := Z₅.slot D hz₈ up₈
  rw [hsz] at Z₈ hT₈
  refine wpAny_pure ⟨_, rfl, ?_⟩
  show Q (.ref h₅.objs.size) _
  rw [hsz]
  exact hQ h₈ Z₈ hT₈ fun c o c1 c2 c3 c4 e => up₈ c o c1 (up₅ c o c3 c2 c4 (s₁.extBut _ _ c1 e))
theorem zt_end {z TI TO i1 i2 l1 l2 : Addr} {i : Nat} {xs ys : Array Value} {Q : Fin → Shared → Prop} (hh : A.handled = none) (D : ZipApart z TI TO i1 i2 l1 l2) (Z : ZT s.heap z TI TO i1 i2 l1 l2 xs ys i .none) (hx : xs[i]? = none)
    (hE : ∀ h' e, (∀ c o, c ≠ z → c ≠ TO → c ≠ i1 → c ≠ i2 → s.heap.get? c = some o → h'.get? c = some o) → (∃ o, h'.get? e = some o ∧ o.cls = .type "StopIteration") → E (.ref e) { s with heap := h' }) :
    wpAny (model prog w) A (Builtin.«zip.__next__» ⟨[.ref z], []⟩) Q E s := by
  show wpAny _ _ (field (.ref z) 2 >>= _) _ _ _
  refine wpAny_bind (wpAny_field Z.z rfl (x := .bool false) rfl ?_)
  show wpAny _ _ (field (.ref z) 3 >>= _) _ _ _
  refine wpAny_bind (wpAny_field Z.z rfl (x := .ref TI) rfl ?_)
  refine wpAny_bind (wpAny_seqItems Z.ti rfl ?_)
  show wpAny _ _ (Builtin.SmallTypes.ownedTupleIsFree (.ref z) >>= _) _ _ _
  refine wpAny_bind ?_
  unfold Builtin.SmallTypes.ownedTupleIsFree
  refine wpAny_bind (wpAny_field Z.z rfl (x := .none) rfl (wpAny_pure ?_))
  simp only [if_true]
  refine wpAny_bind (wpAny_rule ?_)
  refine wpAny_bind (wpAny_field Z.z rfl (x := .ref TO) rfl ?_)
  refine wpAny_bind (wpAny_setField_rec Z.z (by simp) fun h₁ hz₁ s₁ => ?_)
  have Z₁ : ZT h₁ z TI TO i1 i2 l1 l2 xs ys i .ellipsis := Z.slot D hz₁ fun c o hc e => s₁.extBut c o hc e
  refine wpAny_bind ?_
  simp only [List.zipIdx_cons, List.zipIdx_nil, List.forIn_cons, List.forIn_nil]
  refine wpAny_bind (wpAny_bind (wpAny_onRaise ?_))
  show wpAny _ _ (Builtin.SmallTypes.nextOf (.ref i1) >>= _) _ _ _
  refine wpAny_bind (nextOf_tup_end hh Z₁.h1 Z₁.l1 hx fun h₂ e s₂ he => ?_)
  obtain ⟨oe, hoe, hce⟩ := he
  have hz₂ : IsZip h₂ z TI TO .ellipsis := s₂ _ _ D.i1z.symm Z₁.z
  have hez : e ≠ z := fun x => by subst x; rw [hz₂] at hoe; cases hoe; simp at hce
  exact wpAny_setField_rec hz₂ (by simp) fun h₃ _ s₃ => hE h₃ e (fun c o c1 _ c3 _ x => s₃.extBut _ _ c1 (s₂ _ _ c3 (s₁.extBut _ _ c1 x))) ⟨oe, s₃.extBut _ _ hez hoe, hce⟩
theorem zt_walks (hh : A.handled = none) (z TI TO i1 i2 l1 l2 : Addr) (D : ZipApart z TI TO i1 i2 l1 l2) (xs ys : Array Value) (hle : xs.size ≤ ys.size) :
    WalksU prog w A z [z, TI, TO, i1, i2, l1, l2] [z, TO, i1, i2] xs.size (fun i vals => ∃ x y, xs[i]? = some x ∧ ys[i]? = some y ∧ vals = #[x, y])
      (fun i h => ZT h z TI TO i1 i2 l1 l2 xs ys i .none) (fun i T h => ZT h z TI TO i1 i2 l1 l2 xs ys (i + 1) (rawInt T) ∧ T ∉ [z, TO, i1, i2]) where
  sub := fun c hc => by simp at hc ⊢; rcases hc with rfl | rfl | rfl | rfl <;> simp
  frame := fun i h h' Z k => Z.keep k
  item := fun i s Q E hi Z hQ => by
    have hx : xs[i]? = some xs[i] := Array.getElem?_eq_getElem hi
    have hy : ys[i]? = some ys[i] := Array.getElem?_eq_getElem (Nat.lt_of_lt_of_le hi hle)
    have hT : s.TypeIs (.ref z) "zip" := ⟨_, Z.z, rfl⟩
    unfold pyNext
    refine wpAny_bind (wpAny_attempt (wpAny_callSpecial?_slot (name := Str.ofString "__next__") hT F.slot_zip_next
      (wpAny_call_entry F.slot_zip_next hT F.entry_zip_next (zt_item D Z hx hy fun h' Z' hp hk => wpAny_pure ?_) (F.args_zip_next_1 _))))
    refine hQ _ _ h' s.toks ⟨_, _, hx, hy, rfl⟩ ⟨_, hp, rfl, _, rfl⟩ ⟨Z', fun hm => ?_⟩ fun c o hc e => hk c o (fun q => hc (by simp [q])) (fun q => hc (by simp [q])) (fun q => hc (by simp [q])) (fun q => hc (by simp [q])) e
    obtain ⟨a, b, t⟩ := Z.to
    obtain ⟨_, e1, _⟩ := Z.h1
    obtain ⟨_, e2, _⟩ := Z.h2
    have l0 := Heap.lt_size Z.z
    have l1 := Heap.lt_size t
    have l2 := Heap.lt_size e1
    have l3 := Heap.lt_size e2
    simp only [List.mem_cons, List.not_mem_nil, or_false] at hm
    rcases hm with q | q | q | q
    · exact Nat.ne_of_lt l0 q.symm
    · exact Nat.ne_of_lt l1 q.symm
    · exact Nat.ne_of_lt l2 q.symm
    · exact Nat.ne_of_lt l3 q.symm
  go := fun elts k pos i T s Q E hm hQ => wpAny_letOwnedTupleGo_zip hm.1.z fun h' hz' hs' => hQ h' (hm.1.slot D hz' fun c o hc e => hs'.extBut _ _ hc e) fun c o hc e => hs'.extBut _ _ (fun x => hc (by simp [x])) e
  apart := fun i T h hm => hm.2
  done := fun s Q E Z hQ => by
    have hT : s.TypeIs (.ref z) "zip" := ⟨_, Z.z, rfl⟩
    unfold pyNext
    refine wpAny_bind (wpAny_attempt (wpAny_callSpecial?_slot (name := Str.ofString "__next__") hT F.slot_zip_next
      (wpAny_call_entry F.slot_zip_next hT F.entry_zip_next (zt_end hh D Z (Array.getElem?_eq_none (Nat.le_refl _)) fun h' e hk he => ?_) (F.args_zip_next_1 _))))
    obtain ⟨o, ho, hc⟩ := he
    refine wpAny_bind (wpAny_isInstance (T := "StopIteration") (b := true) ⟨o, ho, hc⟩ isSubtype_stop ?_)
    exact wpAny_pure (hQ h' s.toks fun c o hc e => hk c o (fun q => hc (by simp [q])) (fun q => hc (by simp [q])) (fun q => hc (by simp [q])) (fun q => hc (by simp [q])) e)
  self := fun i s Q E Z hQ => wpAny_pyIter_zip Z.z hQ
end
end Mine
end
end
section
open PySem PySem.W PyProof.Rows PySem.Calls PySem.Spec
set_option Elab.async false
set_option maxRecDepth 100000
noncomputable section
namespace Mine
noncomputable abbrev zh1 (h : Heap) (l1 : Addr) : Heap := h.push { cls := .type "tuple_iterator", data := .fields #[.ref l1, .int 0 0] }
noncomputable abbrev zh2 (h : Heap) (l1 l2 : Addr) : Heap := (zh1 h l1).push { cls := .type "tuple_iterator", data := .fields #[.ref l2, .int 0 0] }
noncomputable abbrev zh3 (h : Heap) (l1 l2 : Addr) : Heap := (zh2 h l1 l2).push { cls := .type "tuple", data := .seq #[.ref h.objs.size, .ref (zh1 h l1).objs.size] }
noncomputable abbrev zh4 (h : Heap) (l1 l2 : Addr) : Heap := (zh3 h l1 l2).push { cls := .type "tuple", data := .seq #[.none, .none] }
noncomputable abbrev zh5 (h : Heap) (l1 l2 : Addr) : Heap := (zh4 h l1 l2).push { cls := .type "zip", data := .fields #[.none, .bool false, .bool false, .ref (zh2 h l1 l2).objs.size, .ref (zh3 h l1 l2).objs.size] }
theorem zip_new_tup (l1 l2 : Addr) (xs ys : Array Value) :
    Meets (Builtin.«zip.__new__» ⟨[.type "zip", .ref l1, .ref l2], []⟩) (fun _ R s => s.heap.IsTuple l1 xs ∧ s.heap.IsTuple l2 ys ∧
      R (.ok (.ret (.ref (zh4 s.heap l1 l2).objs.size))) { s with heap := zh5 s.heap l1 l2 }) :=
  .of_wp fun prog w A R s h => by
    obtain ⟨hp, g, d, tk, os⟩ := s; obtain ⟨hl1, hl2, h⟩ := h
    have hsub := sub_zip
    have hL1 : Heap.IsTuple (Shared.heap ⟨hp, g, d, tk, os⟩) l1 xs := hl1
    have hL2 : Heap.IsTuple (Shared.heap ⟨hp.push { cls := .type "tuple_iterator", data := .fields #[.ref l1, .int 0 0] }, g, d, tk, os⟩) l2 ys := Heap.IsTuple.push hl2 _
    wp_walk using wpAny_pyIter_tuple hL1, wpAny_pyIter_tuple hL2
    exact ⟨_, rfl, h⟩
section
variable {prog : Program} {w : World} {A : Around} {E : Value → Shared → Prop} {s : Shared}
theorem call_zip_tup {l1 l2 : Addr} {xs ys : Array Value} {Q : Value → Shared → Prop} (hl1 : s.heap.IsTuple l1 xs) (hl2 : s.heap.IsTuple l2 ys)
    (h : ∀ h', ZipApart (s.heap.objs.size + 4) (s.heap.objs.size + 2) (s.heap.objs.size + 3) s.heap.objs.size (s.heap.objs.size + 1) l1 l2 →
      ZT h' (s.heap.objs.size + 4) (s.heap.objs.size + 2) (s.heap.objs.size + 3) s.heap.objs.size (s.heap.objs.size + 1) l1 l2 xs ys 0 .none → h'.objs.size = s.heap.objs.size + 5 →
      s.heap.StaysIn h' → Q (.ref (s.heap.objs.size + 4)) { s with heap := h' }) :
    wpAny (model prog w) A (call (.type "zip") [.ref l1, .ref l2]) Q E s := by
  have a1 : l1 < s.heap.objs.size := by obtain ⟨_, e, _⟩ := hl1; exact Heap.lt_size e
  have a2 : l2 < s.heap.objs.size := by obtain ⟨_, e, _⟩ := hl2; exact Heap.lt_size e
  refine callType_new F.called_zip (by decide) (F.typeCall_zip_2 _ _) (F.newCall_zip_2 _ _) (fun obj => F.args_object_init_3 obj _ _) F.entry_zip_new (zip_new_tup l1 l2 xs ys) ⟨hl1, hl2, ?_⟩
  have z1 : (zh1 s.heap l1).objs.size = s.heap.objs.size + 1 := Heap.size_push ..
  have z2 : (zh2 s.heap l1 l2).objs.size = s.heap.objs.size + 2 := by rw [Heap.size_push, z1]
  have z3 : (zh3 s.heap l1 l2).objs.size = s.heap.objs.size + 3 := by rw [Heap.size_push, z2]
  have z4 : (zh4 s.heap l1 l2).objs.size = s.heap.objs.size + 4 := by rw [Heap.size_push, z3]
  have z5 : (zh5 s.heap l1 l2).objs.size = s.heap.objs.size + 5 := by rw [Heap.size_push, z4]
  have g5 : (zh5 s.heap l1 l2).get? (zh4 s.heap l1 l2).objs.size = some _ := Heap.get?_push_size _ rfl
  have g4 : (zh5 s.heap l1 l2).get? (zh3 s.heap l1 l2).objs.size = some _ := Heap.get?_push_of_some _ (Heap.get?_push_size _ rfl)
  have g3 : (zh5 s.heap l1 l2).get? (zh2 s.heap l1 l2).objs.size = some _ := Heap.get?_push_of_some _ (Heap.get?_push_of_some _ (Heap.get?_push_size _ rfl))
  have g2 : (zh5 s.heap l1 l2).get? (zh1 s.heap l1).objs.size = some _ := Heap.get?_push_of_some _ (Heap.get?_push_of_some _ (Heap.get?_push_of_some _ (Heap.get?_push_size _ rfl)))
  have g1 : (zh5 s.heap l1 l2).get? s.heap.objs.size = some _ := Heap.get?_push_of_some _ (Heap.get?_push_of_some _ (Heap.get?_push_of_some _ (Heap.get?_push_of_some _ (Heap.get?_push_size _ rfl))))
  have up : s.heap.StaysIn (zh5 s.heap l1 l2) := fun c o x => Heap.get?_push_of_some _ (Heap.get?_push_of_some _ (Heap.get?_push_of_some _ (Heap.get?_push_of_some _ (Heap.get?_push_of_some _ x))))
  show _ ∧ _
  rw [z2, z3, z4] at g5
  rw [z1, z2] at g3
  rw [z3] at g4
  rw [z1] at g2
  rw [z4]
  exact ⟨⟨_, g5, rfl⟩, h _ (zipApart_new a1 a2) ⟨g5, g3, ⟨_, _, g4⟩, ⟨_, g1, rfl, rfl⟩, ⟨_, g2, rfl, rfl⟩, tuple_at hl1 fun o => up _ o, tuple_at hl2 fun o => up _ o⟩ z5 up⟩
end
end Mine
end
end
section
open PySem PySem.W PyProof.Rows PySem.Calls PySem.Spec
set_option Elab.async false
set_option maxRecDepth 100000
noncomputable section
namespace Mine
/-- the table of a maker of one generator: empty, or that one's code -/
noncomputable def TabG (h : Heap) (P : Addr) (l c : Nat) : Prop := ∃ ps, h.get? P = some (tabObj ps) ∧ (ps = #[] ∨ ∃ c', ps = #[rawInt l, rawInt c, .ref c'])
theorem TabG.keep {h h' : Heap} {P : Addr} {l c : Nat} (x : TabG h P l c) (k : ∀ o, h.get? P = some o → h'.get? P = some o) : TabG h' P l c := let ⟨ps, e, y⟩ := x; ⟨ps, k _ e, y⟩
/-- sums, item by item -/
noncomputable def SumAt (as bs : List Int) (j : Nat) (y : Value) : Prop := ∃ u v t, as[j]? = some u ∧ bs[j]? = some v ∧ y = .int (u + v) t
theorem passing_all (n : Nat) : passing (fun _ => true) n 0 = List.range n := by simp [passing]
section
variable {w : World} {A : Around} {E : Value → Shared → Prop} {s : Shared} {B : Heap} {env : Env} {c P : Addr} {p : Program} {l : List Str} {me : ExcName → Option Value} {mg mb : Str → Option Value}
/-- where a sum of pairs draws from: a zip of two tuples, apart from the table -/
inductive SumSrc (w : World) (A : Around) (B : Heap) (P : Addr) (pos : Pos) (Q : Value → Shared → Prop) (xv : Value) (s₁ : Shared) : Prop
  | mk (z TI TO i1 i2 l1 l2 : Addr) (xs ys : List Value) (as bs : List Int) (K : Nat) (f0 : xv = .ref z) (f1 : ZipApart z TI TO i1 i2 l1 l2) (f2 : ZT s₁.heap z TI TO i1 i2 l1 l2 (xs : List Value).toArray (ys : List Value).toArray 0 .none) (f3 : All2 IV xs as) (f4 : All2 IV ys bs) (f5 : as.length ≤ bs.length) (f6 : @LT.lt Nat _ K z) (f7 : @LT.lt Nat _ K TO) (f8 : @LT.lt Nat _ K i1) (f9 : @LT.lt Nat _ K i2) (f10 : B.objs.size ≤ K + 1) (f11 : @LE.le Nat _ P K) (f12 : AllBare s₁.gens) (f13 : B.StaysIn s₁.heap) (f14 : B.get? P = none) (f15 : TabG s₁.heap P pos.line pos.col) (f16 : ∀ a h' tk g, AllBare g → (∀ b o, b ≠ P → s₁.heap.get? b = some o → h'.get? b = some o) → TabG h' P pos.line pos.col → Gen pw w A K a as.length (SumAt as bs) { s₁ with heap := h', toks := tk, gens := g } → Q (.ref a) { s₁ with heap := h', toks := tk, gens := g }) : SumSrc w A B P pos Q xv s₁
theorem genexp_sum {iter : Expr} {xa xb : Str} {pa pb pt pc pd pe : Pos} {kt : Nat} {scope : Scope} {pos : Pos} {Q : Value → Shared → Prop}
    (hh : A.handled = none) (hroom : A.depth < recursionLimit) (T : Top p l me mg mb B) (C : CodeHd B c P) (hcode : env.code = .ref c) (hglob : env.globals = mainGlobals)
    (hco : scope.isCoroutine = false) (hclos : closureFor scope env = pure []) (hcell : ∀ y ∈ scope.names, y.2 ≠ .cell) (h0 : scope.names.lookup (".0" : Str) = some NameKind.local)
    (hxa : scope.names.lookup xa = some .local) (hxb : scope.names.lookup xb = some .local) (hab : xa ≠ xb) (hkind : scope.kind = .function) (hda : (xa == ("__debug__" : Str)) = false) (hdb : (xb == ("__debug__" : Str)) = false)
    (hs : ∀ x, genFold iter env x = pure x)
    (h : wpAny (model pw w) A (eval iter env) (SumSrc w A B P pos Q) E s) :
    wpAny (model pw w) A (eval (.GeneratorExp (.BinOp (.Name xa pc) .Add (.Name xb pd) pe) [⟨.Tuple [.Name xa pa, .Name xb pb] kt pt, iter, [], 0⟩] scope pos) env) Q E s := by
  refine wpAny_GeneratorExp_walksQTD hh hco hclos hcell h0 hxa hxb hab hkind hroom (wpAny_mono h (fun xv s₁ h₁ => ?_) fun _ _ e => e) hs
  obtain ⟨z, TI, TO, i1, i2, l1, l2, xs, ys, as, bs, K, rfl, D, Z, hA, hB, hle, kz, kTO, k1, k2, hBK, hPK, hG, kB, hBP, hT, hQ⟩ := h₁
  refine wpAny_pyIter_zip Z.z ⟨T.nolimit.keeps kB, ?_⟩
  obtain ⟨ps, hP, hps⟩ := id hT
  have hcP : ∀ b ∈ [z, TI, TO, i1, i2, l1, l2], b ≠ P := by
    intro b hb e
    subst e
    simp only [List.mem_cons, List.not_mem_nil, or_false] at hb
    rcases hb with e | e | e | e | e | e | e
    · rw [e] at hPK; exact Nat.lt_irrefl _ (Nat.lt_of_lt_of_le kz hPK)
    · have q : s₁.heap.get? TI = some { cls := .type "tuple", data := .seq #[.ref i1, .ref i2] } := Z.ti
      rw [← e, hP] at q; cases q
    · rw [e] at hPK; exact Nat.lt_irrefl _ (Nat.lt_of_lt_of_le kTO hPK)
    · rw [e] at hPK; exact Nat.lt_irrefl _ (Nat.lt_of_lt_of_le k1 hPK)
    · rw [e] at hPK; exact Nat.lt_irrefl _ (Nat.lt_of_lt_of_le k2 hPK)
    · obtain ⟨o, g, hc, _⟩ := Z.l1; rw [← e, hP] at g; cases g; cases hc
    · obtain ⟨o, g, hc, _⟩ := Z.l2; rw [← e, hP] at g; cases g; cases hc
  have after : ∀ code h₃ tk₃, (∀ b o, b ≠ P → s₁.heap.get? b = some o → h₃.get? b = some o) → TabG h₃ P pos.line pos.col →
      wpAny (model pw w) A (builtinsFor env.globals env.builtins) (fun bi s₄ =>
        ∃ I fp wr n₀ Pt St₀ Mid pz F, Value.ref z = .ref I ∧ (∀ A' : Around, A'.handled = none → WalksU pw w A' I fp wr n₀ Pt St₀ Mid) ∧ (∀ i vals, Pt i vals → ∃ va vb, vals = #[va, vb]) ∧ St₀ 0 s₄.heap ∧ (∀ b ∈ fp, b < s₄.heap.objs.size) ∧ s₄.heap.NoLimit ∧ cStatics ∉ wr ∧
          (∀ href : Heap, (∀ b o, s₄.heap.get? b = some o → href.get? b = some o) →
            QuietGenTD pw w (genEnv scope [] s₄.heap.objs.size code bi env) xa xb [] (.BinOp (.Name xa pc) .Add (.Name xb pd) pe) (List.range s₄.heap.objs.size) wr Pt pz F href (A.depth + 1) (A.units + 8)) ∧
          (∀ a h₅ tk gs, gs.bare = true → s₄.heap.objs.size < a → h₅.objs.size = a + 1 → (∀ b o, s₄.heap.get? b = some o → h₅.get? b = some o) →
            WalksS pw w A.in4 a (a :: s₄.heap.objs.size :: List.range s₄.heap.objs.size) (s₄.heap.objs.size :: wr) (GenOnlyQ s₄.gens.size) (passing pz n₀ 0).length
              (fun j y => ∃ i, (passing pz n₀ 0)[j]? = some i ∧ F i y) (GenAt pw w A.in4 a s₄.gens.size s₄.heap.objs.size (List.range s₄.heap.objs.size) wr pz n₀ F) →
            GenAt pw w A.in4 a s₄.gens.size s₄.heap.objs.size (List.range s₄.heap.objs.size) wr pz n₀ F 0 { s₄ with gens := s₄.gens.push gs, toks := tk, heap := h₅ } →
            Q (.ref a) { s₄ with gens := s₄.gens.push gs, toks := tk, heap := h₅ })) E { s₁ with heap := h₃, toks := tk₃ } := by
    intro code h₃ tk₃ hx hT₃
    have kB₃ : B.StaysIn h₃ := fun b o e => hx b o (fun q => by rw [q, hBP] at e; cases e) (kB b o e)
    obtain ⟨bm, ob, b1, b2, b3, b4, b5, b6⟩ := T.bmain
    refine wpAny_builtinsFor (m := mg) (by rw [hglob]; exact T.g.keeps kB₃) b1 b2 (kB₃ _ _ b3) b4 b5 b6 ?_
    have Z₃ : ZT h₃ z TI TO i1 i2 l1 l2 xs.toArray ys.toArray 0 .none := Z.keep fun b hb o e => hx b o (hcP b hb) e
    have hlen : xs.toArray.size = as.length := by rw [List.size_toArray]; exact hA.length
    have hfp : ∀ b ∈ [z, TI, TO, i1, i2, l1, l2], b < h₃.objs.size := by
      intro b hb
      simp only [List.mem_cons, List.not_mem_nil, or_false] at hb
      rcases hb with e | e | e | e | e | e | e
      · subst e; exact Heap.lt_size Z₃.z
      · subst e; exact Heap.lt_size Z₃.ti
      · subst e; obtain ⟨_, _, g⟩ := Z₃.to; exact Heap.lt_size g
      · subst e; obtain ⟨_, g, _⟩ := Z₃.h1; exact Heap.lt_size g
      · subst e; obtain ⟨_, g, _⟩ := Z₃.h2; exact Heap.lt_size g
      · subst e; obtain ⟨_, g, _⟩ := Z₃.l1; exact Heap.lt_size g
      · subst e; obtain ⟨_, g, _⟩ := Z₃.l2; exact Heap.lt_size g
    have hwr : ∀ b ∈ [z, TO, i1, i2], @LT.lt Nat _ K b := by
      intro b hb
      simp only [List.mem_cons, List.not_mem_nil, or_false] at hb
      rcases hb with e | e | e | e <;> subst e <;> assumption
    have hcs : cStatics < B.objs.size := let ⟨_, hn, _⟩ := T.nolimit; hn.lt
    refine ⟨z, [z, TI, TO, i1, i2, l1, l2], [z, TO, i1, i2], _, _, _, _, fun _ => true, SumAt as bs, rfl, fun A' hA' => zt_walks hA' z TI TO i1 i2 l1 l2 D xs.toArray ys.toArray (by rw [hlen, List.size_toArray, hB.length]; exact hle),
      (fun i vals hv => by obtain ⟨x, y, _, _, e⟩ := hv; exact ⟨x, y, e⟩), Z₃, hfp, T.nolimit.keeps kB₃, (fun hm => ?_), (fun href hhref => ?_), fun a h₅ tk gs hgb hag hsz hk W hat => ?_⟩
    · have := hwr _ hm
      exact Nat.lt_irrefl _ (Nat.lt_of_lt_of_le hcs (Nat.le_trans hBK this))
    · refine ⟨fun A' E' i va vb t m₂ hA' _ _ _ hn hma hmb _ => ?_, fun A' E' i va vb t m₂ hA' _ _ hPt _ hn hma hmb _ => ?_⟩
      · exact wpAny_pure ⟨rfl, t.heap, t.toks, rfl, fun _ _ e => e⟩
      · obtain ⟨x, y, hx1, hy1, e⟩ := hPt
        obtain ⟨e1, e2⟩ : va = x ∧ vb = y := by simpa using congrArg Array.toList e
        subst e1 e2
        rw [List.getElem?_toArray] at hx1 hy1
        obtain ⟨u, hu⟩ : ∃ u, as[i]? = some u := ⟨_, List.getElem?_eq_getElem (by rw [← hA.length]; exact (List.getElem?_eq_some_iff.mp hx1).1)⟩
        obtain ⟨v, hv⟩ : ∃ v, bs[i]? = some v := ⟨_, List.getElem?_eq_getElem (by rw [← hB.length]; exact (List.getElem?_eq_some_iff.mp hy1).1)⟩
        obtain ⟨p1, hp1, t1, e1⟩ := hA.get hu
        obtain ⟨p2, hp2, t2, e2⟩ := hB.get hv
        rw [hx1] at hp1; cases hp1
        rw [hy1] at hp2; cases hp2
        subst e1 e2
        have hk : (genEnv scope [] h₃.objs.size code builtinsNs env).scope.kind = .function := hkind
        refine wpAny_BinOp (wpAny_Name (wpAny_loadName_local hk hxa hn hma (wpAny_Name (wpAny_loadName_local hk hxb hn hmb (PyProof.Rows.add_int ?_)) hdb)) hda)
        exact ⟨⟨u, v, _, hu, hv, rfl⟩, t.heap, t.toks + 1, rfl, fun _ _ e => e⟩
    · have kk : ∀ b o, b ≠ P → s₁.heap.get? b = some o → h₅.get? b = some o := fun b o hb e => hk b o (hx b o hb e)
      have X : Gen pw w A K a (passing (fun _ => true) xs.toArray.size 0).length (fun j y => ∃ i, (passing (fun _ => true) xs.toArray.size 0)[j]? = some i ∧ SumAt as bs i y) { s₁ with heap := h₅, toks := tk, gens := s₁.gens.push gs } := by
        refine ⟨_, _, _, _, W, hat, (fun i s' st => st.1.typeIs), .head _, ?_, ?_⟩
        · intro b hb
          show b < h₅.objs.size
          rw [hsz]
          rcases List.mem_cons.mp hb with rfl | hb
          · exact Nat.lt_succ_self _
          · rcases List.mem_cons.mp hb with rfl | hb
            · exact Nat.lt_succ_of_lt hag
            · exact Nat.lt_succ_of_lt (Nat.lt_trans (List.mem_range.mp hb) hag)
        · intro b hb
          rcases List.mem_cons.mp hb with rfl | hb
          · exact Nat.lt_trans kz (hfp z (.head _))
          · exact hwr b hb
      have e1 : (passing (fun _ => true) xs.toArray.size 0).length = as.length := by rw [passing_all, List.length_range, hlen]
      rw [e1] at X
      refine hQ a h₅ tk (s₁.gens.push gs) (hG.push hgb) kk (hT₃.keep fun o e => hk _ o e) (X.imp fun j y hy => ?_)
      obtain ⟨i, hi, hy⟩ := hy
      rw [passing_all] at hi
      have := (List.getElem?_eq_some_iff.mp hi).2
      rw [List.getElem_range] at this
      subst this; exact hy
  rcases hps with rfl | ⟨c', rfl⟩
  · refine wpAny_genexprCodeX hcode ((C.keeps kB).code hP trivial) ((C.keeps kB).tab hP) rfl fun c' h₃ tk₃ hx hge hlt hcode₃ _ htab₃ _ => ?_
    exact after _ h₃ tk₃ hx ⟨_, htab₃.2, .inr ⟨c', by simp⟩⟩
  · refine wpAny_genexprCode_hit hcode ((C.keeps kB).code hP ?_) (by simp [codeAmong, rawInt]; rfl) ?_
    · simp [TriplesOk, rawInt]
    · exact after _ s₁.heap s₁.toks (fun _ _ _ e => e) hT
theorem tuple_sum {as bs : List Int} {a K : Addr} {Q : Value → Shared → Prop} (X : Gen pw w A K a as.length (SumAt as bs) s) (hG : AllBare s.gens) (hz : as.length ≤ 1000)
    (hQ : ∀ (h' : Heap) tk g vs, AllBare g → (∀ b o, @LE.le Nat _ b K → s.heap.get? b = some o → h'.get? b = some o) → ItemsOf (SumAt as bs) vs as.length → Q (.ref h'.objs.size) { s with heap := h'.push (tupOf vs), toks := tk, gens := g }) :
    wpAny (model pw w) A (call (.type "tuple") [.ref a]) Q E s := by
  obtain ⟨fp, wr, g, St, W, hst, hT, hI, hfp, hwr⟩ := X
  refine call_tuple_gen (hsz := by rw [sizeLine_eq]; omega) W.in4_3 hT hst hfp hI fun s' acc hm hacc => ?_
  have hG' := hG.movedS hm
  obtain ⟨h', g', dr, tk, os⟩ := s'
  have e1 : dr = s.drawn := hm.drawn
  have e2 : os = s.os := hm.os
  subst e1 e2
  exact hQ h' tk g' acc hG' (fun b o hb e => hm.heap b o (fun q => Nat.lt_irrefl _ (Nat.lt_of_lt_of_le (hwr b q) hb)) e) hacc
theorem sum_two {a0 a1 b0 b1 : Int} {vs : Array Value} (h : ItemsOf (SumAt [a0, a1] [b0, b1]) vs 2) : ∃ t1 t2, vs = #[.int (a0 + b0) t1, .int (a1 + b1) t2] := by
  obtain ⟨hs, hv⟩ := h
  obtain ⟨l⟩ := vs
  obtain ⟨x, y, rfl⟩ := two_len (show l.length = 2 from hs)
  obtain ⟨u, v, t, e1, e2, e3⟩ := hv 0 x rfl
  obtain ⟨u', v', t', e1', e2', e3'⟩ := hv 1 y rfl
  cases e1; cases e2; cases e1'; cases e2'
  exact ⟨t, t', by rw [e3, e3']⟩
end
end Mine
end
end
section
open PySem PySem.W PyProof.Rows PySem.Calls PySem.Spec
set_option Elab.async false
set_option maxRecDepth 100000
noncomputable section
namespace Mine
theorem rules_C1 : True := by
  k_with_none
  w_top off
  k_with "storeName" => (k_here; with_reducible show wpAny _ _ (storeName _ _ (Value.int _ (Shared.toks _))) _ _ _; k_dflt (refine storeX_Li (by k_asm) (by k_asm) (fun t_kw h_kw F_kw N_kw => ?_) rfl rfl; try k_sweep))
  k_with "storeName" => (k_here; with_reducible show wpAny _ _ (storeName _ _ (Value.str _ (Shared.toks _))) _ _ _; k_dflt (refine storeX_Ls (by k_asm) (by k_asm) (fun t_kw h_kw F_kw N_kw => ?_) rfl rfl; try k_sweep))
  trivial
theorem fillK_C1 : (fun (_ : OpenLaw) (_ : Params → Frag) => True) PySem.Challenge.rw_xe0047_01 KF := by
  k_fill
  trivial
/-- a def of the top, entered, over what stands -/
theorem enterK {w : World} {A : Around} {s : Shared} {h₀ : Heap} {d : Nat} {Q E : Value → Shared → Prop} {name : Str} {params : Arguments} {body : List Stmt} {scope : Scope} {pm cd : Value} {f : Addr} {args : List Value} {binds : List (Str × Value)}
    (G : Env0 w A h₀ (d + 1)) (kB : h₀.StaysIn s.heap)
    (ho : (KF w.params).lookup f = some { cls := .type "function", dict := none, data := .func (docDef name params body scope pm cd .none), slots := #[] }) (hcd : codeIn (KF w.params) cd name = true)
    (hbind : bindArgs (docDef name params body scope pm cd .none) ⟨args, []⟩ = pure binds) (hloc : (binds.all fun x => decide (scope.names.lookup x.1 = some .local)) = true)
    (h : ∀ L' h₁, Env0 w (A.deeper (envOf name scope L' f cd)) h₀ d → Fr s.heap L' h₁ (fun x => binds.reverse.lookup x) → News s.heap L' h₁ [] →
      wpAny (model pw w) (A.deeper (envOf name scope L' f cd)) (execs body (envOf name scope L' f cd)) (fun fl s' => Q (match fl with | .ret v => v | _ => .none) s') (fun _ _ => False) { s with heap := h₁, toks := s.toks + binds.length })
    (hco : scope.isCoroutine = false := by rfl) (hgen : scope.isGenerator = false := by rfl) (hk : scope.kind = .function := by rfl)
    (hcell : ∀ x ∈ scope.names, x.2 ≠ .cell := by decide) : wpAny (model pw w) A (call (.ref f) args) Q E s := by
  obtain ⟨p, l, me, mg, mb, T⟩ := G.T
  refine wpAny_call (call_plain_ret (by have := G.hd; show A.depth < 1000; omega) ((G.X.keeps kB) _ _ ho) rfl (T.nolimit.keeps kB) (codeRec_of (G.X.keeps kB) hcd) hbind (locs hloc) (fun h₁ F₁ => ?_) hco hgen hk hcell)
  exact wpAny_mono (h _ h₁ (G.deeper (h := h₀) fun _ _ e => e) F₁ News.nil) (fun fl s' q => q) fun _ _ e => e
/-- a pair of numbers stands there -/
noncomputable def PV (h : Heap) (v : Value) (b : Int × Int) : Prop := ∃ T t1 t2, v = .ref T ∧ h.get? T = some (tupOf #[.int b.1 t1, .int b.2 t2])
theorem PV.keep {h h' : Heap} {v : Value} {b : Int × Int} (x : PV h v b) (k : ∀ T o, (∀ vs, o.data ≠ .fields vs) → h.get? T = some o → h'.get? T = some o) : PV h' v b :=
  let ⟨T, t1, t2, e, g⟩ := x; ⟨T, t1, t2, e, k _ _ (fun _ q => by cases q) g⟩
theorem PV.still {h h' : Heap} {I : Addr} {v : Value} {b : Int × Int} (x : PV h v b) (k : Still I h h') : PV h' v b := x.keep fun _ _ hn e => k.other e hn
theorem News.sub {h₀ h : Heap} {L : Addr} {news news' : List (Addr × Obj)} (N : News h₀ L h news) (k : ∀ p ∈ news', p ∈ news) : News h₀ L h news' := fun p hp => N p (k p hp)
theorem News.cons {h₀ h : Heap} {L a : Addr} {o : Obj} {news : List (Addr × Obj)} (N : News h₀ L h news) (e : h.get? a = some o) (hL : a ≠ L) (hB : h₀.get? a = none) : News h₀ L h ((a, o) :: news) := fun p hp => by
  rcases List.mem_cons.mp hp with rfl | hp
  · exact ⟨e, hL, hB⟩
  · exact N p hp
theorem News.app {h₀ h : Heap} {L a : Addr} {o : Obj} {news : List (Addr × Obj)} (N : News h₀ L h news) (e : h.get? a = some o) (hL : a ≠ L) (hB : h₀.get? a = none) : News h₀ L h (news ++ [(a, o)]) := fun p hp => by
  rcases List.mem_append.mp hp with hp | hp
  · exact N p hp
  · rw [List.mem_singleton.mp hp]; exact ⟨e, hL, hB⟩
/-- all up to K stands -/
theorem Fr.grow {B h h' : Heap} {L K : Addr} {m : Str → Option Value} (F : Fr B L h m) (k : ∀ b o, @LE.le Nat _ b K → h.get? b = some o → h'.get? b = some o) (hK : @LE.le Nat _ L K) : Fr B L h' m :=
  ⟨let ⟨o, es, ep, e, r⟩ := F.ns; ⟨o, es, ep, k _ _ hK e, r⟩, fun b o e => k b o (Nat.le_trans (Nat.le_trans (Nat.le_of_lt (Heap.lt_size e)) F.above) hK) (F.keep b o e), F.above⟩
theorem News.grow {B h h' : Heap} {L K : Addr} {news : List (Addr × Obj)} (N : News B L h news) (k : ∀ b o, @LE.le Nat _ b K → h.get? b = some o → h'.get? b = some o) (hK : ∀ p ∈ news, @LE.le Nat _ p.1 K) : News B L h' news :=
  fun p hp => ⟨k _ _ (hK p hp) (N p hp).1, (N p hp).2⟩
theorem newsPush {B h : Heap} {L : Addr} {m : Str → Option Value} {news : List (Addr × Obj)} (N : News B L h news) (F : Fr B L h m) (o : Obj) (ho : o.isFreed = false := by rfl) : News B L (h.push o) ((h.objs.size, o) :: news) := fun p hp => by
  rcases List.mem_cons.mp hp with rfl | hp
  · exact ⟨Heap.get?_push_size _ ho, Nat.ne_of_gt F.ns.lt, Heap.get?_none_of_le (Nat.le_trans F.above (Nat.le_of_lt F.ns.lt))⟩
  · exact ⟨Heap.get?_push_of_some _ (N p hp).1, (N p hp).2⟩
theorem hide_back {h : Heap} {Ps : List Addr} {b : Addr} (e : (hideAll h Ps).get? b = none) (hb : b ∉ Ps) : h.get? b = none := by
  cases q : h.get? b with
  | none => rfl
  | some o => rw [hideAll_get _ q hb] at e; cases e
theorem dict_keep {pr : Program} {w : World} {K : Type} [DecidableEq K] {knd : KeyKind pr w K} {h h' : Heap} {d : Addr} {kvs : List (K × Value)} (x : h.DictOf knd d kvs) (k : ∀ o, (∀ vs, o.data ≠ .fields vs) → h.get? d = some o → h'.get? d = some o) : h'.DictOf knd d kvs :=
  let ⟨o, es, ep, e, a, hd, r⟩ := x; ⟨o, es, ep, k o (fun vs q => by rw [hd] at q; cases q) e, a, hd, r⟩
theorem dict_still {pr : Program} {w : World} {K : Type} [DecidableEq K] {knd : KeyKind pr w K} {h h' : Heap} {I d : Addr} {kvs : List (K × Value)} (x : h.DictOf knd d kvs) (k : Still I h h') : h'.DictOf knd d kvs := dict_keep x fun o hn e => k.other e hn
/-- a table of pairs -/
noncomputable abbrev DT (h : Heap) (kvs : List (Str × Value)) (xs : List (Str × (Int × Int))) : Prop := TabR (PV h) kvs xs
theorem DT.keep {h h' : Heap} {kvs : List (Str × Value)} {xs : List (Str × (Int × Int))} (x : DT h kvs xs) (k : ∀ T o, (∀ vs, o.data ≠ .fields vs) → h.get? T = some o → h'.get? T = some o) : DT h' kvs xs := TabR.mono (fun _ _ y => y.keep k) x
/-- the values of a table: old ones, the one put in, or made anew -/
noncomputable def FromT (h : Heap) (v0 : Value) (kvs kvs' : List (Str × Value)) : Prop := ∀ p ∈ kvs', p ∈ kvs ∨ p.2 = v0 ∨ ∃ T, p.2 = .ref T ∧ h.get? T = none
theorem mem_stored {K : Type} [DecidableEq K] {kvs : List (K × Value)} {k : K} {v : Value} {p : K × Value} (h : p ∈ stored kvs k v) : p ∈ kvs ∨ p.2 = v := by
  unfold stored at h
  split at h
  · obtain ⟨q, hq, e⟩ := List.mem_map.mp h
    split at e
    · right; rw [← e]
    · left; rw [← e]; exact hq
  · rcases List.mem_append.mp h with h | h
    · exact .inl h
    · right; rw [List.mem_singleton.mp h]
/-- what holds before each turn of the two loops -/
inductive CpyT (w : World) (D : Addr) (kvs : List (Str × Value)) (m0 : Str → Option Value) (i : Nat) (m' : Str → Option Value) (nx : List (Addr × Obj)) : Prop
  | mk (o : Obj) (enx : nx = [(D, o)]) (ho : o.IsDictOf (strKind pw w) (kvs.take i)) (u1 u2 : Option Value) (em : m' = fun y => if y = Str.ofString "func" then u1 else if y = Str.ofString "caller" then u2 else if y = Str.ofString "new_callers" then some (.ref D) else m0 y) : CpyT w D kvs m0 i m' nx
inductive BmpT (w : World) (D d e T0 : Addr) (h₀ : Heap) (kvs : List (Str × Value)) (xs : List (Str × (Int × Int))) (k : Str) (b0 : Int × Int) (i : Nat) (h : Heap) (m' : Str → Option Value) (nx : List (Addr × Obj)) : Prop
  | mk (o : Obj) (kvs' : List (Str × Value)) (enx : nx = [(D, o)]) (ho : o.IsDictOf (strKind pw w) kvs') (h0 : i = 0 → kvs' = kvs) (h1 : i = 1 → DT h kvs' (bumpR xs k (fun b => (b0.1 + b.1, b0.2 + b.2)) b0) ∧ FromT h₀ (.ref T0) kvs kvs') (u1 u2 : Option Value) (em : m' = fun y => if y = Str.ofString "func" then u1 else if y = Str.ofString "caller" then u2 else if y = Str.ofString "new_callers" then some (.ref D) else List.lookup y [((Str.ofString "target" : Str), Value.ref d), ("source", .ref e)].reverse) : BmpT w D d e T0 h₀ kvs xs k b0 i h m' nx
set_option maxHeartbeats 2000000 in
theorem addT_spec {w : World} {A : Around} {s : Shared} {B : Heap} {dd : Nat} {Q E : Value → Shared → Prop} (d e T0 : Addr) (kvs : List (Str × Value)) (xs : List (Str × (Int × Int))) (k : Str) (b0 : Int × Int) (ua ub : Tok)
    (hD : s.heap.DictOf (strKind pw w) d kvs) (hE : s.heap.DictOf (strKind pw w) e [(k, .ref T0)]) (h0 : s.heap.get? T0 = some (tupOf #[.int b0.1 ua, .int b0.2 ub])) (hv : DT s.heap kvs xs) (lo : (d == sysModules) = false) (lo2 : (e == sysModules) = false) (hz : kvs.length ≤ 1000)
    (G : Env0 w A B (dd + 1)) (kB : B.StaysIn s.heap) (hB : B.get? 51 = none) (hT : TabG s.heap 51 66 42) (hg : AllBare s.gens)
    (ret : ∀ h' tk' g' a kvs', AllBare g' → (a == sysModules) = false → s.heap.get? a = none → StayBut [51] s.heap h' → TabG h' 51 66 42 → h'.DictOf (strKind pw w) a kvs' → DT h' kvs' (bumpR xs k (fun b => (b0.1 + b.1, b0.2 + b.2)) b0) → FromT s.heap (.ref T0) kvs kvs' → Q (.ref a) { s with heap := h', toks := tk', gens := g' }) :
    wpAny (model pw w) A (call (.ref 56) [.ref d, .ref e]) Q E s := by
  refine enterK (binds := [("target", .ref d), ("source", .ref e)]) G kB rfl rfl rfl rfl (fun L' h₁ G' F' N' => ?_)
  obtain ⟨ps, hP, hps⟩ := id hT
  have hB' : ∀ P ∈ [51], B.get? P = none := fun P hP => by rw [List.mem_singleton.mp hP]; exact hB
  have G2 := G'.stay (hide_base kB hB')
  have F2 := hide_fr (Ps := [51]) F'
  have N2 := hide_more F' hP (.head _) (hide_news (Ps := [51]) N')
  have hPL := ltN (a := 51) (b := L') (Nat.lt_of_lt_of_le (Heap.lt_size hP) F'.above)
  have up : ∀ b o, (∀ vs, o.data ≠ .fields vs) → s.heap.get? b = some o → (hideAll s.heap [51]).get? b = some o := fun b o hn e => hideAll_get _ e fun q => by
    rw [List.mem_singleton.mp q, hP] at e; cases e; exact hn _ rfl
  have hDB : (hideAll s.heap [51]).DictOf (strKind pw w) d kvs := dict_keep hD fun o hn e => up _ o hn e
  have hEB : (hideAll s.heap [51]).DictOf (strKind pw w) e [(k, .ref T0)] := dict_keep hE fun o hn e => up _ o hn e
  have h0B := up _ _ (fun _ q => by cases q) h0
  have hvB : DT (hideAll s.heap [51]) kvs xs := hv.keep up
  have hBn : (hideAll s.heap [51]).get? 51 = none := hideAll_none _ (.head _)
  clear F' N' hv hE hD h0 hT
  obtain ⟨p, l, me, mg, mb, T⟩ := G2.T
  have X := G2.X
  have hh := G2.hh
  have C : CodeHd (hideAll s.heap [51]) 55 51 := codeHd_of_K X (by kernel_rfl)
  have hm0 : ∃ m0 : Str → Option Value, m0 = fun x => List.lookup x [((Str.ofString "target" : Str), Value.ref d), ("source", .ref e)].reverse := ⟨_, rfl⟩
  obtain ⟨m0, hm0⟩ := hm0
  iterate 5 walk1
  rename Fr _ _ _ _ => F1
  rename News _ _ _ _ => N1
  rename Obj.IsDictOf (strKind pw w) _ _ => hi1
  rename PyProof.V.FlatPairs PyData.str _ _ => fs1
  rename PyProof.V.FlatPairs PyData.int _ _ => fs2
  rename (_ == sysModules) = false => lo3
  rename_i D h9 o1 _ _ _
  clear fs1 fs2
  obtain ⟨_, _, _, _, _, _, _, _, hnod⟩ := id hDB
  refine' For_G ?_
  walk1
  walk1
  refine meth_items F1 N1 hDB lo fun h2 vw hvw F2 N2 => ?_
  have hN51 := N2 _ (.tail _ (.head _))
  have hD51 : @Ne Nat D 51 := fun q => by
    have e := (N2 _ (.head _)).1
    dsimp only at e
    rw [show D = 51 from q, hN51.1] at e
    cases e
    obtain ⟨_, _, _, hd, _⟩ := hi1
    cases hd
  refine itemsG (knd := strKind pw w) hh (by passes_own) hg F2 (News.sub N2 (news' := [(D, o1)]) (fun p hp => by rw [List.mem_singleton.mp hp]; exact .head _)) hvw hDB (fun i h m' nx => TabG h 51 66 42 ∧ CpyT w D kvs m0 i m' nx) ?_ ?_ ?_ ?_
  · refine fun o' => ⟨⟨ps, Heap.get?_push_of_some _ hN51.1, hps⟩, o1, rfl, hi1, m0 (Str.ofString "func"), m0 (Str.ofString "caller"), ?_⟩
    subst hm0
    funext y
    by_cases h1 : y = Str.ofString "func"
    · subst h1; rfl
    by_cases h2 : y = Str.ofString "caller"
    · subst h2; rfl
    simp only [if_neg h1, if_neg h2]
  · rintro i h h' m nx ⟨x, y⟩ st
    exact ⟨x.keep fun o e => st.2 _ _ (fun q => Nat.lt_irrefl _ (Nat.lt_of_lt_of_le (Heap.lt_size hN51.1) (Nat.le_of_eq q.symm))) e, y⟩
  · rintro i k1 key v1 T1 m₁ nx h tk g I oI hi hkey hT1 hg1 hLI hn ⟨hTG, o, rfl, ho, u1, u2, rfl⟩ F3 N3
    obtain ⟨ps2, hP2, hps2⟩ := hTG
    replace N3 := News.cons N3 (a := 51) hP2 (fun q => by rw [q] at hPL; exact Nat.lt_irrefl _ hPL) hBn
    have hne := hn _ (.head _)
    dsimp only at hne
    refine' unpackN_ F3 N3 hT1 ?k1 ?k2 ?k3 ?_
    case k1 => exact hh
    case k2 => exact rfl
    case k3 => exact rfl
    intro h4 F4 N4
    iterate 13 walk1
    rename Fr _ _ _ _ => F5
    rename News _ _ _ _ => N5
    dsimp only [List.cons_append, List.nil_append] at N5
    refine' kda_set (knd := strKind pw w) F5 N5 ?U ho hkey ?sz ?_
    case U => k_updF
    case sz => rw [sizeLine_eq, List.length_take]; omega
    intro h6 o6 F6 N6 ho6
    rw [stored_fresh hnod hi] at ho6
    k_steps
    refine turn_endG (nx := [(D, o6)]) hg1 F6 (News.sub N6 fun p hp => .tail _ hp) (fun p hp => by rw [List.mem_singleton.mp hp]; exact hne) ⟨⟨ps2, (N6 _ (.head _)).1, hps2⟩, _, rfl, ho6, some key, some v1, ?_⟩
    funext y
    by_cases h1 : y = Str.ofString "func"
    · subst h1; rfl
    by_cases h2 : y = Str.ofString "caller"
    · subst h2; rfl
    simp only [if_neg h1, if_neg h2]
  rintro m₁ nx h tk g hg1 ⟨hTG, oA, rfl, hoA, u1, u2, rfl⟩ F3 N3
  rw [List.take_length] at hoA
  clear hi1 N2 F2 hvw N1 F1 hps hP hN51
  subst hm0
  obtain ⟨ps2, hP2, hps2⟩ := hTG
  replace N3 := News.app N3 (a := 51) hP2 (fun q => by rw [q] at hPL; exact Nat.lt_irrefl _ hPL) hBn
  walk1
  refine' For_G ?_
  walk1
  walk1
  refine meth_items F3 N3 hEB lo2 fun h2 vw hvw F2 N2 => ?_
  have hN51 := N2 _ (.tail _ (.head _))
  refine itemsG (knd := strKind pw w) hh (by passes_own) hg1 F2 (News.sub N2 (news' := [(D, oA)]) (fun p hp => by rw [List.mem_singleton.mp hp]; exact .head _)) hvw hEB (fun i h m' nx => TabG h 51 66 42 ∧ BmpT w D d e T0 s.heap kvs xs k b0 i h m' nx) ?_ ?_ ?_ ?_
  · exact fun o' => ⟨⟨ps2, Heap.get?_push_of_some _ hN51.1, hps2⟩, oA, kvs, rfl, hoA, fun _ => rfl, fun e => absurd e (by decide), _, _, rfl⟩
  · rintro i h h' m nx ⟨x, o, kvs', y1, y2, y3, y4, v1, v2, y5⟩ st
    exact ⟨x.keep fun o e => st.2 _ _ (fun q => Nat.lt_irrefl _ (Nat.lt_of_lt_of_le (Heap.lt_size hN51.1) (Nat.le_of_eq q.symm))) e, o, kvs', y1, y2, y3, fun e => ⟨(y4 e).1.keep fun _ _ hn g => st.other g hn, (y4 e).2⟩, v1, v2, y5⟩
  · rintro i k1 key v1 T1 m₁ nx h tk g I oI hi hkey hT1 hg2 hLI hn ⟨hTG, o, kvs', rfl, ho, hk1, _, u1, u2, rfl⟩ F3 N3
    obtain rfl : i = 0 := by have := (List.getElem?_eq_some_iff.mp hi).1; simp at this; exact this
    obtain rfl := hk1 rfl
    cases hi
    obtain ⟨tk1, rfl⟩ := Value.isStrOf_shape hkey
    obtain ⟨ps3, hP3, hps3⟩ := hTG
    replace N3 := News.cons N3 (a := 51) hP3 (fun q => by rw [q] at hPL; exact Nat.lt_irrefl _ hPL) hBn
    have hne := hn _ (.head _)
    dsimp only at hne
    refine' unpackN_ F3 N3 hT1 ?k1 ?k2 ?k3 ?_
    case k1 => exact hh
    case k2 => exact rfl
    case k3 => exact rfl
    intro h4 F4 N4
    iterate 13 walk1
    rename Fr _ _ _ _ => F5
    rename News _ _ _ _ => N5
    rename Heap => h5
    dsimp only [List.cons_append, List.nil_append] at N5
    refine' kda_in (knd := strKind pw w) ?kN ?km ho lo3 hkey ((valueAt kvs' k).isSome) rfl ?_
    case kN => exact N5
    case km => exact .tail _ (.head _)
    have hod : (kvs'.map (·.1)).Nodup := keysNodup_of_isDictOf ho
    cases hb : (valueAt kvs' k).isSome with
    | true =>
      obtain ⟨x, hx⟩ := Option.isSome_iff_exists.mp hb
      obtain ⟨y, ⟨T2, ty1, ty2, rfl, gy⟩, hbump⟩ := TabR.hit hvB hod hx
      repeat walk1
      refine call_isinstance (isinstance_true (Tx := "tuple") PySem.F.isi_meta_tuple PySem.F.sub_tuple_tuple) ⟨⟨_, F5.keep _ _ h0B, rfl⟩, ?_⟩
      repeat walk1
      refine genexp_sum (B := hideAll s.heap [51]) (P := 51) (c := 55) hh (by have := G2.hd; show _ < 1000; omega) T C rfl rfl rfl ?hclos (by decide) rfl rfl rfl (by decide) rfl rfl rfl (fun x => by rfl) ?_
      case hclos => rfl
      repeat walk1
      refine kdt_tail (knd := strKind pw w) N5 (.tail _ (.head _)) ho ?_
      refine' kdt_getItem (knd := strKind pw w) ?kN ?km ho hkey hx ?_
      case kN => exact N5
      case km => exact .tail _ (.head _)
      repeat walk1
      refine call_zip_tup (xs := #[.int b0.1 ua, .int b0.2 ub]) (ys := #[.int y.1 ty1, .int y.2 ty2]) ⟨_, F5.keep _ _ h0B, rfl, _, rfl⟩ ⟨_, F5.keep _ _ gy, rfl, _, rfl⟩ fun h7 D7 Z7 sz7 k7 => ?_
      have F7 := Fr.stay F5 k7
      have N7 := News.stay N5 k7
      have n0 := ltN (a := L') (b := h5.objs.size) F5.ns.lt
      have nD := ltN (a := D) (b := h5.objs.size) (Heap.lt_size (N5 _ (.tail _ (.head _))).1)
      have nI := ltN (a := I) (b := h5.objs.size) (Heap.lt_size (N5 _ (.tail _ (.tail _ (.head _)))).1)
      have nB := Nat.le_trans F5.above (Nat.le_of_lt F5.ns.lt)
      dsimp only at D7 Z7 k7 ⊢
      refine ⟨_, _, _, _, _, _, _, [_, _], [_, _], [b0.1, b0.2], [y.1, y.2], h5.objs.size - 1, rfl, D7, Z7, .cons ⟨_, rfl⟩ (.cons ⟨_, rfl⟩ .nil), .cons ⟨_, rfl⟩ (.cons ⟨_, rfl⟩ .nil), Nat.le_refl _, by omega, by omega, by omega, by omega, by omega, by omega, hg2,
        fun b o e => F7.keep b o e, hBn, ⟨ps3, (N7 _ (.head _)).1, hps3⟩, ?_⟩
      intro a h8 tk8 g8 hg8 k8 hT8 X8
      have hLn : L' ∉ [51] := fun q => by rw [List.mem_singleton.mp q] at hPL; exact Nat.lt_irrefl _ hPL
      have hBn' : ∀ P ∈ [51], (hideAll s.heap [51]).get? P = none := fun P hP => by rw [List.mem_singleton.mp hP]; exact hBn
      have kk8 : StayBut [51] h7 h8 := fun b o hb e => k8 b o (fun q => hb (List.mem_singleton.mpr q)) e
      have F8 := Fr.but F7 hBn' hLn kk8
      have N8 := News.but (News.sub N7 (news' := [(D, o), (I, oI)]) fun p hp => .tail _ hp) (Ps := [51]) ?h51 kk8
      case h51 =>
        intro p hp q
        have q := List.mem_singleton.mp q
        rcases List.mem_cons.mp hp with rfl | hp
        · exact hD51 q
        · rw [List.mem_singleton.mp hp] at q
          exact Nat.lt_irrefl _ (Nat.lt_trans (Nat.lt_of_lt_of_le hLI (Nat.le_of_eq q)) hPL)
      obtain ⟨ps8, hP8, hps8⟩ := hT8
      replace N8 := News.cons N8 hP8 (fun q => hLn (List.mem_singleton.mpr q.symm)) hBn
      clear N7 F7 N5 F5 N4 F4 kk8 k8 k7 Z7 D7
      repeat walk1
      refine tuple_sum (as := [b0.1, b0.2]) (bs := [y.1, y.2]) X8 hg8 (show (2 : Nat) ≤ 1000 by decide) fun h9 tk9 g9 vs9 hg9 k9 hvs => ?_
      obtain ⟨t91, t92, rfl⟩ := sum_two hvs
      have F9 := Fr.grow (F := F8) k9 (by omega)
      have N9 := News.grow (N := N8) k9 ?h9
      case h9 =>
        intro p hp
        rcases List.mem_cons.mp hp with rfl | hp
        · show (51 : Nat) ≤ _; omega
        rcases List.mem_cons.mp hp with rfl | hp
        · show @LE.le Nat _ D _; omega
        · rw [List.mem_singleton.mp hp]; show @LE.le Nat _ I _; omega
      replace N9 := newsPush N9 F9 (tupOf #[.int (b0.1 + y.1) t91, .int (b0.2 + y.2) t92])
      replace F9 := F9.push (tupOf #[.int (b0.1 + y.1) t91, .int (b0.2 + y.2) t92])
      have gD8 := (N8 _ (.tail _ (.head _))).1
      clear X8 N8 F8
      repeat walk1
      have l9 := ltN (a := D) (b := h9.objs.size) (Heap.lt_size (k9 _ _ (by omega) gD8))
      clear k9
      refine' kda_set (knd := strKind pw w) F9 N9 ?U ho hkey ?sz ?_
      case U => k_updF
      case sz => rw [sizeLine_eq]; omega
      intro h6 o6 F6 N6 ho6
      have hdt : DT h6 (stored kvs' k (.ref h9.objs.size)) (bumpR xs k (fun b => (b0.1 + b.1, b0.2 + b.2)) b0) := by
        obtain ⟨y', ⟨T', t1', t2', eT, gT⟩, hb'⟩ := TabR.hit (hvB.keep fun _ _ _ e => F6.keep _ _ e) hod hx
        cases eT
        have gT2 := F6.keep _ _ gy
        rw [gT] at gT2
        obtain ⟨y1, y2⟩ := y'
        obtain ⟨z1, z2⟩ := y
        injection gT2 with gT2; injection gT2 with _ _ gT2; injection gT2 with gT2; injection gT2 with gT2
        injection gT2 with q1 q2; injection q1 with q1; injection q2 with q2 _; injection q2 with q2
        dsimp only at q1 q2
        subst q1 q2
        exact hb' _ (fun b => (b0.1 + b.1, b0.2 + b.2)) b0 ⟨_, t91, t92, rfl, (N6 _ (.head _)).1⟩
      have hfr : FromT s.heap (.ref T0) kvs' (stored kvs' k (.ref h9.objs.size)) := fun p hp => by
        rcases mem_stored hp with hp | hp
        · exact .inl hp
        · have z := N6 _ (.head _)
          have z5 := (N6 _ (.tail _ (.head _))).1
          refine .inr (.inr ⟨_, hp, notHidden z.2.2 fun q => ?_⟩)
          have z1 := z.1
          dsimp only at z1 z5
          rw [show h9.objs.size = 51 from q, z5] at z1
          cases z1
      k_steps
      refine turn_endG (nx := [(D, o6)]) hg9 F6 (News.sub N6 fun p hp => .tail _ (.tail _ hp)) (fun p hp => by rw [List.mem_singleton.mp hp]; exact hne) ⟨⟨ps8, (N6 _ (.tail _ (.head _))).1, hps8⟩, _, _, rfl, ho6, (fun e => nomatch e), (fun _ => ⟨hdt, hfr⟩), some (.str k tk1), some (.ref T0), ?_⟩
      funext y
      by_cases h1 : y = Str.ofString "func"
      · subst h1; rfl
      by_cases h2 : y = Str.ofString "caller"
      · subst h2; rfl
      simp only [if_neg h1, if_neg h2]
    | false =>
      have hx : valueAt kvs' k = none := by cases e : valueAt kvs' k with
        | none => rfl
        | some x => rw [e] at hb; cases hb
      repeat walk1
      refine' kda_set (knd := strKind pw w) F5 N5 ?Ub ho hkey ?szb ?_
      case Ub => k_updF
      case szb => rw [sizeLine_eq]; omega
      intro h6 o6 F6 N6 ho6
      have hdt : DT h6 (stored kvs' k (.ref T0)) (bumpR xs k (fun b => (b0.1 + b.1, b0.2 + b.2)) b0) :=
        TabR.miss (hvB.keep fun _ _ _ e => F6.keep _ _ e) hx _ ⟨T0, ua, ub, rfl, F6.keep _ _ h0B⟩
      have hfr : FromT s.heap (.ref T0) kvs' (stored kvs' k (.ref T0)) := fun p hp => (mem_stored hp).imp id .inl
      k_steps
      refine turn_endG (nx := [(D, o6)]) hg2 F6 (News.sub N6 fun p hp => .tail _ hp) (fun p hp => by rw [List.mem_singleton.mp hp]; exact hne) ⟨⟨ps3, (N6 _ (.head _)).1, hps3⟩, _, _, rfl, ho6, (fun e => nomatch e), (fun _ => ⟨hdt, hfr⟩), some (.str k tk1), some (.ref T0), ?_⟩
      funext y
      by_cases h1 : y = Str.ofString "func"
      · subst h1; rfl
      by_cases h2 : y = Str.ofString "caller"
      · subst h2; rfl
      simp only [if_neg h1, if_neg h2]
  · rintro m₁ nx h tk g hg2 ⟨hTG, o, kvs', rfl, ho, _, hk1, u1, u2, rfl⟩ F3 N3
    k_steps
    rename Fr _ _ _ _ => F4
    have hz1 := N3 _ (.head _)
    exact ret _ _ g D kvs' hg2 lo3 (hide_back hz1.2.2 fun q => hD51 (List.mem_singleton.mp q)) (fun b o hb e => F4.keep _ _ (hideAll_get _ e hb)) hTG (Heap.dictOf_iff.mpr ⟨o, hz1.1, ho⟩) (hk1 rfl).1 (hk1 rfl).2
end Mine
end
end
section
open PySem PySem.W PyProof.Rows PySem.Calls PySem.Spec
set_option Elab.async false
set_option maxRecDepth 100000
noncomputable section
namespace Mine
theorem rules_W15 : True := by
  k_with_none
  w_top off
  k_with "storeName" => (k_here; with_reducible show wpAny _ _ (storeName _ _ (Value.int _ (Shared.toks _))) _ _ _; k_dflt (refine storeX_Li (by k_asm) (by k_asm) (fun t_kw h_kw F_kw N_kw => ?_) rfl rfl; try k_sweep))
  k_with "storeName" => (k_here; with_reducible show wpAny _ _ (storeName _ _ (Value.str _ (Shared.toks _))) _ _ _; k_dflt (refine storeX_Ls (by k_asm) (by k_asm) (fun t_kw h_kw F_kw N_kw => ?_) rfl rfl; try k_sweep))
  trivial
theorem fillK_W15 : (fun (_ : OpenLaw) (_ : Params → Frag) => True) PySem.Challenge.rw_xe0047_01 KF := by
  k_fill
  trivial
noncomputable def facN (n : Nat) : Int := (rangeKs 2 (n - 1)).foldl (· * ·) 1
theorem facN_le {n : Nat} (h : n ≤ 5) : 1 ≤ facN n ∧ facN n ≤ 120 := by
  have : n = 0 ∨ n = 1 ∨ n = 2 ∨ n = 3 ∨ n = 4 ∨ n = 5 := by omega
  rcases this with h | h | h | h | h | h <;> subst h <;> decide
/-- small tables: the letters' numbers -/
structure Small (xs : List (Str × (Int × Int))) : Prop where
  sm : ∀ q ∈ xs, 0 ≤ q.2.1 ∧ q.2.1 ≤ 5 ∧ 0 ≤ q.2.2 ∧ q.2.2 ≤ 5
noncomputable def alikeL (xs : List (Str × (Int × Int))) : Int := xs.foldl (fun p q => p * facN q.2.2.toNat) 1
theorem alikeL_next {xs : List (Str × (Int × Int))} {i : Nat} {q : Str × (Int × Int)} (h : xs[i]? = some q) : alikeL (xs.take (i + 1)) = alikeL (xs.take i) * facN q.2.2.toNat := by
  unfold alikeL; rw [List.take_add_one, h, List.foldl_append]; rfl
set_option maxHeartbeats 1000000 in
theorem alike_spec {w : World} {A : Around} {s : Shared} {h₀ : Heap} {L : Addr} {m : Str → Option Value} {dd : Nat} {Q E : Value → Shared → Prop} (d : Addr) (kvs : List (Str × Value)) (xs : List (Str × (Int × Int)))
    (hD : s.heap.DictOf (strKind pw w) d kvs) (hv : DT s.heap kvs xs) (hs : Small xs) (lo : (d == sysModules) = false)
    (G : Env0 w A h₀ (dd + 2)) (F : Fr h₀ L s.heap m)
    (ret : ∀ h' tk' t', s.heap.StaysIn h' → Q (.int (alikeL xs) t') { s with heap := h', toks := tk' }) :
    wpAny (model pw w) A (call (.ref 181) [.ref d]) Q E s := by
  refine enter (binds := [("table", .ref d)]) G F rfl rfl rfl rfl (fun L' h₁ G' F' N' => ?_)
  obtain ⟨p, l, me, mg, mb, T⟩ := G'.T
  have X := G'.X
  have hh := G'.hh
  have hm0 : ∃ m0 : Str → Option Value, m0 = fun x => List.lookup x [((Str.ofString "table" : Str), Value.ref d)].reverse := ⟨_, rfl⟩
  obtain ⟨m0, hm0⟩ := hm0
  iterate 5 walk1
  rename Fr _ _ _ _ => F1
  rename News _ _ _ _ => N1
  with_unfolding_all refine' For_turns F1 ?_
  walk1
  walk1
  refine meth_values F1 N1 hD lo fun h2 vw hvw F2 N2 => ?_
  refine valuesB (knd := strKind pw w) hh F2 N2 hvw hD (fun i m' nx => nx = [] ∧ ∃ u1 u2 t', m' = fun y => if y = Str.ofString "ahead" then u1 else if y = Str.ofString "behind" then u2 else if y = Str.ofString "product" then some (.int (alikeL (xs.take i)) t') else m0 y) ?_ ?_ ?_
  · refine ⟨rfl, m0 (Str.ofString "ahead"), m0 (Str.ofString "behind"), ?tk0, ?_⟩
    rotate_left
    subst hm0
    funext y
    by_cases h1 : y = Str.ofString "ahead"
    · subst h1; rfl
    by_cases h2 : y = Str.ofString "behind"
    · subst h2; rfl
    simp only [if_neg h1, if_neg h2]; rfl
  · rintro i k v m₁ nx h tk I oI hi hn ⟨rfl, u1, u2, t', rfl⟩ F3 N3
    obtain ⟨x, hx⟩ : ∃ x, xs[i]? = some x := ⟨_, List.getElem?_eq_getElem (by rw [← hv.length]; exact (List.getElem?_eq_some_iff.mp hi).1)⟩
    obtain ⟨p, hp, hk1, T1, t1, t2, hv1, g1⟩ := hv.get hx
    rw [hi] at hp; cases hp
    dsimp only at hv1
    subst hv1
    obtain ⟨b1, b2, b3, b4⟩ := hs.sm x (List.mem_of_getElem? hx)
    have hT1 : Heap.IsTuple h T1 #[.int x.2.1 t1, .int x.2.2 t2] := ⟨_, F3.keep _ _ g1, rfl, _, rfl⟩
    refine' unpackN_ F3 N3 hT1 ?k1 ?k2 ?k3 ?_
    case k1 => exact hh
    case k2 => exact rfl
    case k3 => exact rfl
    intro h4 F4 N4
    repeat walk1
    rename Fr _ _ _ _ => F5
    rename News _ _ _ _ => N5
    obtain ⟨n, hn2, hn5⟩ : ∃ n : Nat, x.2.2 = (n : Int) ∧ n ≤ 5 := ⟨x.2.2.toNat, by omega, by omega⟩
    rw [hn2]
    refine orders_spec n _ hn5 G' F5 ?_
    intro h6 tk6 t6 k6
    have F6 := Fr.stay F5 k6
    have N6 := News.stay N5 k6
    clear F5 N5 k6
    have hb := facN_le hn5
    have e : alikeL (xs.take (i + 1)) = alikeL (xs.take i) * facN n := by rw [alikeL_next hx, hn2]; rfl
    change 1 ≤ facN n ∧ _ at hb
    show wpAny _ _ _ _ _ _
    have ef : (rangeKs 2 (n - 1)).foldl (· * ·) 1 = facN n := rfl
    rw [ef]
    obtain ⟨hb1, hb2⟩ := hb
    have mo : IntMulOk (alikeL (xs.take i)) (facN n) := IntMulOk.of_right (PySem.intBits_le_64 (by omega) (by omega))
    repeat walk1
    rename Fr _ _ _ _ => F7
    rename News _ _ _ _ => N7
    refine turn_end (nx := []) F7 N7 (fun _ h => nomatch h) ⟨rfl, some (.int x.2.1 t1), some (.int x.2.2 t2), ?t7, ?_⟩
    rotate_left
    rw [e]
    funext y
    by_cases h1 : y = Str.ofString "ahead"
    · subst h1; rfl
    by_cases h2 : y = Str.ofString "behind"
    · subst h2; rw [hn2]; rfl
    by_cases h3 : y = Str.ofString "product"
    · subst h3; rfl
    simp only [if_neg h1, if_neg h2, if_neg h3]
  · rintro m₁ nx h tk ⟨rfl, u1, u2, t', rfl⟩ F3 N3
    rw [show kvs.length = xs.length from hv.length, List.take_length] at F3
    k_steps
    exact ret _ _ _ (Fr.keep (by assumption))
end Mine
end
end
section
open PySem PySem.W PyProof.Rows PySem.Calls PySem.Spec
set_option Elab.async false
set_option maxRecDepth 100000
noncomputable section
namespace Mine
theorem rules_W16 : True := by
  k_with_none
  w_top off
  k_with "storeName" => (k_here; with_reducible show wpAny _ _ (storeName _ _ (Value.int _ (Shared.toks _))) _ _ _; k_dflt (refine storeX_Li (by k_asm) (by k_asm) (fun t_kw h_kw F_kw N_kw => ?_) rfl rfl; try k_sweep))
  k_with "storeName" => (k_here; with_reducible show wpAny _ _ (storeName _ _ (Value.str _ (Shared.toks _))) _ _ _; k_dflt (refine storeX_Ls (by k_asm) (by k_asm) (fun t_kw h_kw F_kw N_kw => ?_) rfl rfl; try k_sweep))
  trivial
theorem fillK_W16 : (fun (_ : OpenLaw) (_ : Params → Frag) => True) PySem.Challenge.rw_xe0047_01 KF := by
  k_fill
  trivial
noncomputable abbrev Tbl := List (Str × (Int × Int))
noncomputable def cnt1 (xs : Tbl) (c : Nat) : Tbl := bumpR xs (ST [c]) (fun b => (1 + b.1, 0 + b.2)) (1, 0)
noncomputable def cnt2 (xs : Tbl) (c : Nat) : Tbl := bumpR xs (ST [c]) (fun b => (0 + b.1, 1 + b.2)) (0, 1)
theorem bump_len {K β : Type} [DecidableEq K] (xs : List (K × β)) (k : K) (f : β → β) (b : β) : (bumpR xs k f b).length ≤ xs.length + 1 := by
  unfold bumpR; split <;> simp
theorem cnt1_len : ∀ (l : List Nat) (xs : Tbl), (l.foldl cnt1 xs).length ≤ xs.length + l.length
  | [], xs => by simp
  | c :: r, xs => by
    have h := cnt1_len r (cnt1 xs c)
    have h1 : (cnt1 xs c).length ≤ xs.length + 1 := bump_len _ _ _ _
    rw [List.foldl_cons, List.length_cons]; omega
theorem cnt2_len : ∀ (l : List Nat) (xs : Tbl), (l.foldl cnt2 xs).length ≤ xs.length + l.length
  | [], xs => by simp
  | c :: r, xs => by
    have h := cnt2_len r (cnt2 xs c)
    have h1 : (cnt2 xs c).length ≤ xs.length + 1 := bump_len _ _ _ _
    rw [List.foldl_cons, List.length_cons]; omega
theorem fold_next {α β : Type} {f : β → α → β} {b : β} {l : List α} {i : Nat} {c : α} (h : l[i]? = some c) : (l.take (i + 1)).foldl f b = f ((l.take i).foldl f b) c := by
  rw [List.take_add_one, h, List.foldl_append]; rfl
/-- the pairs of a table, as objects of the ledger -/
structure TabT (tups : List (Addr × Obj)) (kvs : List (Str × Value)) (xs : Tbl) : Prop where
  tab : TabR (fun v b => ∃ T t1 t2, v = .ref T ∧ (T, tupOf #[.int b.1 t1, .int b.2 t2]) ∈ tups) kvs xs
theorem TabT.dt {B h : Heap} {L : Addr} {tups news : List (Addr × Obj)} {kvs : List (Str × Value)} {xs : Tbl} (x : TabT tups kvs xs) (N : News B L h news) (hs : ∀ p ∈ tups, p ∈ news) : DT h kvs xs :=
  TabR.mono (fun _ _ ⟨T, t1, t2, e, hm⟩ => ⟨T, t1, t2, e, (N _ (hs _ hm)).1⟩) x.tab
theorem tups_of {h : Heap} {kvs : List (Str × Value)} {xs : Tbl} (x : DT h kvs xs) : ∃ tups, TabT tups kvs xs ∧ ∀ p ∈ tups, h.get? p.1 = some p.2 ∧ (∃ vs, p.2 = tupOf vs) ∧ ∃ q ∈ kvs, q.2 = .ref p.1 := by
  induction x with
  | nil => exact ⟨[], ⟨.nil⟩, fun _ h => nomatch h⟩
  | @cons a b l r y _ ih =>
    obtain ⟨tups, ⟨t1⟩, t2⟩ := ih
    obtain ⟨y1, T, u1, u2, y2, y3⟩ := y
    have t3 : TabR (fun v b' => ∃ T' t1 t2, v = .ref T' ∧ (T', tupOf #[.int b'.1 t1, .int b'.2 t2]) ∈ (T, tupOf #[.int b.2.1 u1, .int b.2.2 u2]) :: tups) l r := TabR.mono (fun _ _ ⟨T, t1, t2, e, hm⟩ => ⟨T, t1, t2, e, .tail _ hm⟩) t1
    refine ⟨(T, tupOf #[.int b.2.1 u1, .int b.2.2 u2]) :: tups, ⟨.cons ⟨y1, T, u1, u2, y2, .head _⟩ t3⟩, fun p hp => ?_⟩
    rcases List.mem_cons.mp hp with rfl | hp
    · exact ⟨y3, ⟨_, rfl⟩, a, .head _, y2⟩
    · obtain ⟨z1, z2, q, z3, z4⟩ := t2 p hp
      exact ⟨z1, z2, q, .tail _ z3, z4⟩
theorem all2_left {α β : Type} {R : α → β → Prop} {l : List α} {r : List β} {a : α} (x : All2 R l r) (h : a ∈ l) : ∃ b ∈ r, R a b := by
  induction x with
  | nil => cases h
  | cons y _ ih =>
    rcases List.mem_cons.mp h with rfl | h
    · exact ⟨_, .head _, y⟩
    · obtain ⟨b, hb, z⟩ := ih h; exact ⟨b, .tail _ hb, z⟩
theorem TabT.mem {tups : List (Addr × Obj)} {kvs : List (Str × Value)} {xs : Tbl} (x : TabT tups kvs xs) {q : Str × Value} (hq : q ∈ kvs) {T : Addr} (e : q.2 = .ref T) : ∃ o, (T, o) ∈ tups := by
  obtain ⟨b, _, _, T', t1, t2, e', hm⟩ := all2_left x.tab hq
  rw [e] at e'; cases e'
  exact ⟨_, hm⟩
/-- none of a table's pairs stands in the base -/
noncomputable def AllNew (B : Heap) (kvs : List (Str × Value)) : Prop := ∀ q ∈ kvs, ∀ T, q.2 = .ref T → B.get? T = none
theorem tups_news {B h : Heap} {L : Addr} {m : Str → Option Value} {tups : List (Addr × Obj)} {kvs : List (Str × Value)} (F : Fr B L h m) (hn : AllNew B kvs) (x : ∀ p ∈ tups, h.get? p.1 = some p.2 ∧ (∃ vs, p.2 = tupOf vs) ∧ ∃ q ∈ kvs, q.2 = .ref p.1) : News B L h tups := fun p hp => by
  obtain ⟨z1, ⟨vs, z2⟩, q, z3, z4⟩ := x p hp
  refine ⟨z1, fun e => ?_, hn q z3 _ z4⟩
  obtain ⟨o, es, ep, g, hd, _⟩ := F.ns
  rw [e, g] at z1
  cases z1
  rw [z2] at hd; cases hd
theorem offT {h : Heap} {tups : List (Addr × Obj)} {b : Addr} {o : Obj} (x : ∀ p ∈ tups, h.get? p.1 = some p.2 ∧ ∃ vs, p.2 = tupOf vs) (e : h.get? b = some o) (ho : ∀ vs, o ≠ tupOf vs) : ∀ p ∈ tups, @Ne Nat p.1 b := fun p hp q => by
  obtain ⟨z1, vs, z2⟩ := x p hp
  rw [show p.1 = b from q, e] at z1
  cases z1
  exact ho vs z2
theorem AllNew.next {B h : Heap} {L T0 : Addr} {m : Str → Option Value} {kvs kvs' : List (Str × Value)} (F : Fr B L h m) (hn : AllNew B kvs) (h0 : B.get? T0 = none) (x : FromT h (.ref T0) kvs kvs') : AllNew B kvs' := fun q hq T e => by
  rcases x q hq with z | z | ⟨T', z, z1⟩
  · exact hn q z T e
  · rw [z] at e; cases e; exact h0
  · rw [z] at e; cases e; exact Fr.noB F z1
/-- what holds before each turn of the two loops -/
inductive CntJ (w : World) (B : Heap) (T : Tbl) (m0 : Str → Option Value) (m' : Str → Option Value) (nx : List (Addr × Obj)) : Prop
  | mk (D : Addr) (o : Obj) (kvs : List (Str × Value)) (tups : List (Addr × Obj)) (enx : nx = (D, o) :: tups) (hD : @Ne Nat D 51) (lo : (D == sysModules) = false) (ho : o.IsDictOf (strKind pw w) kvs) (ht : TabT tups kvs T) (hn : AllNew B kvs) (hp : ∀ p ∈ tups, ∃ vs, p.2 = tupOf vs)
      (u1 : Option Value) (em : m' = fun y => if y = Str.ofString "letter" then u1 else if y = Str.ofString "table" then some (.ref D) else m0 y) : CntJ w B T m0 m' nx
inductive CntL (w : World) (B : Heap) (T : Tbl) (a : Addr) (m' : Str → Option Value) (nx : List (Addr × Obj)) : Prop
  | mk (D : Addr) (o : Obj) (kvs : List (Str × Value)) (tups : List (Addr × Obj)) (enx : nx = (D, o) :: tups) (hD : @Ne Nat D 51) (lo : (D == sysModules) = false) (ho : o.IsDictOf (strKind pw w) kvs) (ht : TabT tups kvs T) (hn : AllNew B kvs) (hp : ∀ p ∈ tups, ∃ vs, p.2 = tupOf vs)
      (u1 : Option Value) (em : m' = fun y => if y = Str.ofString "letter" then u1 else if y = Str.ofString "table" then some (.ref D) else List.lookup y [((Str.ofString "words" : Str), Value.ref a)].reverse) : CntL w B T a m' nx
set_option maxHeartbeats 2000000 in
theorem counted_spec {w : World} {A : Around} {s : Shared} {B : Heap} {dd : Nat} {Q E : Value → Shared → Prop} (a : Addr) (vs : List Value) (nn : Nat) (la lb : List Nat)
    (ha : s.heap.get? a = some (W.listOf vs.toArray nn)) (hV : All2 SV vs [la, lb]) (hla : la.length ≤ 5) (hlb : lb.length ≤ 5)
    (G : Env0 w A B (dd + 3)) (kB : B.StaysIn s.heap) (hB : B.get? 51 = none) (hT : TabG s.heap 51 66 42) (hg : AllBare s.gens)
    (ret : ∀ h' tk' g' a kvs', AllBare g' → (a == sysModules) = false → s.heap.get? a = none → StayBut [51] s.heap h' → TabG h' 51 66 42 → h'.DictOf (strKind pw w) a kvs' → DT h' kvs' (lb.foldl cnt2 (la.foldl cnt1 [])) → AllNew s.heap kvs' → Q (.ref a) { s with heap := h', toks := tk', gens := g' }) :
    wpAny (model pw w) A (call (.ref 160) [.ref a]) Q E s := by
  refine enterK (binds := [("words", .ref a)]) G kB rfl rfl rfl rfl (fun L' h₁ G' F' N' => ?_)
  obtain ⟨ps, hP, hps⟩ := id hT
  have hB' : ∀ P ∈ [51], B.get? P = none := fun P hP => by rw [List.mem_singleton.mp hP]; exact hB
  have G2 := G'.stay (hide_base kB hB')
  have F2 := hide_fr (Ps := [51]) F'
  have N2 := hide_more F' hP (.head _) (hide_news (Ps := [51]) N')
  have hPL := ltN (a := 51) (b := L') (Nat.lt_of_lt_of_le (Heap.lt_size hP) F'.above)
  have haB : (hideAll s.heap [51]).get? a = some (W.listOf vs.toArray nn) := hideAll_get _ ha fun q => by
    rw [List.mem_singleton.mp q, hP] at ha; cases ha
  have hBn : (hideAll s.heap [51]).get? 51 = none := hideAll_none _ (.head _)
  clear F' N' ha hT
  obtain ⟨p, l, me, mg, mb, T⟩ := G2.T
  have X := G2.X
  have hh := G2.hh
  have hm0 : ∃ m0 : Str → Option Value, m0 = fun x => List.lookup x [((Str.ofString "words" : Str), Value.ref a)].reverse := ⟨_, rfl⟩
  obtain ⟨m0, hm0⟩ := hm0
  obtain ⟨v1, hv1, tv1, rfl⟩ := hV.get (i := 0) (b := la) rfl
  obtain ⟨v2, hv2, tv2, rfl⟩ := hV.get (i := 1) (b := lb) rfl
  have hvl : vs.length = 2 := hV.length
  iterate 5 walk1
  rename Fr _ _ _ _ => F1
  rename News _ _ _ _ => N1
  rename Obj.IsDictOf (PySem.strKind pw w) _ _ => hi1
  rename PyProof.V.FlatPairs PyData.str _ _ => fs1
  rename PyProof.V.FlatPairs PyData.int _ _ => fs2
  rename (_ == sysModules) = false => lo3
  rename_i D h9 o1 _ _ _
  clear fs1 fs2
  refine' For_G ?_
  iterate 3 walk1
  have hL : Heap.IsList _ a vs.toArray := ⟨_, F1.keep _ _ haB, rfl, _, rfl⟩
  refine tail_any hL.typeIs slot_list_getitem.lookup (wpAny_getItem_list hL (by omega) (by omega) (x := Value.str (ST la) tv1) (by simpa using hv1) ?_) (by with_unfolding_all rfl)
  have hN51 := N1 _ (.tail _ (.head _))
  have hD51 : @Ne Nat D 51 := fun q => by
    have e := (N1 _ (.head _)).1
    dsimp only at e
    rw [show D = 51 from q, hN51.1] at e
    cases e
    obtain ⟨_, _, _, hd, _⟩ := hi1
    cases hd
  refine strG hh (by passes_own) hg F1 (News.sub N1 (news' := [(D, o1)]) (fun p hp => by rw [List.mem_singleton.mp hp]; exact .head _)) (fun i h m' nx => TabG h 51 66 42 ∧ CntJ w (hideAll s.heap [51]) ((la.take i).foldl cnt1 []) m0 m' nx) ?_ ?_ ?_ ?_
  · refine fun o' => ⟨⟨ps, Heap.get?_push_of_some _ hN51.1, hps⟩, D, o1, [], [], rfl, hD51, lo3, hi1, ⟨.nil⟩, (fun _ h => nomatch h), (fun _ h => nomatch h), m0 (Str.ofString "letter"), ?_⟩
    subst hm0
    funext y
    by_cases h1 : y = Str.ofString "letter"
    · subst h1; rfl
    simp only [if_neg h1]
  · rintro i h h' m nx ⟨x, y⟩ st
    exact ⟨x.keep fun o e => st.2 _ _ (fun q => Nat.lt_irrefl _ (Nat.lt_of_lt_of_le (Heap.lt_size hN51.1) (Nat.le_of_eq q.symm))) e, y⟩
  · rintro i c t m₁ nx h tk g I oI hi hg1 hLI hn ⟨hTG, D2, o, kvs, tups, rfl, hD2, lo4, ho, hdt, hnw, htup, u1, rfl⟩ F3 N3
    clear F1 N1 hi1 hD51 hN51
    obtain ⟨ps2, hP2, hps2⟩ := id hTG
    have N3a : News (hideAll s.heap [51]) L' h ((51, tabObj ps2) :: (D2, o) :: (I, oI) :: tups) := fun p hp => by
      rcases List.mem_cons.mp hp with rfl | hp
      · exact ⟨hP2, (fun q => by rw [show 51 = L' from q] at hPL; exact Nat.lt_irrefl _ hPL), hBn⟩
      rcases List.mem_cons.mp hp with rfl | hp
      · exact N3 _ (.head _)
      rcases List.mem_cons.mp hp with rfl | hp
      · exact N3 _ (List.mem_append_right _ (.head _))
      · exact N3 _ (List.mem_append_left _ (.tail _ hp))
    have hne := hn _ (.head _)
    dsimp only at hne
    have hgT : ∀ p ∈ tups, h.get? p.1 = some p.2 ∧ ∃ vs, p.2 = tupOf vs := fun p hp => ⟨(N3a p (.tail _ (.tail _ (.tail _ hp)))).1, htup p hp⟩
    have ho51 := offT hgT hP2 (fun vs q => by cases q)
    have hoD2 := offT hgT (N3a _ (.tail _ (.head _))).1 (fun vs q => by
      obtain ⟨_, _, _, hd, _⟩ := ho
      rw [show o = tupOf vs from q] at hd; cases hd)
    have hoI : ∀ p ∈ tups, @Ne Nat p.1 I := fun p hp => hn p (.tail _ hp)
    clear N3
    iterate 11 walk1
    rename Fr _ _ _ _ => F4
    rename News _ _ _ _ => N4
    refine' kdn_eval (knd := strKind pw w) F4 N4 T.nolimit rfl rfl (List.cons_ne_nil _ _) (by decide) ?_
    intro D5 h5 o5 F5 N5 lt5 lo5 hd5
    have lt51 := ltN (a := 51) (b := D5) (lt5 _ (.head _))
    have lt52 := ltN (a := D2) (b := D5) (lt5 _ (.tail _ (.head _)))
    have lt53 := ltN (a := I) (b := D5) (lt5 _ (.tail _ (.tail _ (.head _))))
    have hoff5 : OwnOff tups [D5] := fun p hp b hb => by
      rw [List.mem_singleton.mp hb]
      exact Nat.ne_of_lt (lt5 _ (.tail _ (.tail _ (.tail _ hp))))
    clear F4 N4 lt5
    repeat walk1
    rename Fr _ _ _ _ => F6
    rename News _ _ _ _ => N6
    rename Obj.IsDictOf (PySem.strKind pw w) _ (strPairs _) => hd6
    rename_i T0 _ _ _ hlt _ _
    have hT0I := ltN (a := I) (b := T0) hlt.2.2.2.1
    have zT := N6 _ (.head _)
    have z5 := N6 _ (.tail _ (.head _))
    have zD := N6 _ (.tail _ (.tail _ (.tail _ (.head _))))
    have zI := N6 _ (.tail _ (.tail _ (.tail _ (.tail _ (.head _)))))
    have z51 := N6 _ (.tail _ (.tail _ (.head _)))
    have hlen : kvs.length ≤ 1000 := by
      have e1 := hdt.tab.length
      have e2 := cnt1_len (la.take i) []
      have e3 : (la.take i).length ≤ la.length := by rw [List.length_take]; omega
      rw [List.length_nil] at e2; omega
    refine addT_spec D2 D5 _ kvs _ (ST [c]) (1, 0) _ _ (Heap.dictOf_iff.mpr ⟨o, zD.1, ho⟩) (Heap.dictOf_iff.mpr ⟨_, z5.1, hd6⟩) zT.1 (hdt.dt N6 fun p hp => .tail _ (.tail _ (.tail _ (.tail _ (.tail _ hp))))) lo4 lo5 hlen G2 F6.keep hBn ⟨ps2, z51.1, hps2⟩ hg1 ?_
    intro h7 tk7 g7 a7 kvs7 hg7 lo7 n7 k7 hT7 hD7 hv7 hf7
    have hBn' : ∀ P ∈ [51], (hideAll s.heap [51]).get? P = none := fun P hP => by rw [List.mem_singleton.mp hP]; exact hBn
    have F7 := Fr.but F6 hBn' (fun q => by rw [List.mem_singleton.mp q] at hPL; exact Nat.lt_irrefl _ hPL) k7
    have hnw7 := AllNew.next F6 hnw zT.2.2 hf7
    obtain ⟨o7, g7a, hd7⟩ := Heap.dictOf_iff.mp hD7
    obtain ⟨tups7, hdt7, ht7⟩ := tups_of hv7
    obtain ⟨ps7, hP7, hps7⟩ := hT7
    have hI51 : I ≠ 51 := fun q => by rw [q] at hLI; exact Nat.lt_irrefl _ (Nat.lt_trans hLI hPL)
    have gI7 := k7 _ _ (fun q => hI51 (List.mem_singleton.mp q)) zI.1
    have n71 := fresh_ne n7 z51.1
    have n7I := fresh_ne n7 zI.1
    have gt7 : ∀ p ∈ tups7, h7.get? p.1 = some p.2 ∧ ∃ vs, p.2 = tupOf vs := fun p hp => ⟨(ht7 p hp).1, (ht7 p hp).2.1⟩
    have htI : ∀ p ∈ tups7, @Ne Nat p.1 I := fun p hp e => by
      obtain ⟨_, _, q, z3, z4⟩ := ht7 p hp
      rw [show p.1 = I from e] at z4
      rcases hf7 q z3 with z | z | ⟨T', z, z1⟩
      · obtain ⟨o', hm⟩ := hdt.mem z z4
        exact hoI _ hm rfl
      · rw [z] at z4; cases z4; exact Nat.lt_irrefl _ hT0I
      · rw [z] at z4; cases z4; rw [zI.1] at z1; cases z1
    have N7 : News (hideAll s.heap [51]) L' h7 ((51, tabObj ps7) :: (a7, o7) :: (I, oI) :: tups7) := fun p hp => by
      rcases List.mem_cons.mp hp with rfl | hp
      · exact ⟨hP7, z51.2⟩
      rcases List.mem_cons.mp hp with rfl | hp
      · exact ⟨g7a, Fr.neL F6 n7, Fr.noB F6 n7⟩
      rcases List.mem_cons.mp hp with rfl | hp
      · exact ⟨gI7, zI.2⟩
      · exact tups_news F7 hnw7 ht7 p hp
    clear F6 N6 F3 zT z5 zD zI z51 hd6 hd5 k7
    repeat walk1
    rename Fr _ _ _ _ => F8
    rename News _ _ _ _ => N8
    refine turn_endG (nx := (a7, o7) :: tups7) hg7 F8 (fun p hp => N8 p ?_) (fun p hp => ?_) ⟨⟨ps7, (N8 _ (.head _)).1, hps7⟩, a7, o7, kvs7, tups7, rfl, n71, lo7, hd7, ?_, hnw7, (fun p hp => (gt7 p hp).2), some (.str (ST [c]) t), ?_⟩
    · rcases List.mem_append.mp hp with hp | hp
      · rcases List.mem_cons.mp hp with rfl | hp
        · exact .tail _ (.head _)
        · exact .tail _ (.tail _ (.tail _ hp))
      · rw [List.mem_singleton.mp hp]; exact .tail _ (.tail _ (.head _))
    · rcases List.mem_cons.mp hp with rfl | hp
      · exact n7I
      · exact htI p hp
    · rw [fold_next hi]; exact hdt7
    · funext y
      by_cases h1 : y = Str.ofString "letter"
      · subst h1; rfl
      by_cases h2 : y = Str.ofString "table"
      · subst h2; rfl
      simp only [if_neg h1, if_neg h2]
  rintro m₁ nx h tk g hg1 ⟨hTG, D2, o, kvs, tups, rfl, hD2, lo4, ho, hdt, hnw, htup, u1, rfl⟩ F3 N3
  rw [List.take_length] at hdt
  clear F1 N1 hi1 hD51 hN51 hps hP
  subst hm0
  obtain ⟨ps, hP, hps⟩ := id hTG
  walk1
  refine' For_G ?_
  iterate 3 walk1
  have hL : Heap.IsList _ a vs.toArray := ⟨_, F3.keep _ _ haB, rfl, _, rfl⟩
  refine tail_any hL.typeIs slot_list_getitem.lookup (wpAny_getItem_list hL (by omega) (by omega) (x := Value.str (ST lb) tv2) (by simpa using hv2) ?_) (by with_unfolding_all rfl)
  refine strG hh (by passes_own) hg1 F3 N3 (fun i h m' nx => TabG h 51 66 42 ∧ CntL w (hideAll s.heap [51]) ((lb.take i).foldl cnt2 (la.foldl cnt1 [])) a m' nx) ?_ ?_ ?_ ?_
  · exact fun o' => ⟨⟨ps, Heap.get?_push_of_some _ hP, hps⟩, D2, o, kvs, tups, rfl, hD2, lo4, ho, hdt, hnw, htup, u1, rfl⟩
  · rintro i h h' m nx ⟨x, y⟩ st
    exact ⟨x.keep fun o e => st.2 _ _ (fun q => Nat.lt_irrefl _ (Nat.lt_of_lt_of_le (Heap.lt_size hP) (Nat.le_of_eq q.symm))) e, y⟩
  · rintro i c t m₁ nx h tk g I oI hi hg1 hLI hn ⟨hTG, D2, o, kvs, tups, rfl, hD2, lo4, ho, hdt, hnw, htup, u1, rfl⟩ F3 N3
    obtain ⟨ps2, hP2, hps2⟩ := id hTG
    have N3a : News (hideAll s.heap [51]) L' h ((51, tabObj ps2) :: (D2, o) :: (I, oI) :: tups) := fun p hp => by
      rcases List.mem_cons.mp hp with rfl | hp
      · exact ⟨hP2, (fun q => by rw [show 51 = L' from q] at hPL; exact Nat.lt_irrefl _ hPL), hBn⟩
      rcases List.mem_cons.mp hp with rfl | hp
      · exact N3 _ (.head _)
      rcases List.mem_cons.mp hp with rfl | hp
      · exact N3 _ (List.mem_append_right _ (.head _))
      · exact N3 _ (List.mem_append_left _ (.tail _ hp))
    have hne := hn _ (.head _)
    dsimp only at hne
    have hgT : ∀ p ∈ tups, h.get? p.1 = some p.2 ∧ ∃ vs, p.2 = tupOf vs := fun p hp => ⟨(N3a p (.tail _ (.tail _ (.tail _ hp)))).1, htup p hp⟩
    have ho51 := offT hgT hP2 (fun vs q => by cases q)
    have hoD2 := offT hgT (N3a _ (.tail _ (.head _))).1 (fun vs q => by
      obtain ⟨_, _, _, hd, _⟩ := ho
      rw [show o = tupOf vs from q] at hd; cases hd)
    have hoI : ∀ p ∈ tups, @Ne Nat p.1 I := fun p hp => hn p (.tail _ hp)
    clear N3
    iterate 11 walk1
    rename Fr _ _ _ _ => F4
    rename News _ _ _ _ => N4
    refine' kdn_eval (knd := strKind pw w) F4 N4 T.nolimit rfl rfl (List.cons_ne_nil _ _) (by decide) ?_
    intro D5 h5 o5 F5 N5 lt5 lo5 hd5
    have lt51 := ltN (a := 51) (b := D5) (lt5 _ (.head _))
    have lt52 := ltN (a := D2) (b := D5) (lt5 _ (.tail _ (.head _)))
    have lt53 := ltN (a := I) (b := D5) (lt5 _ (.tail _ (.tail _ (.head _))))
    have hoff5 : OwnOff tups [D5] := fun p hp b hb => by
      rw [List.mem_singleton.mp hb]
      exact Nat.ne_of_lt (lt5 _ (.tail _ (.tail _ (.tail _ hp))))
    clear F4 N4 lt5
    repeat walk1
    rename Fr _ _ _ _ => F6
    rename News _ _ _ _ => N6
    rename Obj.IsDictOf (PySem.strKind pw w) _ (strPairs _) => hd6
    rename_i T0 _ _ _ hlt _ _
    have hT0I := ltN (a := I) (b := T0) hlt.2.2.2.1
    have zT := N6 _ (.head _)
    have z5 := N6 _ (.tail _ (.head _))
    have zD := N6 _ (.tail _ (.tail _ (.tail _ (.head _))))
    have zI := N6 _ (.tail _ (.tail _ (.tail _ (.tail _ (.head _)))))
    have z51 := N6 _ (.tail _ (.tail _ (.head _)))
    have hlen : kvs.length ≤ 1000 := by
      have e1 := hdt.tab.length
      have e2 := cnt1_len la []
      have e4 := cnt2_len (lb.take i) (la.foldl cnt1 [])
      have e3 : (lb.take i).length ≤ lb.length := by rw [List.length_take]; omega
      rw [List.length_nil] at e2; omega
    refine addT_spec D2 D5 _ kvs _ (ST [c]) (0, 1) _ _ (Heap.dictOf_iff.mpr ⟨o, zD.1, ho⟩) (Heap.dictOf_iff.mpr ⟨_, z5.1, hd6⟩) zT.1 (hdt.dt N6 fun p hp => .tail _ (.tail _ (.tail _ (.tail _ (.tail _ hp))))) lo4 lo5 hlen G2 F6.keep hBn ⟨ps2, z51.1, hps2⟩ hg1 ?_
    intro h7 tk7 g7 a7 kvs7 hg7 lo7 n7 k7 hT7 hD7 hv7 hf7
    have hBn' : ∀ P ∈ [51], (hideAll s.heap [51]).get? P = none := fun P hP => by rw [List.mem_singleton.mp hP]; exact hBn
    have F7 := Fr.but F6 hBn' (fun q => by rw [List.mem_singleton.mp q] at hPL; exact Nat.lt_irrefl _ hPL) k7
    have hnw7 := AllNew.next F6 hnw zT.2.2 hf7
    obtain ⟨o7, g7a, hd7⟩ := Heap.dictOf_iff.mp hD7
    obtain ⟨tups7, hdt7, ht7⟩ := tups_of hv7
    obtain ⟨ps7, hP7, hps7⟩ := hT7
    have hI51 : I ≠ 51 := fun q => by rw [q] at hLI; exact Nat.lt_irrefl _ (Nat.lt_trans hLI hPL)
    have gI7 := k7 _ _ (fun q => hI51 (List.mem_singleton.mp q)) zI.1
    have n71 := fresh_ne n7 z51.1
    have n7I := fresh_ne n7 zI.1
    have gt7 : ∀ p ∈ tups7, h7.get? p.1 = some p.2 ∧ ∃ vs, p.2 = tupOf vs := fun p hp => ⟨(ht7 p hp).1, (ht7 p hp).2.1⟩
    have htI : ∀ p ∈ tups7, @Ne Nat p.1 I := fun p hp e => by
      obtain ⟨_, _, q, z3, z4⟩ := ht7 p hp
      rw [show p.1 = I from e] at z4
      rcases hf7 q z3 with z | z | ⟨T', z, z1⟩
      · obtain ⟨o', hm⟩ := hdt.mem z z4
        exact hoI _ hm rfl
      · rw [z] at z4; cases z4; exact Nat.lt_irrefl _ hT0I
      · rw [z] at z4; cases z4; rw [zI.1] at z1; cases z1
    have N7 : News (hideAll s.heap [51]) L' h7 ((51, tabObj ps7) :: (a7, o7) :: (I, oI) :: tups7) := fun p hp => by
      rcases List.mem_cons.mp hp with rfl | hp
      · exact ⟨hP7, z51.2⟩
      rcases List.mem_cons.mp hp with rfl | hp
      · exact ⟨g7a, Fr.neL F6 n7, Fr.noB F6 n7⟩
      rcases List.mem_cons.mp hp with rfl | hp
      · exact ⟨gI7, zI.2⟩
      · exact tups_news F7 hnw7 ht7 p hp
    clear F6 N6 F3 zT z5 zD zI z51 hd6 hd5 k7
    repeat walk1
    rename Fr _ _ _ _ => F8
    rename News _ _ _ _ => N8
    refine turn_endG (nx := (a7, o7) :: tups7) hg7 F8 (fun p hp => N8 p ?_) (fun p hp => ?_) ⟨⟨ps7, (N8 _ (.head _)).1, hps7⟩, a7, o7, kvs7, tups7, rfl, n71, lo7, hd7, ?_, hnw7, (fun p hp => (gt7 p hp).2), some (.str (ST [c]) t), ?_⟩
    · rcases List.mem_append.mp hp with hp | hp
      · rcases List.mem_cons.mp hp with rfl | hp
        · exact .tail _ (.head _)
        · exact .tail _ (.tail _ (.tail _ hp))
      · rw [List.mem_singleton.mp hp]; exact .tail _ (.tail _ (.head _))
    · rcases List.mem_cons.mp hp with rfl | hp
      · exact n7I
      · exact htI p hp
    · rw [fold_next hi]; exact hdt7
    · funext y
      by_cases h1 : y = Str.ofString "letter"
      · subst h1; rfl
      by_cases h2 : y = Str.ofString "table"
      · subst h2; rfl
      simp only [if_neg h1, if_neg h2]
  · rintro m₁ nx h tk g hg1 ⟨hTG, D2, o, kvs, tups, rfl, hD2, lo4, ho, hdt, hnw, htup, u1, rfl⟩ F3 N3
    rw [List.take_length] at hdt
    repeat walk1
    rename Fr _ _ _ _ => F4
    rename News _ _ _ _ => N4
    have hz1 := N4 _ (.head _)
    obtain ⟨ps9, hP9, hps9⟩ := id hTG
    have hgT : ∀ p ∈ tups, h.get? p.1 = some p.2 ∧ ∃ vs, p.2 = tupOf vs := fun p hp => ⟨(N4 p (.tail _ hp)).1, htup p hp⟩
    have ho51 := offT hgT hP9 (fun vs q => by cases q)
    exact ret _ _ g D2 kvs hg1 lo4 (notHidden hz1.2.2 hD2) (fun b o hb e => F4.keep _ _ (hideAll_get _ e hb)) hTG (Heap.dictOf_iff.mpr ⟨o, hz1.1, ho⟩) (hdt.dt N4 fun p hp => .tail _ hp) (fun q hq T e => by
      obtain ⟨o', hm⟩ := hdt.mem hq e
      exact notHidden (hnw q hq T e) (ho51 _ hm))
end Mine
end
end
section
open PySem PySem.W PyProof.Rows PySem.Calls PySem.Spec
set_option Elab.async false
set_option maxRecDepth 100000
noncomputable section
namespace Mine
noncomputable abbrev twoE (elt t1 i1 t2 i2 : Expr) (ifs : List Expr) (scope : Scope) (pos : Pos) : Expr := .ListComp elt [⟨t1, i1, [], 0⟩, ⟨t2, i2, ifs, 0⟩] scope pos
theorem compTurn_two0 (elt t1 i1 t2 i2 : Expr) (ifs : List Expr) (scope : Scope) (pos : Pos) (it acc : Value) (env : Env) :
    compTurn (twoE elt t1 i1 t2 i2 ifs scope pos) 0 it acc env = (do
      standAt i1.pos
      match ← pyNext it with
      | none => pure (.done .next)
      | some v =>
        letOwnedTupleGo t1 it v
        assign t1 env v
        let x ← eval i2 env
        standAt i2.pos
        let x ← foldedSetIterable i2 env x
        let _ ← runOwn (.compStart (twoE elt t1 i1 t2 i2 ifs scope pos) 1 (← holding [x] (pyIter x)) acc env) env
        again (.compLoop (twoE elt t1 i1 t2 i2 ifs scope pos) 0 it acc env)) := by rfl
theorem compTurn_two1 (elt t1 i1 t2 i2 : Expr) (ifs : List Expr) (scope : Scope) (pos : Pos) (it acc : Value) (env : Env) :
    compTurn (twoE elt t1 i1 t2 i2 ifs scope pos) 1 it acc env = (do
      standAt i2.pos
      match ← pyNext it with
      | none => pure (.done .next)
      | some v =>
        letOwnedTupleGo t2 it v
        assign t2 env v
        let mut ok := true
        for c in ifs do
          if ok then ok ← isTrue c env (eval c env)
        if ok then
          (do let _ ← call (.builtin "list.append") [acc, ← eval elt env])
        again (.compLoop (twoE elt t1 i1 t2 i2 ifs scope pos) 1 it acc env)) := by rfl
section
variable {prog : Program} {w : World} {A : Around} {E : Value → Shared → Prop} {R : Result → Shared → Prop} {s : Shared} {elt t1 i1 t2 i2 : Expr} {ifs : List Expr} {scope : Scope} {pos : Pos} {it acc : Value} {env : Env}
theorem codeAny_compLoop_two0 (I : Nat → Shared → Prop)
    (turn : ∀ n s, I n s → wpAny (model prog w) A (pyNext it) (fun r s₁ => match r with
      | none => R (.ok .next) s₁
      | some v => wpAny (model prog w) A (assign t1 env v) (fun _ s₂ =>
          wpAny (model prog w) A (eval i2 env) (fun x s₃ => wpAny (model prog w) A (pyIter x) (fun it2 s₄ =>
            codeAny (model prog w) A (.compStart (twoE elt t1 i1 t2 i2 ifs scope pos) 1 it2 acc env) (fun r s' => match r with | .ok _ => ∃ m, m < n ∧ I m s' | .error e => cameBackBy (model prog w) A env (notedBy (model prog w) A env fun e s' => R (.error e) s') e s') s₄)
            (notedBy (model prog w) A env fun e s' => R (.error e) s') s₃) (notedBy (model prog w) A env fun e s' => R (.error e) s') s₂) (notedBy (model prog w) A env fun e s' => R (.error e) s') s₁) (notedBy (model prog w) A env fun e s' => R (.error e) s') s)
    (n : Nat) (h : I n s) (ht : ∀ v, letOwnedTupleGo t1 it v = pure () := by intro _; rfl) (hs : ∀ x, foldedSetIterable i2 env x = pure x := by intro _; rfl) :
    codeAny (model prog w) A (.compLoop (twoE elt t1 i1 t2 i2 ifs scope pos) 0 it acc env) R s := by
  refine codeAny_loop rfl I (fun n s hI => ?_) n h
  show wpAny _ A ((compTurn (twoE elt t1 i1 t2 i2 ifs scope pos) 0 it acc env).onRaise (fun x => do noteFrame x env; theTreesLotGoes x)) _ _ s
  refine wpAny_noted ?_
  rw [compTurn_two0]
  refine wpAny_bind (wpAny_standAt (wpAny_bind (wpAny_mono (turn n s hI) (fun r s₁ h₁ => ?_) fun _ _ h' => h')))
  cases r with
  | none => exact wpAny_pure h₁
  | some v =>
    refine wpAny_bind (wpAny_of_eq (ht v) ?_)
    refine wpAny_bind (wpAny_mono h₁ (fun _ s₂ h₂ => wpAny_bind (wpAny_mono h₂ (fun x s₃ h₃ => wpAny_bind (wpAny_standAt (wpAny_bind (wpAny_of_eq (hs x) (wpAny_bind (wpAny_holding (wpAny_mono h₃ (fun it2 s₄ h₄ => ?_) fun _ _ h' => h'))))))) fun _ _ h' => h')) fun _ _ h' => h')
    refine wpAny_bind (wpAny_runOwn (codeAny_mono h₄ fun r s' hr => ?_))
    cases r with
    | ok f => exact wpAny_pure ⟨rfl, hr⟩
    | error e => exact hr
theorem codeAny_compStart_two1
    (h0 : codeAny (model prog w) A (.compLoop (twoE elt t1 i1 t2 i2 ifs scope pos) 1 it acc env) R s)
    (h : wpAny (model prog w) A (pyIter it) (fun it' s' => codeAny (model prog w) A (.compLoop (twoE elt t1 i1 t2 i2 ifs scope pos) 1 it' acc env) R s')
      (notedBy (model prog w) A env fun x s' => R (.error x) s') s) :
    codeAny (model prog w) A (.compStart (twoE elt t1 i1 t2 i2 ifs scope pos) 1 it acc env) R s := by
  refine codeAny_of_tree ?_
  show wpAny _ _ ((compStart (twoE elt t1 i1 t2 i2 ifs scope pos) 1 it acc env).onRaise (fun x => do noteFrame x env; standAt theWindowsPlace)) _ _ s
  refine wpAny_notedAt ?_
  unfold compStart
  show wpAny _ _ (ask >>= _) _ _ s
  refine wpAny_bind (wpAny_askSetting (wpAny_ite ?_))
  split
  · first
      | exact wpAny_bind (wpAny_pure (wpAny_pure (And.intro rfl h0)))
      | exact wpAny_pure (And.intro rfl h0)
  · first
      | exact wpAny_bind (wpAny_rule (wpAny_bind (wpAny_standAt (wpAny_bind (wpAny_mono h (fun it' s' h' => wpAny_pure (And.intro rfl h')) fun _ _ x => x)))))
      | (refine wpAny_bind (wpAny_rule ?_); show wpAny _ _ (standAt i2.pos >>= _) _ _ s; exact wpAny_bind (wpAny_standAt (wpAny_bind (wpAny_mono h (fun it' s' h' => wpAny_pure (And.intro rfl h')) fun _ _ x => x))))
theorem codeAny_compLoop_two1 {D : Addr} (I : Nat → Shared → Prop)
    (turn : ∀ n s, I n s → wpAny (model prog w) A (pyNext it) (fun r s₁ => match r with
      | none => R (.ok .next) s₁
      | some v => wpAny (model prog w) A (letOwnedTupleGo t2 it v) (fun _ s₁' => wpAny (model prog w) A (assign t2 env v) (fun _ s₂ =>
          compEnd prog w A D elt ifs env (notedBy (model prog w) A env fun e s' => R (.error e) s') (fun s₅ => ∃ m, m < n ∧ I m s₅) s₂) (notedBy (model prog w) A env fun e s' => R (.error e) s') s₁') (notedBy (model prog w) A env fun e s' => R (.error e) s') s₁) (notedBy (model prog w) A env fun e s' => R (.error e) s') s)
    (n : Nat) (h : I n s) :
    codeAny (model prog w) A (.compLoop (twoE elt t1 i1 t2 i2 ifs scope pos) 1 it (.ref D) env) R s := by
  refine codeAny_loop rfl I (fun n s hI => ?_) n h
  show wpAny _ A ((compTurn (twoE elt t1 i1 t2 i2 ifs scope pos) 1 it (.ref D) env).onRaise (fun x => do noteFrame x env; theTreesLotGoes x)) _ _ s
  refine wpAny_noted ?_
  rw [compTurn_two1]
  refine wpAny_bind (wpAny_standAt (wpAny_bind (wpAny_mono (turn n s hI) (fun r s₁ h₁ => ?_) fun _ _ h' => h')))
  cases r with
  | none => exact wpAny_pure h₁
  | some v =>
    refine wpAny_bind (wpAny_mono h₁ (fun _ s₁' h₁' => ?_) fun _ _ h' => h')
    refine wpAny_bind (wpAny_mono h₁' (fun _ s₂ h₂ => wpAny_bind (wpAny_mono h₂ (fun ok s₃ h₃ => ?_) fun _ _ h' => h')) fun _ _ h' => h')
    cases ok with
    | false => exact wpAny_pure ⟨rfl, h₃⟩
    | true =>
      exact wpAny_bind (wpAny_bind (wpAny_mono h₃ (fun x s₄ h₄ => wpAny_bind (wpAny_mono h₄ (fun _ s₅ h₅ => wpAny_pure (wpAny_pure ⟨rfl, h₅⟩)) fun _ _ h' => h')) fun _ _ h' => h'))
end
/-- what a turn of the outer clause comes to: the inner clause -/
noncomputable def compEnd2 (prog : Program) (w : World) (A : Around) (D : Addr) (e i2 : Expr) (cenv : Env) (E' : Value → Shared → Prop) (K : Shared → Prop) (s : Shared) : Prop :=
  wpAny (model prog w) A (eval i2 cenv) (fun x s₃ => wpAny (model prog w) A (pyIter x) (fun it2 s₄ =>
    codeAny (model prog w) A (.compStart e 1 it2 (.ref D) cenv) (fun r s' => match r with | .ok _ => K s' | .error e => cameBackBy (model prog w) A cenv E' e s') s₄) E' s₃) E' s
section
variable {prog : Program} {w : World} {A : Around} {E : Value → Shared → Prop} {s : Shared} {env : Env}
/-- what holds before each turn of a block, once its two new objects are known -/
inductive CompJ2In (prog : Program) (w : World) (A : Around) (g : Heap) (elt : Expr) (x : Str) (px : Pos) (iter t2 i2 : Expr) (ifs : List Expr) (pos : Pos) (scope : Scope) (cl : List (Str × Addr)) (env : Env) (R : Addr → Addr → Shared → Prop) (s₂ : Shared) (fp : List Addr) (n : Nat) (P : Nat → Value → Prop) (D C : Addr) (St : Nat → Heap → Prop) : Prop
  | mk (J : Nat → (Str → Option Value) → List (Addr × Obj) → Prop) (h0 : J 0 (fun _ => none) [(D, PySem.W.listOf #[] 0)])
      (turn : ∀ i v m₁ nx h tk own (K : Shared → Prop) E', i < n → P i v → (∀ p ∈ own, p.1 ∈ fp) → (∀ b ∈ fp, g.get? b = none → ∀ o, h.get? b = some o → (b, o) ∈ own) → (∀ p ∈ nx, p.1 ∉ fp) → J i m₁ nx → Fr g C h (fun y => if y = x then some v else m₁ y) → News g C h (nx ++ own) → St (i + 1) h →
        (∀ h' tk' m' nx', Fr g C h' m' → News g C h' (nx' ++ own) → (∀ p ∈ nx', p.1 ∉ fp) → J (i + 1) m' nx' → K { s₂ with heap := h', toks := tk' }) → compEnd2 prog w A D (twoE elt (.Name x px) iter t2 i2 ifs scope pos) i2 (compEnvC scope cl C env) E' K { s₂ with heap := h, toks := tk })
      (done : ∀ m₁ nx h tk, J n m₁ nx → Fr g C h m₁ → News g C h nx → R D C { s₂ with heap := h, toks := tk }) : CompJ2In prog w A g elt x px iter t2 i2 ifs pos scope cl env R s₂ fp n P D C St
inductive CompJ2 (prog : Program) (w : World) (A : Around) (g : Heap) (elt : Expr) (x : Str) (px : Pos) (iter t2 i2 : Expr) (ifs : List Expr) (pos : Pos) (scope : Scope) (cl : List (Str × Addr)) (env : Env) (R : Addr → Addr → Shared → Prop) (it : Value) (s₂ : Shared) : Prop
  | mk (I : Addr) (fp : List Addr) (n : Nat) (P : Nat → Value → Prop) (St : Nat → Heap → Prop) (e : it = .ref I) (f0 : Walks prog w A I fp [I] n P St) (f1 : St 0 s₂.heap) (f2 : ∀ b ∈ fp, b < s₂.heap.objs.size) (f3 : ∀ b o, g.get? b = some o → s₂.heap.get? b = some o) (f4 : g.objs.size ≤ s₂.heap.objs.size) (f5 : g.get? I = none)
      (go : ∀ D C, D ∉ fp → C ∉ fp → g.get? D = none → D ≠ C → g.get? C = none → CompJ2In prog w A g elt x px iter t2 i2 ifs pos scope cl env R s₂ fp n P D C St) : CompJ2 prog w A g elt x px iter t2 i2 ifs pos scope cl env R it s₂
theorem compBlock2 {elt iter t2 i2 : Expr} {x : Str} {px : Pos} {ifs : List Expr} {scope : Scope} {cl : List (Str × Addr)} {pos : Pos} {g : Heap} {it : Value} {s₂ : Shared} {R : Addr → Addr → Shared → Prop} {RR : Value → Addr → Result → Shared → Prop}
    (hs2 : ∀ (e : Env) x, foldedSetIterable i2 e x = pure x) (hcell : ∀ y ∈ scope.names, y.2 ≠ .cell) (hkind : scope.kind = .function) (hx : scope.names.lookup x = some .local)
    (h₂ : CompJ2 prog w A g elt x px iter t2 i2 ifs pos scope cl env R it s₂) (hRR : ∀ D C s', R D C s' → RR (.ref D) C (.ok .next) s') :
    wpAny (model prog w) A (newList []) (fun acc s₃ => wpAny (model prog w) A (newFunctionEnv scope env.globals cl [] env.qual none .none (some env)) (fun cenv s₄ =>
      codeAny (model prog w) A (.compStart (.ListComp elt [⟨.Name x px, iter, [], 0⟩, ⟨t2, i2, ifs, 0⟩] scope pos) 0 it acc { cenv with scope := relabel scope env }) (RR acc cenv.locals) s₄) E s₃) E s₂ := by
  obtain ⟨I, fp, n, P, St, rfl, W, hst, hfp, hg, hgs, hI, h₂⟩ := h₂
  refine wpAny_newObj_type (wpAny_newFunctionEnv hcell (by intro y hy; simp at hy) (fun h₁ hns₁ hsb₁ => ?_) hkind)
  dsimp only at hns₁ hsb₁ ⊢
  generalize hH2 : s₂.heap.push { cls := .type "list", dict := none, data := .seq ([] : List Value).toArray } = H2 at hns₁ hsb₁ ⊢
  have hC : H2.objs.size = s₂.heap.objs.size + 1 := by rw [← hH2, Heap.size_push]
  have hDC : s₂.heap.objs.size ≠ H2.objs.size := by rw [hC]; exact Nat.ne_of_lt (Nat.lt_succ_self _)
  have below : ∀ b, b < s₂.heap.objs.size → b ≠ H2.objs.size ∧ b ≠ s₂.heap.objs.size := fun b hb => ⟨by rw [hC]; exact Nat.ne_of_lt (Nat.lt_succ_of_lt hb), Nat.ne_of_lt hb⟩
  have hDf : s₂.heap.objs.size ∉ fp := fun hm => Nat.lt_irrefl _ (hfp _ hm)
  have hCf : H2.objs.size ∉ fp := fun hm => by have := hfp _ hm; rw [hC] at this; exact Nat.lt_irrefl _ (Nat.lt_of_succ_lt this)
  have old : ∀ b o, s₂.heap.get? b = some o → h₁.get? b = some o := fun b o e => hsb₁.extBut b o (below b (Heap.lt_size e)).1 (Heap.get?_push_of_some _ (hH2 ▸ Heap.get?_push_of_some _ e))
  have hacc : h₁.get? s₂.heap.objs.size = some (PySem.W.listOf #[] 0) := hsb₁.extBut _ _ hDC (Heap.get?_push_of_some _ (hH2 ▸ Heap.get?_push_size _ rfl))
  have hst₁ : St 0 h₁ := W.frame _ _ _ hst fun b _ o e => old b o e
  have fresh : ∀ a, s₂.heap.objs.size ≤ a → g.get? a = none := fun a ha => Heap.get?_none_of_le (Nat.le_trans hgs ha)
  obtain ⟨J, hJ, turn, done⟩ := h₂ s₂.heap.objs.size H2.objs.size hDf hCf (fresh _ (Nat.le_refl _)) hDC (fresh _ (by rw [hC]; exact Nat.le_succ _))
  have F₁ : Fr g H2.objs.size h₁ (fun _ => none) := ⟨hns₁, fun b o e => old b o (hg b o e), by rw [hC]; exact Nat.le_succ_of_le hgs⟩
  have N₁ : News g H2.objs.size h₁ [(s₂.heap.objs.size, PySem.W.listOf #[] 0)] := fun p hp => by rw [List.mem_singleton.mp hp]; exact ⟨hacc, hDC, fresh _ (Nat.le_refl _)⟩
  have loop : ∀ s₃ : Shared, s₃ = { s₂ with heap := h₁, toks := s₂.toks + ([] : List (Str × Value)).length } →
      codeAny (model prog w) A (.compLoop (.ListComp elt [⟨.Name x px, iter, [], 0⟩, ⟨t2, i2, ifs, 0⟩] scope pos) 0 (.ref I) (.ref s₂.heap.objs.size) (compEnvC scope cl H2.objs.size env))
        (RR (.ref s₂.heap.objs.size) H2.objs.size) s₃ := by
    rintro s₃ rfl
    refine walkJ (s := { s₂ with heap := h₁, toks := s₂.toks + ([] : List (Str × Value)).length }) (g := g) (C := H2.objs.size)
      (E₀ := notedBy (model prog w) A (compEnvC scope cl H2.objs.size env) fun e s' => RR (.ref s₂.heap.objs.size) H2.objs.size (.error e) s')
      (R₀ := fun s' => RR (.ref s₂.heap.objs.size) H2.objs.size (.ok .next) s')
      (BODY := fun v K s₁ => wpAny (model prog w) A (assign (.Name x px) (compEnvC scope cl H2.objs.size env) v) (fun _ s₂' => compEnd2 prog w A s₂.heap.objs.size (twoE elt (.Name x px) iter t2 i2 ifs scope pos) i2 (compEnvC scope cl H2.objs.size env) (notedBy (model prog w) A (compEnvC scope cl H2.objs.size env) fun e s' => RR (.ref s₂.heap.objs.size) H2.objs.size (.error e) s') K s₂') (notedBy (model prog w) A (compEnvC scope cl H2.objs.size env) fun e s' => RR (.ref s₂.heap.objs.size) H2.objs.size (.error e) s') s₁)
      J W hCf (fun b hb => by rw [List.mem_singleton.mp hb]; exact hI) (fun q hq => by rw [List.mem_singleton.mp hq]; exact hDf) hst₁ F₁ N₁ hJ
      (fun I turn n h => codeAny_compLoop_two0 I turn n h (by intro _; rfl) (hs2 _)) (fun i v m₁ nx h tk own K hi hP ho hown hn hJ' F' N' hst' hK => ?_) (fun m₁ nx h tk hJ' F' N' hn => hRR _ _ _ (done m₁ nx h tk hJ' F' N'))
    refine wpAny_assign_Name (wpAny_storeName_local (lookup_relabel_local hx) F'.ns (fun h₃ hn₃ hs₃ => ?_) (by simp [compEnvC, relabel, hkind]))
    exact turn i v m₁ nx h₃ _ own K _ hi hP ho (fun b hb hn' o e => hown b hb hn' o ((hs₃.2 b fun q => hCf (by rw [show b = H2.objs.size from q] at hb; exact hb)).symm.trans e)) hn hJ' (F'.set hn₃ hs₃) (N'.set hs₃) (W.frame _ _ _ hst' fun b hb o e => (hs₃.2 b fun q => hCf (by rw [show b = H2.objs.size from q] at hb; exact hb)).trans e) hK
  exact codeAny_compStart_list (loop _ rfl) (W.self 0 _ _ _ hst₁ (loop _ rfl))
theorem assignListCompJ2 {elt iter t2 i2 : Expr} {x y : Str} {px py : Pos} {ifs : List Expr} {scope : Scope} {cl : List (Str × Addr)} {pos spos : Pos} {Q : Flow → Shared → Prop}
    (hs2 : ∀ (e : Env) x, foldedSetIterable i2 e x = pure x) (hsw : swapsWith (.ListComp elt [⟨.Name x px, iter, [], 0⟩, ⟨t2, i2, ifs, 0⟩] scope pos) (some (.Name y py)) spos.line env = pure true)
    (hclos : closureFor scope env = pure cl) (hcell : ∀ y ∈ scope.names, y.2 ≠ .cell) (hkind : scope.kind = .function)
    (hnames : ∀ y ∈ scope.names, y.2 = .local → scope.names.lookup y.1 = some .local) (hx : scope.names.lookup x = some .local)
    (h : wpAny (model prog w) A (eval iter env) (fun xv s₁ => wpAny (model prog w) A (pyIter xv) (fun it s₂ => CompJ2 prog w A s₁.heap elt x px iter t2 i2 ifs pos scope cl env (AssignR prog w A E env y py Q) it s₂) E s₁) E s)
    (hs : ∀ x, foldedSetIterable iter env x = pure x := by intro _; rfl) :
    wpAny (model prog w) A (exec (.Assign [.Name y py] (.ListComp elt [⟨.Name x px, iter, [], 0⟩, ⟨t2, i2, ifs, 0⟩] scope pos) spos) env) Q E s := by
  rw [exec_Assign_Name_used _ _ _ _ hsw]
  refine wpAny_bind (wpAny_standAt (wpAny_bind ?_))
  show wpAny _ A (do let _ ← comprehension (.ListComp elt [⟨.Name x px, iter, [], 0⟩, ⟨t2, i2, ifs, 0⟩] scope pos) scope env _ (newList []) false (eval iter env) (some (assign (.Name y py) env))) _ _ s
  refine wpAny_bind (wpAny_mono (wpAny_comprehension_free (use := some (assign (.Name y py) env)) (Q := fun _ s' => Q .next s') rfl hs hclos hkind hnames
    (wpAny_mono h (fun xv s₁ h₁ => wpAny_mono h₁ (fun it s₂ h₂ => ?_) fun _ _ e => e) fun _ _ e => e)) (fun _ s' hq => wpAny_pure (wpAny_pure hq)) fun _ _ e => e)
  exact compBlock2 (RR := fun acc C => compPost (model prog w) A E (some (assign (.Name y py) env)) (fun _ s' => Q .next s') acc C) hs2 hcell hkind hx h₂ fun D C s' h => h
theorem comp_src2 {elt iter t2 i2 : Expr} {x : Str} {px pos : Pos} {ifs : List Expr} {scope : Scope} {cl : List (Str × Addr)} {R : Addr → Addr → Shared → Prop} {n : Nat} {fp : List Addr} {P : Nat → Value → Prop} {St : Nat → Heap → Prop} {s₂ : Shared} {o₂ : Obj} (h2 : s₂ = { s with heap := s.heap.push o₂ })
    (W : Walks prog w A s.heap.objs.size fp [s.heap.objs.size] n P St) (hfp : ∀ b ∈ fp, b = s.heap.objs.size ∨ (s.heap.get? b).isSome) (hI : ∀ i h, St i h → ∃ o, h.get? s.heap.objs.size = some o) (hst : St 0 s₂.heap)
    (J : Addr → Nat → (Str → Option Value) → List (Addr × Obj) → Prop) (h0 : ∀ D, J D 0 (fun _ => none) [(D, PySem.W.listOf #[] 0)])
    (turn : ∀ D C I i v m₁ nx h tk oI (K : Shared → Prop) E', i < n → P i v → (@Ne Nat D I) → (∀ p ∈ nx, @Ne Nat p.1 I) → J D i m₁ nx → Fr s.heap C h (fun y => if y = x then some v else m₁ y) → News s.heap C h (nx ++ [(I, oI)]) →
        (∀ h' tk' m' nx', Fr s.heap C h' m' → News s.heap C h' (nx' ++ [(I, oI)]) → (∀ p ∈ nx', @Ne Nat p.1 I) → J D (i + 1) m' nx' → K { s with heap := h', toks := tk' }) → compEnd2 prog w A D (twoE elt (.Name x px) iter t2 i2 ifs scope pos) i2 (compEnvC scope cl C env) E' K { s with heap := h, toks := tk })
    (done : ∀ D C m₁ nx h tk, J D n m₁ nx → Fr s.heap C h m₁ → News s.heap C h nx → R D C { s with heap := h, toks := tk }) :
    CompJ2 prog w A s.heap elt x px iter t2 i2 ifs pos scope cl env R (.ref s.heap.objs.size) s₂ := by
  subst h2
  have hIf : s.heap.objs.size ∈ fp := W.sub _ (List.mem_singleton.mpr rfl)
  refine ⟨_, fp, n, P, St, rfl, W, hst, ?_, fun b o e => Heap.get?_push_of_some _ e, ?_, Heap.get?_none_of_le (Nat.le_refl _), fun D C hD hC _ _ _ => ⟨J D, h0 D, ?_, ?_⟩⟩
  · intro b hb
    show b < (s.heap.push _).objs.size
    rw [Heap.size_push]
    rcases hfp b hb with rfl | hb
    · exact Nat.lt_succ_self _
    · obtain ⟨o, e⟩ := Option.isSome_iff_exists.mp hb
      exact Nat.lt_succ_of_lt (Heap.lt_size e)
  · show _ ≤ (s.heap.push _).objs.size
    rw [Heap.size_push]; exact Nat.le_succ _
  · intro i v m₁ nx h tk own K E' hi hP ho hown hn hJ F N hst' hK
    have own1 : ∀ p ∈ own, p.1 = s.heap.objs.size := fun p hp => by
      rcases hfp _ (ho p hp) with e | e
      · exact e
      · rw [(N p (List.mem_append_right _ hp)).2.2] at e; cases e
    obtain ⟨oI, hoI⟩ := hI _ _ hst'
    have hm := hown _ hIf (Heap.get?_none_of_le (Nat.le_refl _)) _ hoI
    obtain ⟨N1, o1⟩ := own_one hoI own1 hm N
    refine turn D C s.heap.objs.size i v m₁ nx h tk oI K E' hi hP (fun q => hD (q ▸ hIf)) (fun p hp e => hn p hp (e ▸ hIf)) hJ F N1 fun h' tk' m' nx' F' N' hn' hJ' => ?_
    refine hK h' tk' m' nx' F' (fun p hp => ?_) (fun p hp hq => ?_) hJ'
    · rcases List.mem_append.mp hp with hp | hp
      · exact N' p (List.mem_append_left _ hp)
      · rw [o1 p hp]; exact N' _ (List.mem_append_right _ (.head _))
    · rcases hfp _ hq with e | e
      · exact hn' p hp e
      · rw [(N' p (List.mem_append_left _ hp)).2.2] at e; cases e
  · exact fun m₁ nx h tk hJ F N => done D C m₁ nx h tk hJ F N
theorem comp_list2 {elt iter t2 i2 : Expr} {x : Str} {px pos : Pos} {ifs : List Expr} {scope : Scope} {cl : List (Str × Addr)} {R : Addr → Addr → Shared → Prop} {l : Addr} {items : Array Value} (hh : A.handled = none) (hl : s.heap.IsList l items)
    (J : Addr → Nat → (Str → Option Value) → List (Addr × Obj) → Prop) (h0 : ∀ D, J D 0 (fun _ => none) [(D, PySem.W.listOf #[] 0)])
    (turn : ∀ D C I i v m₁ nx h tk oI (K : Shared → Prop) E', i < items.size → items[i]? = some v → (@Ne Nat D I) → (∀ p ∈ nx, @Ne Nat p.1 I) → J D i m₁ nx → Fr s.heap C h (fun y => if y = x then some v else m₁ y) → News s.heap C h (nx ++ [(I, oI)]) →
        (∀ h' tk' m' nx', Fr s.heap C h' m' → News s.heap C h' (nx' ++ [(I, oI)]) → (∀ p ∈ nx', @Ne Nat p.1 I) → J D (i + 1) m' nx' → K { s with heap := h', toks := tk' }) → compEnd2 prog w A D (twoE elt (.Name x px) iter t2 i2 ifs scope pos) i2 (compEnvC scope cl C env) E' K { s with heap := h, toks := tk })
    (done : ∀ D C m₁ nx h tk, J D items.size m₁ nx → Fr s.heap C h m₁ → News s.heap C h nx → R D C { s with heap := h, toks := tk }) :
    wpAny (model prog w) A (pyIter (.ref l)) (fun it s₂ => CompJ2 prog w A s.heap elt x px iter t2 i2 ifs pos scope cl env R it s₂) E s := by
  have hlt : l < s.heap.objs.size := by obtain ⟨_, e, _⟩ := hl; exact Heap.lt_size e
  refine wpAny_pyIter_list hl ?_
  refine comp_src2 rfl (Walks.list hh s.heap.objs.size l (Nat.ne_of_lt hlt) items) (fun b hb => ?_) (fun i h st => by obtain ⟨o, e, _⟩ := st.1; exact ⟨o, e⟩) ⟨⟨_, Heap.get?_push_size _ rfl, rfl, rfl⟩, hl.push _⟩ J h0 turn done
  rcases List.mem_cons.mp hb with e | hb
  · exact .inl e
  · rw [List.mem_singleton.mp hb]; obtain ⟨o, e, _⟩ := hl; exact .inr (by rw [e]; rfl)
end
end Mine
end
end
section
open PySem PySem.W PyProof.Rows PySem.Calls PySem.Spec
set_option Elab.async false
set_option maxRecDepth 100000
noncomputable section
namespace Mine
section
variable {prog : Program} {w : World} {A : Around} {s : Shared} {elt t1 i1 t2 i2 : Expr} {ifs : List Expr} {scope : Scope} {pos : Pos} {cenv : Env}
theorem inner_list {g : Heap} {l D : Addr} {items : Array Value} {E' : Value → Shared → Prop} {K₀ : Shared → Prop} {m₀ : Str → Option Value} {news : List (Addr × Obj)} (hh : A.handled = none)
    (F : Fr g cenv.locals s.heap m₀) (N : News g cenv.locals s.heap news) (hl : g.IsList l items) (J : Nat → (Str → Option Value) → List (Addr × Obj) → Prop) (hJ : J 0 m₀ news)
    (turn : ∀ i v m₁ nx h tk I oI (K : Shared → Prop) E'', items[i]? = some v → (∀ p ∈ nx, @Ne Nat p.1 I) → J i m₁ nx → Fr g cenv.locals h m₁ → News g cenv.locals h (nx ++ [(I, oI)]) →
      (∀ h' tk' m' nx', Fr g cenv.locals h' m' → News g cenv.locals h' (nx' ++ [(I, oI)]) → (∀ p ∈ nx', @Ne Nat p.1 I) → J (i + 1) m' nx' → K { s with heap := h', toks := tk' }) →
      wpAny (model prog w) A (assign t2 cenv v) (fun _ s₂ => compEnd prog w A D elt ifs cenv E'' K s₂) E'' { s with heap := h, toks := tk })
    (done : ∀ m₁ nx h tk, J items.size m₁ nx → Fr g cenv.locals h m₁ → News g cenv.locals h nx → (∀ p ∈ nx, @Ne Nat p.1 s.heap.objs.size) → K₀ { s with heap := h, toks := tk }) :
    wpAny (model prog w) A (pyIter (.ref l)) (fun it2 s₄ => codeAny (model prog w) A (.compStart (twoE elt t1 i1 t2 i2 ifs scope pos) 1 it2 (.ref D) cenv) (fun r s' => match r with | .ok _ => K₀ s' | .error e => cameBackBy (model prog w) A cenv E' e s') s₄) E' s := by
  have hls : s.heap.IsList l items := hl.at fun o e => F.keep _ _ e
  have hlt : l < s.heap.objs.size := by obtain ⟨_, e, _⟩ := hls; exact Heap.lt_size e
  have hlg : l < g.objs.size := by obtain ⟨_, e, _⟩ := hl; exact Heap.lt_size e
  refine wpAny_pyIter_list hls ?_
  have W := Walks.list (prog := prog) (w := w) hh s.heap.objs.size l (Nat.ne_of_lt hlt) items
  have hI : ∀ p ∈ news, p.1 ∉ [s.heap.objs.size, l] := fun p hp hq => by
    simp only [List.mem_cons, List.not_mem_nil, or_false] at hq
    rcases hq with q | q
    · exact absurd (Heap.lt_size (N p hp).1) (q ▸ Nat.lt_irrefl _)
    · have := (N p hp).2.2; rw [q] at this; obtain ⟨_, e, _⟩ := hl; rw [e] at this; cases this
  have loop : ∀ (s₃ : Shared) (o₂ : Obj), s₃ = { s with heap := s.heap.push o₂ } → (s.heap.push o₂).IsListIter s.heap.objs.size l 0 → codeAny (model prog w) A (.compLoop (twoE elt t1 i1 t2 i2 ifs scope pos) 1 (.ref s.heap.objs.size) (.ref D) cenv)
      (fun r s' => match r with | .ok _ => K₀ s' | .error e => cameBackBy (model prog w) A cenv E' e s') s₃ := by
    rintro s₃ o₂ rfl hit
    refine walkJ (s := { s with heap := s.heap.push o₂ }) (g := g) (C := cenv.locals)
      (E₀ := notedBy (model prog w) A cenv fun e s' => cameBackBy (model prog w) A cenv E' e s') (R₀ := K₀)
      (BODY := fun v K s₁ => wpAny (model prog w) A (letOwnedTupleGo t2 (.ref s.heap.objs.size) v) (fun _ s₁' => wpAny (model prog w) A (assign t2 cenv v) (fun _ s₂ => compEnd prog w A D elt ifs cenv (notedBy (model prog w) A cenv fun e s' => cameBackBy (model prog w) A cenv E' e s') K s₂)
        (notedBy (model prog w) A cenv fun e s' => cameBackBy (model prog w) A cenv E' e s') s₁') (notedBy (model prog w) A cenv fun e s' => cameBackBy (model prog w) A cenv E' e s') s₁)
      J W (fun hq => ?_) (fun b hb => by rw [List.mem_singleton.mp hb]; exact next_is_new F) hI ⟨hit, hls.push _⟩ (F.push _) (fun p hp => ⟨Heap.get?_push_of_some _ (N p hp).1, (N p hp).2⟩) hJ
      (fun I turn n h => codeAny_compLoop_two1 I turn n h) (fun i v m₁ nx h tk own K hi hP ho hown hn hJ' F' N' hst' hK => ?_) (fun m₁ nx h tk hJ' F' N' hn => done m₁ nx h tk hJ' F' N' fun p hp e => hn p hp (e ▸ .head _))
    · simp only [List.mem_cons, List.not_mem_nil, or_false] at hq
      rcases hq with q | q
      · exact absurd F.ns.lt (by rw [q]; exact Nat.lt_irrefl _)
      · exact Nat.lt_irrefl _ (Nat.lt_of_lt_of_le hlg (q ▸ F.above))
    · refine letGo_listiter hst'.1 ?_
      obtain ⟨oI, hoI, _⟩ := id hst'.1
      have own1 : ∀ p ∈ own, p.1 = s.heap.objs.size := fun p hp => by
        have := ho p hp
        simp only [List.mem_cons, List.not_mem_nil, or_false] at this
        rcases this with e | e
        · exact e
        · have z := (N' p (List.mem_append_right _ hp)).2.2
          rw [e] at z; obtain ⟨_, e', _⟩ := hl; rw [e'] at z; cases z
      have hm := hown _ (.head _) (next_is_new F) _ hoI
      obtain ⟨N1, o1⟩ := own_one hoI own1 hm N'
      refine turn i v m₁ nx h tk s.heap.objs.size oI K _ hP (fun p hp e => hn p hp (e ▸ .head _)) hJ' F' N1 fun h' tk' m' nx' F2 N2 hn' hJ2 => ?_
      refine hK h' tk' m' nx' F2 (fun p hp => ?_) (fun p hp hq => ?_) hJ2
      · rcases List.mem_append.mp hp with hp | hp
        · exact N2 p (List.mem_append_left _ hp)
        · rw [o1 p hp]; exact N2 _ (List.mem_append_right _ (.head _))
      · simp only [List.mem_cons, List.not_mem_nil, or_false] at hq
        rcases hq with e | e
        · exact hn' p hp e
        · have z := (N2 p (List.mem_append_left _ hp)).2.2
          rw [e] at z; obtain ⟨_, e', _⟩ := hl; rw [e'] at z; cases z
  refine codeAny_compStart_two1 (loop _ _ rfl ?_) (W.self 0 _ _ _ ⟨?_, hls.push _⟩ (loop _ _ rfl ?_))
  all_goals exact ⟨_, Heap.get?_push_size _ rfl, rfl, rfl⟩
end
end Mine
end
end
section
open PySem PySem.W PyProof.Rows PySem.Calls PySem.Spec
set_option Elab.async false
set_option maxRecDepth 100000
noncomputable section
namespace Mine
/-- names of a block set -/
theorem Fr.assigned {g h h' : Heap} {C : Addr} {m m' : Str → Option Value} {news : List (Addr × Obj)} (F : Fr g C h m) (N : News g C h news) (hn : h'.Ns C m') (k : ∀ c o, c ≠ C → h.get? c = some o → h'.get? c = some o) : Fr g C h' m' ∧ News g C h' news :=
  ⟨⟨hn, fun b o e => k b o (fun q => by rw [q, Heap.get?_none_of_le F.above] at e; cases e) (F.keep b o e), F.above⟩, fun p hp => ⟨k _ _ (N p hp).2.1 (N p hp).1, (N p hp).2⟩⟩
theorem count_ST (W : List Nat) (c : Nat) : Txt.count (ST W) (ST [c]) = ((W.count c : Nat) : Int) := by
  rw [show ST [c] = ⟨#[c]⟩ from rfl, PyProof.Rows.count_is]
  show PyProof.Rows.cnt c (ST W).cps.toList = _
  rw [show (ST W).cps.toList = W from rfl]
  induction W with
  | nil => rfl
  | cons x r ih =>
    rw [PyProof.Rows.cnt_cons, ih, List.count_cons]
    by_cases h : x = c
    · simp [h]; omega
    · simp [h]
noncomputable abbrev filL : List Nat := [102, 105, 108]
/-- the rows of the next place -/
noncomputable def rowNext (W r : List Nat) : List (List Nat) := (filL.filter fun c => r.count c < W.count c).map fun c => r ++ [c]
noncomputable def rowsP (W : List Nat) : Nat → List (List Nat)
  | 0 => [[]]
  | k + 1 => (rowsP W k).flatMap (rowNext W)
theorem rowNext_len (W r : List Nat) : (rowNext W r).length ≤ 3 := by
  unfold rowNext; rw [List.length_map]; exact List.length_filter_le _ filL
theorem flat_len (W : List Nat) (l : List (List Nat)) : (l.flatMap (rowNext W)).length ≤ 3 * l.length := by
  induction l with
  | nil => simp
  | cons x r ih => rw [List.flatMap_cons, List.length_append, List.length_cons]; have := rowNext_len W x; omega
theorem rowsP_len (W : List Nat) : ∀ k, (rowsP W k).length ≤ 3 ^ k ∧ ∀ r ∈ rowsP W k, r.length = k
  | 0 => ⟨Nat.le_refl 1, fun r hr => by rw [List.mem_singleton.mp hr]; rfl⟩
  | k + 1 => by
    obtain ⟨h1, h2⟩ := rowsP_len W k
    constructor
    · have : ∀ l : List (List Nat), (l.flatMap (rowNext W)).length ≤ 3 * l.length := fun l => by
        induction l with
        | nil => simp
        | cons x r ih => rw [List.flatMap_cons, List.length_append, List.length_cons]; have := rowNext_len W x; omega
      have := this (rowsP W k)
      rw [Nat.pow_succ]; show ((rowsP W k).flatMap (rowNext W)).length ≤ _; omega
    · intro r hr
      obtain ⟨x, hx, hr⟩ := List.mem_flatMap.mp hr
      obtain ⟨c, _, rfl⟩ := List.mem_map.mp hr
      rw [List.length_append, h2 x hx]; rfl
end Mine
end
end
section
open PySem PySem.W PyProof.Rows PySem.Calls PySem.Spec
set_option Elab.async false
set_option maxRecDepth 100000
noncomputable section
namespace Mine
noncomputable def signsP : List (Str × Int) := [("f", 102), ("f", 70), ("f", 8497), ("f", 119813), ("i", 105), ("i", 73), ("i", 8464), ("i", 8465), ("i", 119816), ("l", 108), ("l", 76), ("l", 8466), ("l", 119819), ("ff", 64256), ("fi", 64257), ("fl", 64258), ("ffi", 64259), ("ffl", 64260)]
theorem signsP_eq : signsP = signC.map fun c => (ST (b3L c), (c : Int)) := by decide +kernel
noncomputable def good (l : List Nat) : Prop := ∀ c ∈ l, b1L c = true ∨ (b1L c = false ∧ c ∈ signC)
noncomputable def rd (l : List Nat) : List Nat := l.flatMap fun c => if b1L c = true then [] else b3L c
/-- what is spelled so far -/
structure SpI (W l : List Nat) (k : Nat) : Prop where
  good : good l
  rd : rd l = W.take k
  le : k ≤ W.length
  len : l.length ≤ 2 * k
structure Sgn (tups : List (Addr × Obj)) : Prop where
  h : All2 PairT tups signsP
noncomputable def fitsAt (W : List Nat) (k c : Nat) : Bool := (W.drop k).take (b3L c).length == b3L c
structure FitI (W : List Nat) (k : Nat) (tups : List (Addr × Obj)) (i : Nat) (ys : List ((Addr × Obj) × Nat)) : Prop where
  len : ys.length ≤ i
  h : ys = ((tups.zip signC).take i).filter fun q => fitsAt W k q.2
theorem fits_pick {tups : List (Addr × Obj)} (hT : Sgn tups) {i : Nat} {v : Value} (hv : (tups.map fun p => Value.ref p.1).toArray[i]? = some v) :
    ∃ p c t u, tups[i]? = some p ∧ signC[i]? = some c ∧ v = .ref p.1 ∧ p.2 = tupOf #[.str (ST (b3L c)) t, .int (c : Nat) u] := by
  rw [List.getElem?_toArray, List.getElem?_map] at hv
  cases e : tups[i]? with
  | none => rw [e] at hv; cases hv
  | some p =>
    rw [e] at hv
    cases hv
    have hlen := hT.h.length
    have hi : i < signsP.length := by rw [← hlen]; exact (List.getElem?_eq_some_iff.mp e).1
    have hi2 : i < signC.length := by rw [signsP_eq, List.length_map] at hi; exact hi
    have hq : signsP[i]? = some (ST (b3L signC[i]), (signC[i] : Int)) := by rw [signsP_eq, List.getElem?_map, List.getElem?_eq_getElem hi2]; rfl
    obtain ⟨p', e1, t, u, e2⟩ := hT.h.get hq
    rw [e] at e1; cases e1
    exact ⟨p, signC[i], t, u, rfl, List.getElem?_eq_getElem hi2, rfl, e2⟩
theorem slice_clip {x : Str} {i j : Int} (hj : (x.length : Int) ≤ j) : Txt.slice x (some i) (some j) = Txt.slice x (some i) (some x.length) := by
  have e : Builtin.Str.strSliceIndices (some i) (some j) 1 x.length = Builtin.Str.strSliceIndices (some i) (some (x.length : Int)) 1 x.length := by
    unfold Builtin.Str.strSliceIndices
    simp only [show (1 : Int) > 0 by decide, if_true]
    congr 1
    split <;> split <;> omega
  unfold Txt.slice
  rw [e]
theorem slice_ST (W : List Nat) (k n : Nat) (hk : k ≤ W.length) : Txt.slice (ST W) (some (k : Int)) (some ((k : Int) + (n : Nat))) = ST ((W.drop k).take n) := by
  have hl : (ST W).length = W.length := ST_len W
  by_cases h : k + n ≤ W.length
  · rw [eq_of_beq (slice_closesL (x := ST W) (i := k) (j := (k : Int) + n) (by omega) (by omega) (by omega))]
    have e1 : ((k : Int) + n - k).toNat = n := by omega
    rw [e1]; rfl
  · rw [slice_clip (by omega), eq_of_beq (slice_closesL (x := ST W) (i := k) (j := ((ST W).length : Int)) (by omega) (by omega) (by omega))]
    have e1 : (((ST W).length : Int) - k).toNat = W.length - k := by omega
    rw [e1]
    show ST ((W.drop k).take (W.length - k)) = _
    rw [List.take_of_length_le (by rw [List.length_drop]; omega), List.take_of_length_le (by rw [List.length_drop]; omega)]
theorem ST_inj {l r : List Nat} (h : ST l = ST r) : l = r := by
  have := congrArg (fun s : Str => s.cps.toList) h
  exact this
theorem ST_beq (l r : List Nat) : (ST l == ST r) = (l == r) := by
  by_cases h : l = r
  · subst h; simp
  · rw [beq_eq_false_iff_ne.mpr h, beq_eq_false_iff_ne.mpr fun e => h (ST_inj e)]
theorem fits_test (W : List Nat) (k c : Nat) (hk : k ≤ W.length) : (Txt.slice (ST W) (some (k : Int)) (some ((k : Int) + ((ST (b3L c)).length : Nat))) == ST (b3L c)) = fitsAt W k c := by
  rw [ST_len, slice_ST W k _ hk, ST_beq]; rfl
theorem fit_next {W : List Nat} {k i : Nat} {tups : List (Addr × Obj)} {ys : List ((Addr × Obj) × Nat)} {p : Addr × Obj} {c : Nat} (h : FitI W k tups i ys) (hp : tups[i]? = some p) (hc : signC[i]? = some c) :
    (fitsAt W k c = true → FitI W k tups (i + 1) (ys ++ [(p, c)])) ∧ (fitsAt W k c = false → FitI W k tups (i + 1) ys) := by
  have ht : (tups.zip signC).take (i + 1) = (tups.zip signC).take i ++ [(p, c)] := by
    rw [List.take_add_one]
    have : (tups.zip signC)[i]? = some (p, c) := by rw [List.getElem?_zip_eq_some]; exact ⟨hp, hc⟩
    rw [this]; rfl
  refine ⟨fun hf => ⟨by have := h.len; simp; omega, ?_⟩, fun hf => ⟨by have := h.len; omega, ?_⟩⟩
  · rw [ht, List.filter_append, ← h.h]; simp [hf]
  · rw [ht, List.filter_append, ← h.h]; simp [hf]
/-- what is found fitting -/
structure Fit (W : List Nat) (k : Nat) (tups : List (Addr × Obj)) (ys : List ((Addr × Obj) × Nat)) : Prop where
  pos : 0 < ys.length
  le : ys.length ≤ 18
  get : ∀ (i : Nat) (q : (Addr × Obj) × Nat), ys[i]? = some q → q.1 ∈ tups ∧ q.2 ∈ signC ∧ (∃ t u, q.1.2 = tupOf #[.str (ST (b3L q.2)) t, .int (q.2 : Nat) u]) ∧ fitsAt W k q.2 = true
theorem fit_all {W : List Nat} {k : Nat} {tups : List (Addr × Obj)} {ys : List ((Addr × Obj) × Nat)} (hT : Sgn tups) (h : FitI W k tups 18 ys) (hW : ∀ c ∈ W, c = 102 ∨ c = 105 ∨ c = 108) (hk : k < W.length) : Fit W k tups ys := by
  have hl : tups.length = 18 := hT.h.length
  have hsl : signC.length = 18 := rfl
  have hz : ys = (tups.zip signC).filter fun q => fitsAt W k q.2 := by
    rw [h.h, List.take_of_length_le (by rw [List.length_zip, hl, hsl]; decide)]
  have one : ∀ (i : Nat) (q : (Addr × Obj) × Nat), (tups.zip signC)[i]? = some q → q.1 ∈ tups ∧ q.2 ∈ signC ∧ ∃ t u, q.1.2 = tupOf #[.str (ST (b3L q.2)) t, .int (q.2 : Nat) u] := by
    intro i q hq
    obtain ⟨h1, h2⟩ := List.getElem?_zip_eq_some.mp hq
    obtain ⟨p, c, t, u, e1, e2, e3, e4⟩ := fits_pick hT (i := i) (v := .ref q.1.1) (by rw [List.getElem?_toArray, List.getElem?_map, h1]; rfl)
    rw [h1] at e1; cases e1
    rw [h2] at e2; cases e2
    exact ⟨List.mem_of_getElem? h1, List.mem_of_getElem? h2, t, u, e4⟩
  refine ⟨?_, h.len, fun i q hq => ?_⟩
  · have hd : ∃ r, W.drop k = W[k] :: r := ⟨_, List.drop_eq_getElem_cons hk⟩
    obtain ⟨r, hr⟩ := hd
    have key : ∀ (j c : Nat), signC[j]? = some c → b3L c = [W[k]] → 0 < ys.length := by
      intro j c hj hb
      have hjl : j < 18 := (List.getElem?_eq_some_iff.mp hj).1
      have hm : (tups[j]'(by omega), c) ∈ tups.zip signC := List.mem_of_getElem? (i := j) (by rw [List.getElem?_zip_eq_some]; exact ⟨List.getElem?_eq_getElem _, hj⟩)
      have : (tups[j]'(by omega), c) ∈ ys := by
        rw [hz]; refine List.mem_filter.mpr ⟨hm, ?_⟩
        show fitsAt W k c = true
        unfold fitsAt
        rw [hb, hr]; simp
      exact List.length_pos_of_mem this
    rcases hW _ (List.getElem_mem hk) with e | e | e
    · exact key 0 102 rfl (by rw [e]; rfl)
    · exact key 4 105 rfl (by rw [e]; rfl)
    · exact key 9 108 rfl (by rw [e]; rfl)
  · have hm : q ∈ ys := List.mem_of_getElem? hq
    rw [hz] at hm
    obtain ⟨hm1, hm2⟩ := List.mem_filter.mp hm
    obtain ⟨j, hj⟩ := List.getElem?_of_mem hm1
    obtain ⟨a, b, c⟩ := one j q hj
    exact ⟨a, b, c, hm2⟩
theorem sign_not_b1 : ∀ c ∈ signC, b1L c = false := by
  have h := notin71
  rw [List.all_cons, Bool.and_eq_true] at h
  intro c hc
  have := List.all_eq_true.mp h.2 c hc
  unfold b1L
  simpa using this
theorem unseen_b1 : ∀ c ∈ unseenC, b1L c = true := fun c hc => List.all_eq_true.mp in71 c hc
theorem b1_32 : b1L 32 = false := by
  have h := notin71
  rw [List.all_cons, Bool.and_eq_true] at h
  unfold b1L
  simpa using h.1
theorem sp_next {W l : List Nat} {k c : Nat} (h : SpI W l k) (hf : fitsAt W k c = true) (hc : c ∈ signC) (e : List Nat) (he : e = [] ∨ ∃ u ∈ unseenC, e = [u]) : SpI W (l ++ [c] ++ e) (k + (b3L c).length) ∧ 0 < (b3L c).length ∧ k + (b3L c).length ≤ W.length := by
  have hf' : (W.drop k).take (b3L c).length = b3L c := eq_of_beq hf
  have hpos : 0 < (b3L c).length := by
    have : signC.all (fun c => decide (0 < (b3L c).length)) = true := by decide
    exact of_decide_eq_true (List.all_eq_true.mp this c hc)
  have hle : k + (b3L c).length ≤ W.length := by
    have := congrArg List.length hf'
    rw [List.length_take, List.length_drop] at this
    have := h.le
    omega
  have hb := sign_not_b1 c hc
  refine ⟨⟨?_, ?_, hle, ?_⟩, hpos, hle⟩
  · intro d hd
    rcases List.mem_append.mp hd with hd | hd
    · rcases List.mem_append.mp hd with hd | hd
      · exact h.good d hd
      · rw [List.mem_singleton.mp hd]; exact .inr ⟨hb, hc⟩
    · rcases he with rfl | ⟨u, hu, rfl⟩
      · cases hd
      · rw [List.mem_singleton.mp hd]; exact .inl (unseen_b1 u hu)
  · have e1 : rd (l ++ [c] ++ e) = rd l ++ b3L c ++ rd e := by unfold rd; simp [hb]
    have e2 : rd e = [] := by
      rcases he with rfl | ⟨u, hu, rfl⟩
      · rfl
      · unfold rd; simp [unseen_b1 u hu]
    rw [e1, e2, List.append_nil, h.rd, List.take_add, hf']
  · have := h.len
    have h3 : e.length ≤ 1 := by rcases he with rfl | ⟨u, hu, rfl⟩ <;> simp
    simp only [List.length_append, List.length_singleton]
    omega
end Mine
end
end
section
open PySem PySem.W PyProof.Rows PySem.Calls PySem.Spec
set_option Elab.async false
set_option maxRecDepth 100000
noncomputable section
namespace Mine
theorem rules_W6 : True := by
  k_with_none
  w_top off
  k_with "storeName" => (k_here; with_reducible show wpAny _ _ (storeName _ _ (Value.int _ (Shared.toks _))) _ _ _; k_dflt (refine storeX_Li (by k_asm) (by k_asm) (fun t_kw h_kw F_kw N_kw => ?_) rfl rfl; try k_sweep))
  k_with "storeName" => (k_here; with_reducible show wpAny _ _ (storeName _ _ (Value.str _ (Shared.toks _))) _ _ _; k_dflt (refine storeX_Ls (by k_asm) (by k_asm) (fun t_kw h_kw F_kw N_kw => ?_) rfl rfl; try k_sweep))
  k_with "eval Name" => (k_here; (with_reducible show wpAny _ _ (eval (Expr.Name _ _) (compEnvC _ _ _ _)) _ _ _); k_dflt (first | (refine' ldC_own ?kw_F ?kw_h ?_ ?kw_a ?kw_b; (case kw_a => rfl); (case kw_b => rfl); (case kw_F => k_asm); (case kw_h => rfl); k_whole) | (refine' ldC_cell ?kw_F ?kw_h ?kw_g ?_ ?kw_a ?kw_b; (case kw_a => rfl); (case kw_b => rfl); (case kw_F => k_asm); (case kw_h => rfl); (case kw_g => k_asm); k_whole) | (refine' ldC_free ?kw_F ?kw_h ?kw_g ?_ ?kw_a ?kw_b; (case kw_a => rfl); (case kw_b => rfl); (case kw_F => k_asm); (case kw_h => rfl); (case kw_g => k_asm); k_whole) | (refine' LCgL.ld_global ?kw_F ?kw_X ?kw_T ?kw_e ?_ ?kw_z ?kw_a ?kw_b; (case kw_z => rfl); (case kw_a => rfl); (case kw_b => rfl); (case kw_F => k_asm); (case kw_X => k_asm); (case kw_T => k_asm); (case kw_e => k_is); k_whole) | (refine' LCgL.ld_built ?kw_F ?kw_X ?kw_T ?kw_e ?kw_v ?kw_n ?_ ?kw_z ?kw_y ?kw_a ?kw_b; (case kw_z => rfl); (case kw_y => rfl); (case kw_a => rfl); (case kw_b => rfl); (case kw_F => k_asm); (case kw_X => k_asm); (case kw_T => k_asm); (case kw_e => k_is); (case kw_v => boot_fast); (case kw_n => decide); k_whole)))
  k_with "subscriptTail" => (k_here; (with_reducible show wpAny _ _ (subscriptTail _ _ (Value.ref _) (Value.int _ _)) _ _ _); k_dflt ((refine' item_tupleT ?kw_t ?kw_a ?kw_b ?kw_c ?kw_d ?_; (case kw_t => exact tup_at (by k_asm) (by k_asm)); (case kw_a => decide); (case kw_b => decide); (case kw_c => rfl); (case kw_d => rfl); k_whole)))
  k_with "call builtin:list.append" => (k_here; (with_reducible show wpAny _ _ (call (Value.builtin _) [Value.ref _, _]) _ _ _); k_dflt (refine' append_K ?kw_k1 ?kw_k2 ?kw_k3 ?_ ?kw_z; (case kw_k1 => k_asm); (case kw_k2 => k_asm); (case kw_k3 => k_upd); (case kw_z => (rw [sizeLine_eq]; simp only [List.size_toArray, List.length_map, List.length_append, List.length_cons, List.length_nil]; omega)); k_whole); intro h_kw F_kw N_kw; (try k_sweep))
  k_with "call builtin:len" => (k_here; (with_reducible show wpAny _ _ (call (Value.builtin _) [Value.ref _]) _ _ _); k_dflt (refine' len_at ?kw_N ?kw_m ?kw_z ?_; (case kw_N => k_asm); (case kw_m => k_mem); (case kw_z => omega); k_whole); intro t_kw k_kw)
  k_with "assign Tuple" => (k_here; (with_reducible show wpAny _ _ (assign (Expr.Tuple _ _ _) _ (Value.ref _)) _ _ _); k_dflt (refine' unpackN_ ?kw_F ?kw_N ?kw_T ?kw_k1 ?kw_k2 ?kw_k3 ?_; (case kw_F => k_asm); (case kw_N => k_asm); (case kw_T => first | k_asm | (refine News.isTup (by k_asm) (by k_mem)) | exact tup_at (by k_asm) (by k_asm)); (case kw_k1 => first | exact rfl | k_asm); (case kw_k2 => exact rfl); (case kw_k3 => exact rfl)); intro h_kw F_kw N_kw; (try k_sweep))
  k_with "subscriptTail" => (k_here; (with_reducible show wpAny _ _ (subscriptTail _ _ (Value.ref _) (Value.int _ _)) _ _ _); k_dflt (refine' item_ints ?kw_N ?kw_m ?kw_V ?kw_z ?kw_k0 ?kw_k1 ?_ ?kw_hs; (case kw_hs => with_unfolding_all rfl); (case kw_N => k_asm); (case kw_m => k_mem); (case kw_V => with_reducible assumption); (case kw_z => decide); (case kw_k0 => first | exact fmod_lo _ (by decide) | omega); (case kw_k1 => first | exact fmod_hi _ (by decide) | omega)); intro x_kw t_kw hx')
  trivial
theorem fillK_W6 : (fun (_ : OpenLaw) (_ : Params → Frag) => True) PySem.Challenge.rw_xe0047_01 KF := by
  k_fill
  trivial
/-- what holds before each turn of the outer loop -/
inductive SpJ (W : List Nat) (L' D U : Addr) (us : List Value) (tups : List (Addr × Obj)) (o2' : Obj) (m0 : Str → Option Value) (n : Nat) (m' : Str → Option Value) (nx : List (Addr × Obj)) : Prop
  | mk (l : List Nat) (at_ c : Nat) (tc tx ta : Tok) (oA : Obj) (u1 u2 u3 : Option Value) (enx : nx = (L' + 1 + 1, oA) :: (L' + 1, o2') :: (D, PySem.W.listOf (tups.map fun p => Value.ref p.1).toArray 0) :: (U, PySem.W.listOf us.toArray 0) :: tups) (dA : oA.data = Data.cell (some (.int (at_ : Nat) ta))) (hS : SpI W l at_) (en : n = W.length - at_)
      (em : m' = fun y => if y = Str.ofString "point" then u1 else if y = Str.ofString "letters" then u2 else if y = Str.ofString "fitting" then u3 else if y = Str.ofString "choice" then some (.int (c : Nat) tc) else if y = Str.ofString "text" then some (.str (ST l) tx) else
        if y = Str.ofString "unseen" then some (.ref U) else if y = Str.ofString "signs" then some (.ref D) else m0 y) : SpJ W L' D U us tups o2' m0 n m' nx
set_option maxHeartbeats 1600000 in
theorem spelled_spec {w : World} {A : Around} {s : Shared} {h₀ : Heap} {L : Addr} {m : Str → Option Value} {d : Nat} {Q E : Value → Shared → Prop} (W : List Nat) (ch : Nat) (t u : Tok)
    (hW : W.length ≤ 5) (hWc : ∀ c ∈ W, c = 102 ∨ c = 105 ∨ c = 108)
    (G : Env0 w A h₀ (d + 1)) (F : Fr h₀ L s.heap m)
    (ret : ∀ h' tk' t' l, SpI W l W.length → s.heap.StaysIn h' → Q (.str (ST l) t') { s with heap := h', toks := tk' }) :
    wpAny (model pw w) A (call (.ref 146) [.str (ST W) t, .int ch u]) Q E s := by
  refine enterC (binds := [("word", .str (ST W) t), ("choice", .int ch u)]) G F rfl rfl rfl rfl (by decide) (fun L' h₁ tk cells G' F' N' Y => ?_)
  obtain ⟨p, lo, me, mg, mb, T⟩ := G'.T
  have X := G'.X
  have hh := G'.hh
  obtain ⟨o', o2', hE, d1, d2⟩ := PyProof.Rows.CellsAre.two Y
  subst hE
  clear Y
  replace d1 : (o'.data = Data.cell none) := d1
  replace d2 : (o2'.data = Data.cell (some (.str (ST W) t))) := d2
  obtain ⟨m0, F1, hch⟩ : ∃ m0 : Str → Option Value, Fr s.heap L' h₁ m0 ∧ m0 (Str.ofString "choice") = some (.int ch u) := ⟨_, F', rfl⟩
  clear F'
  walk1
  walk1
  with_reducible refine' pairs_display (qs := signsP) ?a1 F1 ?aN ?a4 ?a5
  case aN => exact N'
  case a1 => exact pairs_of rfl
  case a5 => rw [sizeLine_eq]; unfold signsP; decide
  intro D h2 tk2 tups F2 N2 ht1 ht2 ht3 hT'
  have hT := Sgn.mk hT'
  clear hT'
  have hD1 := ltN (a := L' + 1 + 1) (b := D) (ht3 _ (.head _))
  have hlo : ∀ p ∈ tups, L' + 1 + 1 < p.1 := fun p hp => Nat.lt_of_lt_of_le (Heap.lt_size (N' _ (.head _)).1) (ht1 p hp)
  have N3 : News s.heap L' h2 ((L' + 1 + 1, o') :: (L' + 1, o2') :: (D, _) :: tups) := fun p hp => N2 p (by
    rcases List.mem_cons.mp hp with rfl | hp
    · exact List.mem_cons_of_mem _ (List.mem_append_right _ (.head _))
    rcases List.mem_cons.mp hp with rfl | hp
    · exact List.mem_cons_of_mem _ (List.mem_append_right _ (.tail _ (.head _)))
    rcases List.mem_cons.mp hp with rfl | hp
    · exact .head _
    · exact List.mem_cons_of_mem _ (List.mem_append_left _ hp))
  clear N' F1 N2 ht1 ht3
  walk1
  walk1
  walk1
  with_reducible refine' ints_display (qs := [173, 847, 8203, 8288, 65024, 65039, 65279]) ?b1 ?b2 ?bN ?b4 ?b5
  case b2 => assumption
  case bN => assumption
  case b1 => exact ints_of rfl
  case b5 => rw [sizeLine_eq]; decide
  intro U h3 tk3 us F3 N4 hu hV
  have hU1 := ltN (a := D) (b := U) (hu _ (.tail _ (.tail _ (.head _))))
  have hU2 : ∀ p ∈ tups, p.1 < U := fun p hp => hu p (.tail _ (.tail _ (.tail _ hp)))
  have hoff : OwnOff tups [L' + 1 + 1, L' + 1, D, U] := fun p hp b hb => by
    have z1 := hlo p hp
    have z2 := ht2 p hp
    have z3 := hU2 p hp
    simp only [List.mem_cons, List.not_mem_nil, or_false] at hb
    rcases hb with rfl | rfl | rfl | rfl
    · exact Nat.ne_of_gt z1
    · exact Nat.ne_of_gt (Nat.lt_of_succ_lt z1)
    · exact Nat.ne_of_lt z2
    · exact Nat.ne_of_lt z3
  have N5 : News s.heap L' h3 ((L' + 1 + 1, o') :: (L' + 1, o2') :: (D, _) :: (U, _) :: tups) := fun p hp => N4 p (by
    rcases List.mem_cons.mp hp with rfl | hp
    · exact .tail _ (.head _)
    rcases List.mem_cons.mp hp with rfl | hp
    · exact .tail _ (.tail _ (.head _))
    rcases List.mem_cons.mp hp with rfl | hp
    · exact .tail _ (.tail _ (.tail _ (.head _)))
    rcases List.mem_cons.mp hp with rfl | hp
    · exact .head _
    · exact .tail _ (.tail _ (.tail _ (.tail _ hp))))
  clear N4 hu hlo hU2 ht2
  revert w A s Q E L'
  set_option tactic.hygienic false in intros
  as_aux_lemma =>
  iterate 10 walk1
  rename Fr _ _ _ _ => F6
  rename News _ _ _ _ => N6
  rename _ = Data.cell (some (.int _ _)) => d6
  with_reducible refine' While_inv (n₀ := W.length) (fun n m' nx => SpJ W L' D U us tups o2' m0 n m' nx) F6 N6 ?hJ ?turn ?hE
  case hE => passes_own
  case hJ =>
    refine ⟨[], 0, ch, u, ?tx, _, _, m0 (Str.ofString "point"), m0 (Str.ofString "letters"), m0 (Str.ofString "fitting"), rfl, d6, ⟨(fun _ h => nomatch h), rfl, Nat.zero_le _, Nat.le_refl _⟩, rfl, ?_⟩
    rotate_left
    funext y
    by_cases h1 : y = Str.ofString "point"
    · subst h1; rfl
    by_cases h2 : y = Str.ofString "letters"
    · subst h2; rfl
    by_cases h3 : y = Str.ofString "fitting"
    · subst h3; rfl
    by_cases h4 : y = Str.ofString "choice"
    · subst h4; exact hch
    by_cases h5 : y = Str.ofString "text"
    · subst h5; rfl
    simp only [if_neg h1, if_neg h2, if_neg h3, if_neg h4, if_neg h5]
  case turn =>
    rintro n m1 nx h tk F7 N7 ⟨l, at_, c, tc, tx, ta, oA, u1, u2, u3, rfl, dA, hS, rfl, rfl⟩
    clear F6 N6 d6 d1
    have hSl : (ST W).length = W.length := ST_len W
    have hSb : (ST W).length ≤ 5 := by omega
    have hat := hS.le
    have hlen := hS.len
    revert w A s Q E L'
    set_option tactic.hygienic false in intros
    as_aux_lemma =>
    k_steps
    rotate_left
    · have e : at_ = W.length := by omega
      subst e
      exact ret _ _ _ _ hS (Fr.keep (by assumption))
    have hlt : at_ < W.length := by omega
    rename Fr _ _ _ _ => F8
    rename News _ _ _ _ => N8
    refine' assignListCompJ ?sw ?cl ?ce ?ki ?na ?xl ?body
    case sw => with_unfolding_all rfl
    case cl => with_unfolding_all rfl
    case ce => decide
    case ki => rfl
    case na => decide
    case xl => rfl
    revert w A s Q E L'
    set_option tactic.hygienic false in intros
    as_aux_lemma =>
    k_steps
    have hL := News.isList N8 (.tail _ (.tail _ (.head _)))
    have cA : Heap.IsCell _ (L' + 1 + 1) (some (.int (at_ : Nat) ta)) := ⟨oA, (N8 _ (.head _)).1, dA⟩
    have cW : Heap.IsCell _ (L' + 1) (some (.str (ST W) t)) := ⟨o2', (N8 _ (.tail _ (.head _))).1, d2⟩
    have X8 := X.keeps F8.keep
    have T8 := T.keeps F8.keep
    have hgT : ∀ p ∈ tups, _ := fun p hp => (N8 p (.tail _ (.tail _ (.tail _ (.tail _ hp))))).1
    refine comp_list hh hL (fun Dc i m nx => ∃ ys n, nx = [(Dc, PySem.W.listOf (ys.map fun q => Value.ref q.1.1).toArray n)] ∧ FitI W at_ tups i ys) (fun Dc => ⟨[], 0, rfl, ⟨Nat.le_refl _, rfl⟩⟩) ?turn2 ?done2
    case turn2 =>
      rintro Dc C I i v m1 nx h9 tk9 oI K E' hi hv hDI hnI ⟨ys, n, rfl, hF⟩ F9 N9 hK
      have hDI2 := hDI.symm
      have hyl := hF.len
      rw [List.size_toArray, List.length_map, hT.h.length] at hi
      have hi' : i < 18 := hi
      obtain ⟨p9, c9, t9, u9, hp9, hc9, rfl, ho9⟩ := fits_pick hT hv
      have hg9 := hgT p9 (List.mem_of_getElem? hp9)
      rw [ho9] at hg9
      have hb1 : (ST (b3L c9)).length = (b3L c9).length := ST_len _
      have hb2 : (ST (b3L c9)).length ≤ 3 := by rw [hb1]; exact b3L_len c9
      unfold compEnd
      refine wpAny_tests_one ?_
      have hft := fits_test W at_ c9 hat
      have hnx := fit_next hF hp9 hc9
      clear hv hgT hWc
      revert w A s Q E L'
      set_option tactic.hygienic false in intros
      as_aux_lemma =>
      k_steps
      · rename _ = true => hq
        rename Fr _ _ _ _ => F4
        rename News _ _ _ _ => N4
        rw [hft] at hq
        rw [List.push_toArray] at N4
        refine hK _ _ _ [(Dc, _)] F4 N4 (fun p hp => by rw [List.mem_singleton.mp hp]; exact hDI) ⟨ys ++ [(p9, c9)], n + 1, ?_, hnx.1 hq⟩
        rw [List.map_append]; rfl
      · rename _ = false => hq
        rename Fr _ _ _ _ => F4
        rename News _ _ _ _ => N4
        rw [hft] at hq
        exact hK _ _ _ [(Dc, _)] F4 N4 (fun p hp => by rw [List.mem_singleton.mp hp]; exact hDI) ⟨ys, n, rfl, hnx.2 hq⟩
    case done2 =>
      rintro Dc C m1 nx h9 tk9 ⟨ys, n, rfl, hF⟩ F9 N9
      rw [List.size_toArray, List.length_map, show tups.length = 18 from hT.h.length] at hF
      have hA := fit_all hT hF hWc hlt
      clear hF hT hWc
      refine' compDoneA F9 N9 ?f0 ?n0 ?hy ?hp ?_
      case f0 => exact F8
      case n0 => exact N8
      case hy => rfl
      case hp => rfl
      intro h10 tk10 F10 N10
      have hne : ∀ p : Addr × Obj, h.get? p.1 = some p.2 → @Ne Nat p.1 Dc := fun p hp e => by
        have z := (N9 _ (.head _)).2.2
        have z2 : h.get? Dc = some p.2 := e ▸ hp
        rw [show h.get? Dc = none from z] at z2; cases z2
      have hn1 := hne (L' + 1 + 1, oA) (N8 _ (.head _)).1
      have hn2 := hne (L' + 1, o2') (N8 _ (.tail _ (.head _))).1
      have hn3 := hne (D, _) (N8 _ (.tail _ (.tail _ (.head _)))).1
      have hn4 := hne (U, _) (N8 _ (.tail _ (.tail _ (.tail _ (.head _))))).1
      dsimp only at hn1 hn2 hn3 hn4
      have hoff2 : OwnOff tups [L' + 1 + 1, L' + 1, D, U, Dc] := fun p hp b hb => by
        rcases List.mem_append.mp (show b ∈ [L' + 1 + 1, L' + 1, D, U] ++ [Dc] from hb) with hb | hb
        · exact hoff p hp b hb
        · rw [List.mem_singleton.mp hb]; exact hne p (hgT p hp)
      have hlo := hA.pos
      have hhi := hA.le
      obtain ⟨zs, hzs, hzl⟩ : ∃ zs : List Value, zs = ys.map (fun q => Value.ref q.1.1) ∧ zs.length = ys.length := ⟨_, rfl, List.length_map _⟩
      rw [← hzs] at N10
      dsimp only [List.cons_append, List.nil_append] at N10
      clear hne hoff hgT F9 N9 F8 N8 hL X8 T8 cA cW
      revert w A s Q E L'
      set_option tactic.hygienic false in intros
      as_aux_lemma =>
      k_steps
      rename News _ _ _ _ => N11
      obtain ⟨j, hj⟩ : ∃ j, c % zs.length = j := ⟨_, rfl⟩
      have hjl : j < ys.length := by rw [← hzl, ← hj]; exact Nat.mod_lt _ (by omega)
      obtain ⟨q, hq⟩ : ∃ q, ys[j]? = some q := ⟨_, List.getElem?_eq_getElem hjl⟩
      obtain ⟨hq1, hq2, ⟨tq, uq, hq3⟩, hq4⟩ := hA.get _ _ hq
      refine item_at N11 (.head _) (j := j) (v := .ref q.1.1) (by rw [Int.fmod_eq_emod_of_nonneg _ (by omega)]; omega) (by omega) (by rw [hzs, List.getElem?_map, hq]; rfl) ?_
      have hqo := (N11 _ (.tail _ (.tail _ (.tail _ (.tail _ (.tail _ hq1)))))).1
      rw [hq3] at hqo
      have hqT : Heap.IsTuple _ q.1.1 #[.str (ST (b3L q.2)) tq, .int (q.2 : Nat) uq] := ⟨_, hqo, rfl, _, rfl⟩
      have hqb : q.2 ≤ 119819 := by
        have h9 : signC.all (fun x => decide (x ≤ 119819)) = true := by decide
        exact of_decide_eq_true (List.all_eq_true.mp h9 _ hq2)
      have hlb : (ST l).length ≤ 10 := by rw [ST_len]; omega
      have hb3 : (ST (b3L q.2)).length = (b3L q.2).length := ST_len _
      have hb4 : (ST (b3L q.2)).length ≤ 3 := by rw [hb3]; exact b3L_len _
      obtain ⟨c2, hc2⟩ : ∃ c2 : Nat, ((c : Int).fdiv (zs.length : Nat)).fdiv 2 = (c2 : Nat) := ⟨c / zs.length / 2, by
        rw [Int.fdiv_eq_ediv_of_nonneg _ (by omega), Int.fdiv_eq_ediv_of_nonneg _ (by omega)]; rfl⟩
      have hnext := sp_next hS hq4 hq2
      revert w A s Q E L'
      set_option tactic.hygienic false in intros
      as_aux_lemma =>
      iterate 48 walk1
      · iterate 15 walk1
        refine' item_ints ?N ?m ?V ?z ?k0 ?k1 ?_ ?hs
        case hs => with_unfolding_all rfl
        case N => k_asm
        case m => k_mem
        case V => exact hV
        case z => decide
        case k0 => exact fmod_lo _ (by decide)
        case k1 => exact fmod_hi _ (by decide)
        intro x9 t8 hx
        obtain ⟨ux, hux, rfl⟩ : ∃ ux ∈ unseenC, x9 = ((ux : Nat) : Int) := by
          have h9 : ([173, 847, 8203, 8288, 65024, 65039, 65279] : List Int).all (fun x => unseenC.any fun c => x == ((c : Nat) : Int)) = true := by decide
          obtain ⟨c, hc, e⟩ := List.any_eq_true.mp (List.all_eq_true.mp h9 _ (List.mem_of_getElem? hx))
          exact ⟨c, hc, eq_of_beq e⟩
        have huxb : ux ≤ 65279 := by
          have h9 : unseenC.all (fun x => decide (x ≤ 65279)) = true := by decide
          exact of_decide_eq_true (List.all_eq_true.mp h9 _ hux)
        clear hx
        revert w A s Q E L'
        set_option tactic.hygienic false in intros
        as_aux_lemma =>
        k_steps
        rename Fr _ _ _ _ => F12
        rename News _ _ _ _ => N12
        rename _ = Data.cell (some (.int _ _)) => d12
        obtain ⟨hS2, hp2, hle2⟩ := hnext [ux] (.inr ⟨ux, hux, rfl⟩)
        have eT : ST l ++ { cps := #[((q.2 : Nat) : Int).toNat] } ++ { cps := #[((ux : Nat) : Int).toNat] } = ST (l ++ [q.2] ++ [ux]) := by rw [← ST_app, ← ST_app]; rfl
        have eA : (at_ : Int) + ((ST (b3L q.2)).length : Nat) = ((at_ + (b3L q.2).length : Nat) : Int) := by rw [hb3]; rfl
        rw [eA] at d12
        refine WhileStep.intro (n' := W.length - (at_ + (b3L q.2).length)) F12 (fun p hp => N12 p (.tail _ hp)) (by omega) ⟨l ++ [q.2] ++ [ux], at_ + (b3L q.2).length, c2, ?tc1, ?tx1, _, _, some (.int (q.2 : Nat) uq), some (.str (ST (b3L q.2)) tq), some (.ref Dc), rfl, d12, hS2, rfl, ?_⟩
        rotate_left 2
        funext y
        by_cases h1 : y = Str.ofString "point"
        · subst h1; rfl
        by_cases h2 : y = Str.ofString "letters"
        · subst h2; rfl
        by_cases h3 : y = Str.ofString "fitting"
        · subst h3; rfl
        by_cases h4 : y = Str.ofString "choice"
        · subst h4; rw [← hc2]; rfl
        by_cases h5 : y = Str.ofString "text"
        · subst h5; rw [← eT]; rfl
        simp only [if_neg h1, if_neg h2, if_neg h3, if_neg h4, if_neg h5]
      · k_steps
        rename Fr _ _ _ _ => F12
        rename News _ _ _ _ => N12
        rename _ = Data.cell (some (.int _ _)) => d12
        obtain ⟨hS2, hp2, hle2⟩ := hnext [] (.inl rfl)
        have eT : ST l ++ { cps := #[((q.2 : Nat) : Int).toNat] } = ST (l ++ [q.2] ++ []) := by rw [List.append_nil, ← ST_app]; rfl
        have eA : (at_ : Int) + ((ST (b3L q.2)).length : Nat) = ((at_ + (b3L q.2).length : Nat) : Int) := by rw [hb3]; rfl
        rw [eA] at d12
        refine WhileStep.intro (n' := W.length - (at_ + (b3L q.2).length)) F12 (fun p hp => N12 p (.tail _ hp)) (by omega) ⟨l ++ [q.2] ++ [], at_ + (b3L q.2).length, c2, ?tc2, ?tx2, _, _, some (.int (q.2 : Nat) uq), some (.str (ST (b3L q.2)) tq), some (.ref Dc), rfl, d12, hS2, rfl, ?_⟩
        rotate_left 2
        funext y
        by_cases h1 : y = Str.ofString "point"
        · subst h1; rfl
        by_cases h2 : y = Str.ofString "letters"
        · subst h2; rfl
        by_cases h3 : y = Str.ofString "fitting"
        · subst h3; rfl
        by_cases h4 : y = Str.ofString "choice"
        · subst h4; rw [← hc2]; rfl
        by_cases h5 : y = Str.ofString "text"
        · subst h5; rw [← eT]; rfl
        simp only [if_neg h1, if_neg h2, if_neg h3, if_neg h4, if_neg h5]
end Mine
end
end
section
open PySem PySem.W PyProof.Rows PySem.Calls PySem.Spec
set_option Elab.async false
set_option maxRecDepth 100000
noncomputable section
namespace Mine
theorem rules_W17 : True := by
  k_with_none
  w_top off
  k_with "storeName" => (k_here; with_reducible show wpAny _ _ (storeName _ _ (Value.int _ (Shared.toks _))) _ _ _; k_dflt (refine storeX_Li (by k_asm) (by k_asm) (fun t_kw h_kw F_kw N_kw => ?_) rfl rfl; try k_sweep))
  k_with "storeName" => (k_here; with_reducible show wpAny _ _ (storeName _ _ (Value.str _ (Shared.toks _))) _ _ _; k_dflt (refine storeX_Ls (by k_asm) (by k_asm) (fun t_kw h_kw F_kw N_kw => ?_) rfl rfl; try k_sweep))
  k_with "eval Name" => (k_here; (with_reducible show wpAny _ _ (eval (Expr.Name _ _) (compEnvC _ _ _ _)) _ _ _); k_dflt (first | (refine' ldC_own ?kw_F ?kw_h ?_ ?kw_a ?kw_b; (case kw_a => rfl); (case kw_b => rfl); (case kw_F => k_asm); (case kw_h => rfl); k_whole) | (refine' ldC_cell ?kw_F ?kw_h ?kw_g ?_ ?kw_a ?kw_b; (case kw_a => rfl); (case kw_b => rfl); (case kw_F => k_asm); (case kw_h => rfl); (case kw_g => k_asm); k_whole) | (refine' ldC_free ?kw_F ?kw_h ?kw_g ?_ ?kw_a ?kw_b; (case kw_a => rfl); (case kw_b => rfl); (case kw_F => k_asm); (case kw_h => rfl); (case kw_g => k_asm); k_whole) | (refine' LCgL.ld_global ?kw_F ?kw_X ?kw_T ?kw_e ?_ ?kw_z ?kw_a ?kw_b; (case kw_z => rfl); (case kw_a => rfl); (case kw_b => rfl); (case kw_F => k_asm); (case kw_X => k_asm); (case kw_T => k_asm); (case kw_e => k_is); k_whole) | (refine' LCgL.ld_built ?kw_F ?kw_X ?kw_T ?kw_e ?kw_v ?kw_n ?_ ?kw_z ?kw_y ?kw_a ?kw_b; (case kw_z => rfl); (case kw_y => rfl); (case kw_a => rfl); (case kw_b => rfl); (case kw_F => k_asm); (case kw_X => k_asm); (case kw_T => k_asm); (case kw_e => k_is); (case kw_v => boot_fast); (case kw_n => decide); k_whole)))
  k_with "subscriptTail" => (k_here; (with_reducible show wpAny _ _ (subscriptTail _ _ (Value.ref _) (Value.int _ _)) _ _ _); k_dflt ((refine' item_tupleT ?kw_t ?kw_a ?kw_b ?kw_c ?kw_d ?_; (case kw_t => exact tup_at (by k_asm) (by k_asm)); (case kw_a => decide); (case kw_b => decide); (case kw_c => rfl); (case kw_d => rfl); k_whole)))
  k_with "call builtin:list.append" => (k_here; (with_reducible show wpAny _ _ (call (Value.builtin _) [Value.ref _, _]) _ _ _); k_dflt (refine' append_K ?kw_k1 ?kw_k2 ?kw_k3 ?_ ?kw_z; (case kw_k1 => k_asm); (case kw_k2 => k_asm); (case kw_k3 => k_upd); (case kw_z => (rw [sizeLine_eq]; simp only [List.size_toArray, List.length_map, List.length_append, List.length_cons, List.length_nil]; omega)); k_whole); intro h_kw F_kw N_kw; (try k_sweep))
  k_with "call builtin:len" => (k_here; (with_reducible show wpAny _ _ (call (Value.builtin _) [Value.ref _]) _ _ _); k_dflt (refine' len_at ?kw_N ?kw_m ?kw_z ?_; (case kw_N => k_asm); (case kw_m => k_mem); (case kw_z => omega); k_whole); intro t_kw k_kw)
  k_with "assign Tuple" => (k_here; (with_reducible show wpAny _ _ (assign (Expr.Tuple _ _ _) _ (Value.ref _)) _ _ _); k_dflt (refine' unpackN_ ?kw_F ?kw_N ?kw_T ?kw_k1 ?kw_k2 ?kw_k3 ?_; (case kw_F => k_asm); (case kw_N => k_asm); (case kw_T => first | k_asm | (refine News.isTup (by k_asm) (by k_mem)) | exact tup_at (by k_asm) (by k_asm)); (case kw_k1 => first | exact rfl | k_asm); (case kw_k2 => exact rfl); (case kw_k3 => exact rfl)); intro h_kw F_kw N_kw; (try k_sweep))
  k_with "subscriptTail" => (k_here; (with_reducible show wpAny _ _ (subscriptTail _ _ (Value.ref _) (Value.int _ _)) _ _ _); k_dflt (refine' item_ints ?kw_N ?kw_m ?kw_V ?kw_z ?kw_k0 ?kw_k1 ?_ ?kw_hs; (case kw_hs => with_unfolding_all rfl); (case kw_N => k_asm); (case kw_m => k_mem); (case kw_V => with_reducible assumption); (case kw_z => decide); (case kw_k0 => first | exact fmod_lo _ (by decide) | omega); (case kw_k1 => first | exact fmod_hi _ (by decide) | omega)); intro x_kw t_kw hx')
  trivial
theorem fillK_W17 : (fun (_ : OpenLaw) (_ : Params → Frag) => True) PySem.Challenge.rw_xe0047_01 KF := by
  k_fill
  trivial
/-- the rooms, as pairs of the ledger -/
structure Rooms (W : List Nat) (tups : List (Addr × Obj)) (l : List Nat) : Prop where
  h : All2 (fun p c => ∃ t u, p.2 = tupOf #[.str (ST [c]) t, .int (W.count c : Nat) u]) tups l
/-- what holds before each turn of the outer and of the inner clause -/
inductive RowJ (W : List Nat) (i : Nat) (Dq : Addr) (j : Nat) (m : Str → Option Value) (nx : List (Addr × Obj)) : Prop
  | mk (zs : List Value) (n : Nat) (u1 u2 u3 : Option Value) (enx : nx = [(Dq, PySem.W.listOf (List.toArray zs) n)]) (hz : All2 SV zs (((rowsP W i).take j).flatMap (rowNext W)))
      (em : m = fun y => if y = Str.ofString "room" then u1 else if y = Str.ofString "letter" then u2 else if y = Str.ofString "row" then u3 else none) : RowJ W i Dq j m nx
inductive InnJ (W : List Nat) (i i2 : Nat) (r : List Nat) (tr : Tok) (Dq I2 : Addr) (oI2 : Obj) (j : Nat) (m : Str → Option Value) (nx : List (Addr × Obj)) : Prop
  | mk (zs : List Value) (n : Nat) (u1 u2 : Option Value) (enx : nx = [(Dq, PySem.W.listOf (List.toArray zs) n), (I2, oI2)]) (hz : All2 SV zs (((rowsP W i).take i2).flatMap (rowNext W) ++ ((filL.take j).filter fun c => r.count c < W.count c).map fun c => r ++ [c]))
      (em : m = fun y => if y = Str.ofString "room" then u1 else if y = Str.ofString "letter" then u2 else if y = Str.ofString "row" then some (.str (ST r) tr) else none) : InnJ W i i2 r tr Dq I2 oI2 j m nx
set_option maxHeartbeats 1600000 in
theorem arrange_spec {w : World} {A : Around} {s : Shared} {h₀ : Heap} {L : Addr} {m : Str → Option Value} {d : Nat} {Q E : Value → Shared → Prop} (W : List Nat) (t : Tok)
    (hW : W.length ≤ 5)
    (G : Env0 w A h₀ (d + 1)) (F : Fr h₀ L s.heap m)
    (ret : ∀ h' tk' a vs n, s.heap.get? a = none → s.heap.StaysIn h' → h'.get? a = some (PySem.W.listOf vs.toArray n) → All2 SV vs (rowsP W W.length) → Q (.ref a) { s with heap := h', toks := tk' }) :
    wpAny (model pw w) A (call (.ref 186) [.str (ST W) t]) Q E s := by
  refine enterC (binds := [("word", .str (ST W) t)]) G F rfl rfl rfl rfl (by decide) (fun L' h₁ tk cells G' F' N' Y => ?_)
  obtain ⟨p, lo, me, mg, mb, T⟩ := G'.T
  have X := G'.X
  have hh := G'.hh
  obtain ⟨o', o2', hE, d1, d2⟩ := PyProof.Rows.CellsAre.two Y
  subst hE
  clear Y
  replace d1 : (o'.data = Data.cell none) := d1
  replace d2 : (o2'.data = Data.cell (some (.str (ST W) t))) := d2
  obtain ⟨m0, F1⟩ : ∃ m0 : Str → Option Value, Fr s.heap L' h₁ m0 := ⟨_, F'⟩
  clear F'
  walk1
  walk1
  refine' listCompJ ?cl ?ce ?ki ?na ?xl ?body
  case cl => with_unfolding_all rfl
  case ce => decide
  case ki => rfl
  case na => decide
  case xl => rfl
  revert w A s Q E L'
  set_option tactic.hygienic false in intros
  as_aux_lemma =>
  repeat walk1
  have cW : Heap.IsCell _ (L' + 1) (some (.str (ST W) t)) := ⟨o2', (N' _ (.tail _ (.head _))).1, d2⟩
  rw [show Str.ofString "fil" = ST filL by decide +kernel]
  refine comp_str hh (fun Dc i m nx => ∃ tups n, nx = (Dc, PySem.W.listOf (tups.map fun p => Value.ref p.1).toArray n) :: tups ∧ OwnOff tups [Dc] ∧ Rooms W tups (filL.take i)) (fun Dc => ⟨[], 0, rfl, (fun _ h => nomatch h), ⟨.nil⟩⟩) ?turn ?done
  case turn =>
    rintro Dc C I i c t9 m1 nx h9 tk9 oI K E' hi hDI hnI ⟨tups, n, rfl, hoff, hR⟩ F9 N9 hK
    have hDI2 := hDI.symm
    have hlen := hR.h.length
    have hc3 : (filL.take i).length ≤ 3 := by rw [List.length_take]; exact Nat.min_le_right _ _
    unfold compEnd
    refine wpAny_tests_nil ?_
    have N9a : News _ _ _ ((Dc, PySem.W.listOf (tups.map fun p => Value.ref p.1).toArray n) :: (I, oI) :: tups) := fun p hp => N9 p (by
      rcases List.mem_cons.mp hp with rfl | hp
      · exact .head _
      rcases List.mem_cons.mp hp with rfl | hp
      · exact List.mem_append_right _ (.head _)
      · exact List.mem_append_left _ (.tail _ hp))
    clear N9
    dsimp only
    rw [if_pos rfl]
    refine wpAny_Tuple ?_
    revert w A s Q E L'
    set_option tactic.hygienic false in intros
    as_aux_lemma =>
    repeat walk1
    have F10 := Fr.push F9 (tupOf #[.str (ST [c]) t9, .int (Txt.count (ST W) (ST [c])) tk9])
    have N10 := newsPush N9a F9 (tupOf #[.str (ST [c]) t9, .int (Txt.count (ST W) (ST [c])) tk9])
    have lD := ltN (a := Dc) (b := h9.objs.size) (Heap.lt_size (N9a _ (.head _)).1)
    have lI := ltN (a := I) (b := h9.objs.size) (Heap.lt_size (N9a _ (.tail _ (.head _))).1)
    have hT0 := @Nat.ne_of_gt _ _ lD
    clear F9 N9a
    refine' append_K F10 N10 ?U ?_ ?sz
    case U => exact .tail hT0 (.head fun p hp => by
      rcases List.mem_cons.mp hp with rfl | hp
      · exact hDI2
      · exact hoff.ne (.head _) p hp)
    case sz =>
      rw [sizeLine_eq]; simp only [List.size_toArray, List.length_map]; omega
    intro h11 F11 N11
    rw [List.push_toArray] at N11
    refine hK _ _ _ ((Dc, PySem.W.listOf ((tups ++ [(h9.objs.size, tupOf #[.str (ST [c]) t9, .int (Txt.count (ST W) (ST [c])) tk9])]).map fun p => Value.ref p.1).toArray (n + 1)) :: (tups ++ [(h9.objs.size, _)])) F11 (fun p hp => N11 p ?_) (fun p hp => ?_) ⟨_, _, rfl, ?_, ?_⟩
    · rcases List.mem_append.mp hp with hp | hp
      · rcases List.mem_cons.mp hp with rfl | hp
        · rw [List.map_append]; exact .tail _ (.head _)
        · rcases List.mem_append.mp hp with hp | hp
          · exact .tail _ (.tail _ (.tail _ hp))
          · rw [List.mem_singleton.mp hp]; exact .head _
      · rw [List.mem_singleton.mp hp]; exact .tail _ (.tail _ (.head _))
    · rcases List.mem_cons.mp hp with rfl | hp
      · exact hDI
      · rcases List.mem_append.mp hp with hp | hp
        · exact hnI p (.tail _ hp)
        · rw [List.mem_singleton.mp hp]; exact Nat.ne_of_gt lI
    · intro p hp
      rcases List.mem_append.mp hp with hp | hp
      · exact hoff p hp
      · rw [List.mem_singleton.mp hp]
        intro b hb
        rw [List.mem_singleton.mp hb]; exact hT0
    · refine ⟨?_⟩
      rw [show filL.take (i + 1) = filL.take i ++ [c] by rw [List.take_add_one, hi]; rfl]
      refine hR.h.app (.cons ⟨t9, tk9, ?_⟩ .nil)
      rw [count_ST]
  case done =>
    rintro Dc C m1 nx h9 tk9 ⟨tups, n, rfl, hoff, hR⟩ F9 N9
    have hR' : Rooms W tups filL := hR
    clear hR
    have hne : ∀ p : Addr × Obj, h₁.get? p.1 = some p.2 → ∀ q ∈ (Dc, PySem.W.listOf (tups.map fun p => Value.ref p.1).toArray n) :: tups, @Ne Nat q.1 p.1 := fun p hp q hq e => by
      have z := (N9 q hq).2.2
      have z2 : h₁.get? q.1 = some p.2 := e ▸ hp
      rw [show h₁.get? q.1 = none from z] at z2; cases z2
    have hn1 := hne (L' + 1 + 1, o') (N' _ (.head _)).1 _ (.head _)
    have hn2 := hne (L' + 1, o2') (N' _ (.tail _ (.head _))).1 _ (.head _)
    dsimp only at hn1 hn2
    have hoff2 : OwnOff tups [L' + 1 + 1, L' + 1, Dc] := fun p hp b hb => by
      simp only [List.mem_cons, List.not_mem_nil, or_false] at hb
      rcases hb with rfl | rfl | rfl
      · exact hne (L' + 1 + 1, o') (N' _ (.head _)).1 _ (.tail _ hp)
      · exact hne (L' + 1, o2') (N' _ (.tail _ (.head _))).1 _ (.tail _ hp)
      · exact hoff p hp _ (.head _)
    refine compDone F9 N9 fun h10 N10 k10 => ?_
    have F12 := Fr.stay F1 k10
    have N12 := News.join F1 N' N10 k10
    have N13 : News s.heap L' h10 ((L' + 1 + 1, o') :: (L' + 1, o2') :: (Dc, PySem.W.listOf (tups.map fun p => Value.ref p.1).toArray n) :: tups) := fun p hp => N12 p (by
      rcases List.mem_cons.mp hp with rfl | hp
      · exact List.mem_append_right _ (.head _)
      rcases List.mem_cons.mp hp with rfl | hp
      · exact List.mem_append_right _ (.tail _ (.head _))
      · exact List.mem_append_left _ hp)
    clear N10 F9 N9 k10 N12 N' F1 cW hoff hne
    have hSl : (ST W).length = W.length := ST_len W
    have hSb : (ST W).length ≤ 5 := by omega
    revert w A s Q E L'
    set_option tactic.hygienic false in intros
    as_aux_lemma =>
    iterate 11 walk1
    rename Fr _ _ _ _ => F14
    rename News _ _ _ _ => N14
    rename _ = Data.cell (some (.ref Dc)) => d3
    with_unfolding_all refine' For_turns F14 ?_
    revert w A s Q E L'
    set_option tactic.hygienic false in intros
    as_aux_lemma =>
    iterate 13 walk1
    rename IsRange _ _ _ _ _ _ _ _ => hRg
    rename Fr _ _ _ _ => F15
    rename News _ _ _ _ => N15
    rename (_ < _ ∧ _ < _ ∧ _ < _ ∧ AllLt _ tups) => hlt
    obtain ⟨hlt1, hlt2, hlt3, hlt4⟩ := hlt
    replace hlt1 := ltN hlt1
    replace hlt2 := ltN hlt2
    replace hlt3 := ltN hlt3
    rename Obj => oR
    refine rangeB (n := W.length) hh hRg (range_small (by omega) (by omega) (by omega) (by omega)) (range_size (by omega)) F15 N15 (fun i m' nx => ∃ Rw vs n2 u1, nx = (Rw, PySem.W.listOf vs.toArray n2) :: (L' + 1 + 1, oR) :: (L' + 1, o2') :: (Dc, PySem.W.listOf (tups.map fun p => Value.ref p.1).toArray n) :: tups ∧ All2 SV vs (rowsP W i) ∧
      m' = fun y => if y = Str.ofString "place" then u1 else if y = Str.ofString "rows" then some (.ref Rw) else m0 y) ?_ ?_ ?_
    · refine ⟨_, [_], _, m0 (Str.ofString "place"), rfl, .cons ⟨_, rfl⟩ .nil, ?_⟩
      funext y
      by_cases h1 : y = Str.ofString "place"
      · subst h1; rfl
      · simp only [if_neg h1]
    · rintro i t1 m₁ nx h tk I oI hi hn ⟨Rw, vs, n2, u1, rfl, hvs, rfl⟩ F16 N16
      have hnI2 : ∀ p ∈ tups, @Ne Nat p.1 I := fun p hp => hn p (.tail _ (.tail _ (.tail _ (.tail _ hp))))
      have hI1 := hn _ (.head _)
      have hI2 := hn _ (.tail _ (.head _))
      have hI3 := hn _ (.tail _ (.tail _ (.head _)))
      have hI4 := hn _ (.tail _ (.tail _ (.tail _ (.head _))))
      dsimp only at hI1 hI2 hI3 hI4
      have N17 : News s.heap L' h ((Rw, PySem.W.listOf vs.toArray n2) :: (L' + 1 + 1, oR) :: (L' + 1, o2') :: (Dc, PySem.W.listOf (tups.map fun p => Value.ref p.1).toArray n) :: (I, oI) :: tups) := fun p hp => N16 p (by
        rcases List.mem_cons.mp hp with rfl | hp
        · exact .head _
        rcases List.mem_cons.mp hp with rfl | hp
        · exact .tail _ (.head _)
        rcases List.mem_cons.mp hp with rfl | hp
        · exact .tail _ (.tail _ (.head _))
        rcases List.mem_cons.mp hp with rfl | hp
        · exact .tail _ (.tail _ (.tail _ (.head _)))
        rcases List.mem_cons.mp hp with rfl | hp
        · exact List.mem_append_right _ (.head _)
        · exact List.mem_append_left _ (.tail _ (.tail _ (.tail _ (.tail _ hp)))))
      clear N16 F15 N15 hn
      obtain ⟨hrl, hrm⟩ := rowsP_len W i
      have hvl := hvs.length
      iterate 4 walk1
      rename Fr _ _ _ _ => F18
      rename News _ _ _ _ => N18
      rename Heap => h18
      refine' assignListCompJ2 ?hs2 ?sw2 ?cl2 ?ce2 ?ki2 ?na2 ?xl2 ?body2
      case hs2 => intro _ _; rfl
      case sw2 => with_unfolding_all rfl
      case cl2 => with_unfolding_all rfl
      case ce2 => decide
      case ki2 => rfl
      case na2 => decide
      case xl2 => rfl
      revert w A s Q E L'
      set_option tactic.hygienic false in intros
      as_aux_lemma =>
      repeat walk1
      have hL := News.isList N18 (.head _)
      have hLr := News.isList N18 (.tail _ (.tail _ (.tail _ (.head _))))
      have cR : Heap.IsCell _ (L' + 1 + 1) (some (.ref Dc)) := ⟨oR, (N18 _ (.tail _ (.head _))).1, d3⟩
      have gT : ∀ p ∈ tups, _ := fun p hp => (N18 p (.tail _ (.tail _ (.tail _ (.tail _ (.tail _ hp)))))).1
      refine comp_list2 hh hL (RowJ W i) (fun Dq => ⟨[], 0, none, none, none, rfl, .nil, ?m0⟩) ?turn2 ?done2
      case m0 =>
        funext y
        (repeat' split) <;> rfl
      case turn2 =>
        rintro Dq C I2 i2 v m1 nx h19 tk19 oI2 K2 E2 hi2 hv hDI2 hnI2 ⟨ys, n3, u1, u2, u3, rfl, hys, rfl⟩ F19 N19 hK2
        obtain ⟨r, hr⟩ : ∃ r, (rowsP W i)[i2]? = some r := ⟨_, List.getElem?_eq_getElem (by rw [List.size_toArray] at hi2; omega)⟩
        obtain ⟨v', hv', tr, rfl⟩ := hvs.get hr
        rw [List.getElem?_toArray, hv'] at hv
        cases hv
        have hrl2 : r.length ≤ 5 := by have := hrm r (List.mem_of_getElem? hr); omega
        have hyl := hys.length
        have hfl := flat_len W ((rowsP W i).take i2)
        have h3i : (3 : Nat) ^ i ≤ 3 ^ 5 := Nat.pow_le_pow_right (by decide) (by omega)
        have htl : ((rowsP W i).take i2).length ≤ 243 := by rw [List.length_take]; omega
        have hyb : ys.length ≤ 729 := by omega
        have hDq := hDI2.symm
        unfold compEnd2
        walk1
        dsimp only [List.cons_append, List.nil_append] at N19
        refine inner_list (K₀ := K2) (elt := _) hh F19 N19 hLr (InnJ W i i2 r tr Dq I2 oI2) ?j0 ?turn3 ?done3
        case j0 =>
          refine ⟨ys, n3, u1, u2, rfl, by simpa using hys, ?_⟩
          funext y
          by_cases h1 : y = Str.ofString "row"
          · subst h1; rfl
          · simp only [if_neg h1]
        case turn3 =>
          rintro j v3 m3 nx3 h20 tk20 I3 oI3 K3 E3 hj hnI3 ⟨zs, n4, u4, u5, rfl, hzs, rfl⟩ F20 N20 hK3
          have hjt : j < tups.length := by
            have := (Array.getElem?_eq_some_iff.mp hj).1
            rw [List.size_toArray, List.length_map] at this; exact this
          obtain ⟨c, hc⟩ : ∃ c, filL[j]? = some c := ⟨_, List.getElem?_eq_getElem (by rw [← hR'.h.length]; exact hjt)⟩
          obtain ⟨p3, hp3, t3, u3', ho3⟩ := hR'.h.get hc
          rw [List.getElem?_toArray, List.getElem?_map, hp3] at hj
          cases hj
          have g3 := gT p3 (List.mem_of_getElem? hp3)
          rw [ho3] at g3
          have hT3 : Heap.IsTuple h20 p3.1 #[.str (ST [c]) t3, .int (W.count c : Nat) u3'] := ⟨_, F20.keep _ _ g3, rfl, _, rfl⟩
          have hDI3 := hnI3 _ (.head _)
          have hII3 := hnI3 _ (.tail _ (.head _))
          dsimp only at hDI3 hII3
          have hDq3 := hDI3.symm
          have hnI4 : ∀ v n, ∀ p ∈ [(Dq, PySem.W.listOf (List.toArray v) n), (I2, oI2)], @Ne Nat p.1 I3 := fun v n p hp => by
            rcases List.mem_cons.mp hp with rfl | hp
            · exact hDI3
            · rw [List.mem_singleton.mp hp]; exact hII3
          dsimp only [List.cons_append, List.nil_append] at N20
          have hzl := hzs.length
          have hzb : zs.length ≤ 732 := by
            have hq : ((filL.take j).filter fun c => decide (r.count c < W.count c)).length ≤ 3 := Nat.le_trans (List.length_filter_le _ _) (by rw [List.length_take]; exact Nat.min_le_right _ _)
            rw [List.length_append, List.length_map] at hzl; omega
          have hnext : (filL.take (j + 1)).filter (fun c => decide (r.count c < W.count c)) = (filL.take j).filter (fun c => decide (r.count c < W.count c)) ++ (if r.count c < W.count c then [c] else []) := by
            rw [List.take_add_one, hc, List.filter_append]
            by_cases h : r.count c < W.count c
            · simp [h]
            · simp [h]
          refine kcp_assign hh hT3 rfl rfl rfl F20.ns fun h21 tk21 hn21 k21 => ?_
          obtain ⟨F21, N21⟩ := Fr.assigned F20 N20 hn21 k21
          clear F20 N20 hn21 k21 hT3 F19 N19
          have hs1 : (ST r).length ≤ 5 := by rw [ST_len]; exact hrl2
          have hs2 : (ST [c]).length ≤ 1 := Nat.le_refl 1
          have hcr := count_ST r c
          unfold compEnd
          refine wpAny_tests_one ?_
          revert w A s Q E L'
          set_option tactic.hygienic false in intros
          as_aux_lemma =>
          repeat walk1
          · rename Fr _ _ _ _ => F22
            rename News _ _ _ _ => N22
            rename _ < _ => hlt
            rw [List.push_toArray] at N22
            refine hK3 _ _ _ [(Dq, _), (I2, oI2)] F22 N22 (hnI4 _ _) ⟨zs ++ [_], n4 + 1, some (.int (W.count c : Nat) u3'), some (.str (ST [c]) t3), rfl, ?_, ?_⟩
            · rw [hnext, if_pos (by omega), List.map_append, ← List.append_assoc]
              exact hzs.app (.cons ⟨_, by rw [ST_app]⟩ .nil)
            · funext y
              by_cases h1 : y = Str.ofString "room"
              · subst h1; rfl
              by_cases h2 : y = Str.ofString "letter"
              · subst h2; rfl
              simp only [if_neg h1, if_neg h2]
          · rename Fr _ _ _ _ => F22
            rename News _ _ _ _ => N22
            rename ¬ (_ < _) => hlt
            refine hK3 _ _ _ [(Dq, _), (I2, oI2)] F22 N22 (hnI4 _ _) ⟨zs, n4, some (.int (W.count c : Nat) u3'), some (.str (ST [c]) t3), rfl, ?_, ?_⟩
            · rw [hnext, if_neg (by omega), List.append_nil]
              exact hzs
            · funext y
              by_cases h1 : y = Str.ofString "room"
              · subst h1; rfl
              by_cases h2 : y = Str.ofString "letter"
              · subst h2; rfl
              simp only [if_neg h1, if_neg h2]
        case done3 =>
          rintro m3 nx3 h20 tk20 ⟨zs, n4, u4, u5, rfl, hzs, rfl⟩ F20 N20 _
          refine hK2 _ _ _ [(Dq, _)] F20 N20 (fun p hp => by rw [List.mem_singleton.mp hp]; exact hDI2) ⟨zs, n4, u4, u5, _, rfl, ?_, rfl⟩
          have e1 : (rowsP W i).take (i2 + 1) = (rowsP W i).take i2 ++ [r] := by rw [List.take_add_one, hr]; rfl
          rw [e1, List.flatMap_append]
          have e2 : filL.take (tups.map fun p => Value.ref p.1).toArray.size = filL := by rw [List.size_toArray, List.length_map, hR'.h.length]; rfl
          rw [e2] at hzs
          simpa [rowNext] using hzs
      case done2 =>
        rintro Dq C m1 nx h19 tk19 ⟨zs, n3, u2, u3, u4, rfl, hzs, rfl⟩ F19 N19
        rw [show vs.toArray.size = (rowsP W i).length by rw [List.size_toArray]; exact hvl, List.take_length] at hzs
        have hDqI := fresh_ne (N19 _ (.head _)).2.2 (N18 _ (.tail _ (.tail _ (.tail _ (.tail _ (.head _)))))).1
        refine' compDoneA F19 N19 ?f0 ?n0 ?hy ?hp ?_
        case f0 => exact F18
        case n0 => exact N18
        case hy => rfl
        case hp => rfl
        intro h22 tk22 F22 N22
        clear F18 N18 F19 N19 hL hLr cR gT
        revert w A s Q E L'
        set_option tactic.hygienic false in intros
        as_aux_lemma =>
        repeat walk1
        rename Fr _ _ _ _ => F23
        rename News _ _ _ _ => N23
        refine turn_end (nx := (Dq, PySem.W.listOf zs.toArray n3) :: (L' + 1 + 1, oR) :: (L' + 1, o2') :: (Dc, PySem.W.listOf (tups.map fun p => Value.ref p.1).toArray n) :: tups) F23 (fun p hp => N23 p ?_) (fun p hp => ?_) ⟨Dq, zs, n3, some (.int (0 + (i : Nat)) t1), rfl, hzs, ?_⟩
        · rcases List.mem_append.mp hp with hp | hp
          · rcases List.mem_cons.mp hp with rfl | hp
            · exact .head _
            rcases List.mem_cons.mp hp with rfl | hp
            · exact .tail _ (.tail _ (.head _))
            rcases List.mem_cons.mp hp with rfl | hp
            · exact .tail _ (.tail _ (.tail _ (.head _)))
            rcases List.mem_cons.mp hp with rfl | hp
            · exact .tail _ (.tail _ (.tail _ (.tail _ (.head _))))
            · exact .tail _ (.tail _ (.tail _ (.tail _ (.tail _ (.tail _ hp)))))
          · rw [List.mem_singleton.mp hp]; exact .tail _ (.tail _ (.tail _ (.tail _ (.tail _ (.head _)))))
        · rcases List.mem_cons.mp hp with rfl | hp
          · exact hDqI
          rcases List.mem_cons.mp hp with rfl | hp
          · exact hI2
          rcases List.mem_cons.mp hp with rfl | hp
          · exact hI3
          rcases List.mem_cons.mp hp with rfl | hp
          · exact hI4
          · exact hnI2 p hp
        · funext y
          by_cases h1 : y = Str.ofString "place"
          · subst h1; rfl
          by_cases h2 : y = Str.ofString "rows"
          · subst h2; rfl
          simp only [if_neg h1, if_neg h2]
    · rintro m₁ nx h tk ⟨Rw, vs, n2, u1, rfl, hvs, rfl⟩ F16 N16
      revert w A s Q E L'
      set_option tactic.hygienic false in intros
      as_aux_lemma =>
      k_steps
      rename Fr _ _ _ _ => F4
      have hz1 := N16 _ (.head _)
      exact ret _ _ Rw vs n2 hz1.2.2 (Fr.keep F4) hz1.1 hvs
end Mine
end
end
section
open PySem PySem.W PyProof.Rows PySem.Calls PySem.Spec
set_option Elab.async false
set_option maxRecDepth 100000
noncomputable section
namespace Mine
/-- a maker's table in a part of the ledger -/
noncomputable def TabN (B : Heap) (tl : List (Addr × Obj)) (P : Addr) (l c : Nat) (q : Str) : Prop :=
  ∃ ps, (P, tabObj ps) ∈ tl ∧ (ps = #[] ∨ ∃ c', ps = #[rawInt l, rawInt c, .ref c'] ∧ (B.CodeRec (.ref c') q ∨ ∃ oc vs t, (c', oc) ∈ tl ∧ oc.data = .fields vs ∧ vs[1]? = some (.str q t)))
theorem TabN.mono {B : Heap} {tl tl' : List (Addr × Obj)} {P : Addr} {l c : Nat} {q : Str} (x : TabN B tl P l c q) (k : ∀ p ∈ tl, p ∈ tl') : TabN B tl' P l c q := by
  obtain ⟨ps, h1, h2⟩ := x
  refine ⟨ps, k _ h1, h2.imp id fun ⟨c', e, h3⟩ => ⟨c', e, h3.imp id fun ⟨oc, vs, t, a, b⟩ => ⟨oc, vs, t, k _ a, b⟩⟩⟩
theorem TabN.tab {B h : Heap} {L : Addr} {tl : List (Addr × Obj)} {P : Addr} {l c : Nat} {q : Str} (x : TabN B tl P l c q) (N : News B L h tl) (kB : B.StaysIn h) : Tab h P l c q := by
  obtain ⟨ps, h1, h2⟩ := x
  refine ⟨ps, (N _ h1).1, h2.imp id fun ⟨c', e, h3⟩ => ⟨c', e, ?_⟩⟩
  rcases h3 with ⟨c, o, vs, t, e1, g, r⟩ | ⟨oc, vs, t, hm, r⟩
  · exact ⟨c, o, vs, t, e1, kB _ _ g, r⟩
  · exact ⟨c', oc, vs, t, rfl, (N _ hm).1, r⟩
/-- an object that no step of ours changes: a table, a code, a pair -/
noncomputable def Fixed (o : Obj) : Prop := (∃ vs, o.data = .fields vs) ∨ ∃ vs, o = tupOf vs
theorem tab_split {B h : Heap} {L : Addr} {m : Str → Option Value} {P : Addr} {l c : Nat} {q : Str} (F : Fr B L h m) (hB : B.get? P = none) (x : Tab h P l c q) :
    ∃ tl, News B L h tl ∧ TabN B tl P l c q ∧ ∀ p ∈ tl, Fixed p.2 := by
  obtain ⟨ps, hP, hps⟩ := x
  have notL : ∀ a o vs, h.get? a = some o → o.data = .fields vs → a ≠ L := fun a o vs e hd q => by
    obtain ⟨oL, _, _, g, hdL, _⟩ := F.ns
    rw [q, g] at e; cases e; rw [hd] at hdL; cases hdL
  have N1 : News B L h [(P, tabObj ps)] := fun p hp => by rw [List.mem_singleton.mp hp]; exact ⟨hP, notL _ _ _ hP rfl, hB⟩
  have f1 : ∀ p ∈ [(P, tabObj ps)], Fixed p.2 := fun p hp => by rw [List.mem_singleton.mp hp]; exact .inl ⟨_, rfl⟩
  rcases hps with e | ⟨c', e, hc⟩
  · exact ⟨_, N1, ⟨ps, .head _, .inl e⟩, f1⟩
  obtain ⟨c, o, vs, t, e1, g, hd, hv⟩ := hc
  cases e1
  cases hb : B.get? c' with
  | some o' =>
    have := F.keep _ _ hb
    rw [g] at this; cases this
    exact ⟨_, N1, ⟨ps, .head _, .inr ⟨c', e, .inl ⟨c', o, vs, t, rfl, hb, hd, hv⟩⟩⟩, f1⟩
  | none =>
    refine ⟨[(P, tabObj ps), (c', o)], fun p hp => ?_, ⟨ps, .head _, .inr ⟨c', e, .inr ⟨o, vs, t, .tail _ (.head _), hd, hv⟩⟩⟩, fun p hp => ?_⟩
    · rcases List.mem_cons.mp hp with rfl | hp
      · exact N1 _ (.head _)
      · rw [List.mem_singleton.mp hp]; exact ⟨g, notL _ _ _ g hd, hb⟩
    · rcases List.mem_cons.mp hp with rfl | hp
      · exact f1 _ (.head _)
      · rw [List.mem_singleton.mp hp]; exact .inl ⟨_, hd⟩
theorem tab_but {h h' : Heap} {P P' : Addr} {l c : Nat} {q : Str} {ps : Array Value} (hP : @Ne Nat P P') (x : Tab h P l c q) (hP' : h.get? P' = some (tabObj ps)) (hps : ps = #[] ∨ ∃ a b c', ps = #[rawInt a, rawInt b, .ref c']) (k : StayBut [P'] h h') : Tab h' P l c q := by
  obtain ⟨ps, hp, hc⟩ := x
  refine ⟨ps, k _ _ (notMem1 hP) hp, hc.imp id fun ⟨c', e, y⟩ => ⟨c', e, ?_⟩⟩
  obtain ⟨c, o, vs, t, e1, g, hd, hv⟩ := y
  refine ⟨c, o, vs, t, e1, k _ _ (notMem1 fun z => ?_) g, hd, hv⟩
  rw [show c = P' from z, hP'] at g
  cases g; cases hd
  rcases hps with rfl | ⟨a, b, c', rfl⟩
  · cases hv
  · cases hv
theorem Tab.at {h : Heap} {P : Addr} {l c : Nat} {q : Str} (x : Tab h P l c q) : ∃ ps, h.get? P = some (tabObj ps) ∧ (ps = #[] ∨ ∃ a b c', ps = #[rawInt a, rawInt b, .ref c']) :=
  let ⟨ps, e, y⟩ := x; ⟨ps, e, y.imp id fun ⟨c', e, _⟩ => ⟨l, c, c', e⟩⟩
/-- the ways to pair k cards -/
noncomputable def waysN (a b : Int) : Nat → Int
  | 0 => 1
  | k + 1 => (waysN a b k * (a - k) * (b - k)).fdiv (k + 1)
noncomputable def figL (a b : Int) (k : Nat) : List Int := (List.range k).map (waysN a b)
theorem figL_next (a b : Int) (k : Nat) : figL a b (k + 1) = figL a b k ++ [waysN a b k] := by
  unfold figL; rw [List.range_succ, List.map_append]; rfl
theorem figL_len (a b : Int) (k : Nat) : (figL a b k).length = k := by unfold figL; rw [List.length_map, List.length_range]
theorem ways_bound : ∀ a ∈ List.range 6, ∀ b ∈ List.range 6, ∀ k ∈ List.range (min a b + 1), 0 ≤ waysN (a : Nat) (b : Nat) k ∧ waysN (a : Nat) (b : Nat) k < 1024 := by decide +kernel
theorem ways_bd {a b k : Nat} (ha : a ≤ 5) (hb : b ≤ 5) (hk : k ≤ min a b) : 0 ≤ waysN a b k ∧ waysN a b k < 1024 :=
  ways_bound a (List.mem_range.mpr (by omega)) b (List.mem_range.mpr (by omega)) k (List.mem_range.mpr (by omega))
noncomputable def ltrL (n : Nat) (q : Str × (Int × Int)) : Int := valL n (figL q.2.1 q.2.2 (min q.2.1.toNat q.2.2.toNat + 1))
noncomputable def prodL (n : Nat) (xs : Tbl) : Int := xs.foldl (fun p q => p * ltrL n q) 1
theorem prodL_next {n : Nat} {xs : Tbl} {i : Nat} {q : Str × (Int × Int)} (h : xs[i]? = some q) : prodL n (xs.take (i + 1)) = prodL n (xs.take i) * ltrL n q := by
  unfold prodL; rw [List.take_add_one, h, List.foldl_append]; rfl
theorem pow_1024 {n : Nat} (h : 10 ≤ n) : (1024 : Int) ≤ 2 ^ n := by
  have : (2 : Nat) ^ 10 ≤ 2 ^ n := Nat.pow_le_pow_right (by decide) h
  exact_mod_cast this
theorem ltr_bound {n : Nat} (hn : 10 ≤ n) (hn2 : n ≤ 2509) {xs : Tbl} (hs : Small xs) {q : Str × (Int × Int)} (hq : q ∈ xs) :
    (∀ x ∈ figL q.2.1 q.2.2 (min q.2.1.toNat q.2.2.toNat + 1), 0 ≤ x ∧ x < 2 ^ n) ∧ 0 ≤ ltrL n q ∧ ltrL n q < 2 ^ 15054 := by
  obtain ⟨a0, a5, b0, b5⟩ := hs.sm q hq
  obtain ⟨_, x, y⟩ := q
  dsimp only at a0 a5 b0 b5 ⊢
  obtain ⟨a, rfl⟩ := Int.eq_ofNat_of_zero_le a0
  obtain ⟨b, rfl⟩ := Int.eq_ofNat_of_zero_le b0
  have h1 : ∀ x ∈ figL (a : Nat) (b : Nat) (min a b + 1), 0 ≤ x ∧ x < 2 ^ n := fun x hx => by
    obtain ⟨k, hk, rfl⟩ := List.mem_map.mp hx
    have := ways_bd (a := a) (b := b) (k := k) (by omega) (by omega) (by have := List.mem_range.mp hk; omega)
    have := pow_1024 hn
    omega
  refine ⟨h1, ?_⟩
  have h2 := valL_lt n _ h1
  rw [figL_len] at h2
  refine ⟨h2.1, Int.lt_of_lt_of_le h2.2 ?_⟩
  have : (2 : Nat) ^ (n * (min a b + 1)) ≤ 2 ^ 15054 := Nat.pow_le_pow_right (by decide) (Nat.le_trans (Nat.mul_le_mul hn2 (show min a b + 1 ≤ 6 by omega)) (by decide))
  exact_mod_cast this
theorem prod_bound {n : Nat} (hn : 10 ≤ n) (hn2 : n ≤ 2509) : ∀ (xs : Tbl) (p : Int) (k : Nat), Small xs → 0 ≤ p → p < 2 ^ k → 0 ≤ xs.foldl (fun p q => p * ltrL n q) p ∧ xs.foldl (fun p q => p * ltrL n q) p < 2 ^ (k + 15054 * xs.length)
  | [], p, k, _, h0, h1 => ⟨h0, by simpa using h1⟩
  | q :: r, p, k, hs, h0, h1 => by
    obtain ⟨_, h2, h3⟩ := ltr_bound hn hn2 hs (.head _)
    have hpk : (0 : Int) < 2 ^ k := Int.pow_pos (by decide)
    have h4 : p * ltrL n q < 2 ^ (k + 15054) := by
      rw [Int.pow_add]
      have e1 : p * ltrL n q ≤ 2 ^ k * ltrL n q := Int.mul_le_mul_of_nonneg_right (Int.le_of_lt h1) h2
      have e2 : (2 : Int) ^ k * ltrL n q < 2 ^ k * 2 ^ 15054 := Int.mul_lt_mul_of_pos_left h3 hpk
      exact Int.lt_of_le_of_lt e1 e2
    have := prod_bound hn hn2 r (p * ltrL n q) (k + 15054) ⟨fun q' hq' => hs.sm q' (.tail _ hq')⟩ (Int.mul_nonneg h0 h2) h4
    rw [List.foldl_cons, List.length_cons, show k + 15054 * (r.length + 1) = k + 15054 + 15054 * r.length by omega]
    exact this
theorem prodL_bits {n : Nat} (hn : 10 ≤ n) (hn2 : n ≤ 2509) {xs : Tbl} (hs : Small xs) (i : Nat) (hi : i ≤ 10) : Builtin.Int.intBits (prodL n (xs.take i)) ≤ 160000 := by
  have h := prod_bound hn hn2 (xs.take i) 1 1 ⟨fun q hq => hs.sm q (List.mem_of_mem_take hq)⟩ (by decide) (by decide)
  have := intBits_le_of h.1 h.2
  have e : (xs.take i).length ≤ i := by rw [List.length_take]; omega
  have : Builtin.Int.intBits (prodL n (xs.take i)) ≤ 1 + 15054 * (xs.take i).length := this
  omega
end Mine
end
end
section
open PySem PySem.W PyProof.Rows PySem.Calls PySem.Spec
set_option Elab.async false
set_option maxRecDepth 100000
noncomputable section
namespace Mine
theorem rules_W18 : True := by
  k_with_none
  w_top off
  k_with "storeName" => (k_here; with_reducible show wpAny _ _ (storeName _ _ (Value.int _ (Shared.toks _))) _ _ _; k_dflt (refine storeX_Li (by k_asm) (by k_asm) (fun t_kw h_kw F_kw N_kw => ?_) rfl rfl; try k_sweep))
  k_with "storeName" => (k_here; with_reducible show wpAny _ _ (storeName _ _ (Value.str _ (Shared.toks _))) _ _ _; k_dflt (refine storeX_Ls (by k_asm) (by k_asm) (fun t_kw h_kw F_kw N_kw => ?_) rfl rfl; try k_sweep))
  k_with "call builtin:list.append" => (k_here; (with_reducible show wpAny _ _ (call (Value.builtin _) [Value.ref _, _]) _ _ _); k_dflt (refine' append_K ?kw_k1 ?kw_k2 ?kw_k3 ?_ ?kw_z; (case kw_k1 => k_asm); (case kw_k2 => k_asm); (case kw_k3 => k_upd); (case kw_z => (rw [sizeLine_eq]; simp only [List.size_toArray, List.length_map, List.length_append, List.length_cons, List.length_nil]; omega)); k_whole); intro h_kw F_kw N_kw; (try k_sweep))
  trivial
theorem fillK_W18 : (fun (_ : OpenLaw) (_ : Params → Frag) => True) PySem.Challenge.rw_xe0047_01 KF := by
  k_fill
  trivial
theorem Tab.grow {h h' : Heap} {P : Addr} {l c : Nat} {q : Str} (x : Tab h P l c q) (k : h.StaysIn h') : Tab h' P l c q :=
  let ⟨ps, e, y⟩ := x; ⟨ps, k _ _ e, y.imp id fun ⟨c', e, c, o, vs, t, e1, g, r⟩ => ⟨c', e, c, o, vs, t, e1, k _ _ g, r⟩⟩
/-- what holds before each turn of the outer and of the inner loop -/
inductive PairJ (P : Int) (m0 : Str → Option Value) (m' : Str → Option Value) (nx : List (Addr × Obj)) : Prop
  | mk (enx : nx = []) (u1 u2 u3 u4 u5 : Option Value) (t' : Tok) (em : m' = fun y => if y = Str.ofString "k" then u1 else if y = Str.ofString "ways" then u2 else if y = Str.ofString "figures" then u3 else if y = Str.ofString "behind" then u4 else if y = Str.ofString "ahead" then u5 else if y = Str.ofString "product" then some (.int P t') else m0 y) : PairJ P m0 m' nx
inductive FigJ (fg I : Addr) (oI : Obj) (tl : List (Addr × Obj)) (a b : Nat) (t1 t2 t' : Tok) (P : Int) (m0 : Str → Option Value) (j : Nat) (m' : Str → Option Value) (nx : List (Addr × Obj)) : Prop
  | mk (vs : List Value) (nn : Nat) (u1 : Option Value) (tw : Tok) (enx : nx = (fg, W.listOf (List.toArray vs) nn) :: (I, oI) :: tl) (hv : All2 IV vs (figL a b j)) (em : m' = fun y => if y = Str.ofString "k" then u1 else if y = Str.ofString "ways" then some (.int (waysN a b j) tw) else
      if y = Str.ofString "figures" then some (.ref fg) else if y = Str.ofString "behind" then some (.int (b : Nat) t2) else if y = Str.ofString "ahead" then some (.int (a : Nat) t1) else if y = Str.ofString "product" then some (.int P t') else m0 y) : FigJ fg I oI tl a b t1 t2 t' P m0 j m' nx
set_option maxHeartbeats 2000000 in
theorem pairings_spec (n : Nat) (hn : 10 ≤ n ∧ n ≤ 2509) {w : World} {A : Around} {s : Shared} {B : Heap} {dd : Nat} {Q E : Value → Shared → Prop} (d : Addr) (kvs : List (Str × Value)) (xs : Tbl) (ys : List Int) (tn : Tok)
    (hD : s.heap.DictOf (strKind pw w) d kvs) (hv : DT s.heap kvs xs) (hs : Small xs) (lo : (d == sysModules) = false) (hz : xs.length ≤ 10)
    (hprod : prodL n xs = valL n ys) (hyz : ys.length ≤ 6) (hys : ∀ y ∈ ys, 0 ≤ y ∧ y < 2 ^ n) (htop : ∃ l y, ys = l ++ [y] ∧ 0 < y)
    (G : Env0 w A B (dd + 10)) (kB : B.StaysIn s.heap) (hB37 : B.get? 37 = none) (hB30 : B.get? 30 = none) (hT37 : Tab s.heap 37 47 4 q37) (hT30 : Tab s.heap 30 32 4 q30) (hg : AllBare s.gens)
    (ret : ∀ h' tk' g' D vs nn, AllBare g' → StayBut [37, 30] s.heap h' → Tab h' 37 47 4 q37 → Tab h' 30 32 4 q30 → s.heap.get? D = none → h'.get? D = some (W.listOf vs.toArray nn) → All2 IV vs ys → Q (.ref D) { s with heap := h', toks := tk', gens := g' }) :
    wpAny (model pw w) A (call (.ref 167) [.ref d, .int n tn]) Q E s := by
  refine enterK (binds := [("table", .ref d), ("width", .int n tn)]) G kB rfl rfl rfl rfl (fun L' h₁ G' F' N' => ?_)
  obtain ⟨ps, hP, hps⟩ := id hT37
  obtain ⟨ps', hP', hps'⟩ := id hT30
  have hB' : ∀ P ∈ [37, 30], B.get? P = none := fun P hP => by
    rcases List.mem_cons.mp hP with rfl | hP
    · exact hB37
    · rw [List.mem_singleton.mp hP]; exact hB30
  have G2 := G'.stay (hide_base kB hB')
  have F2 := hide_fr (Ps := [37, 30]) F'
  have hPL := ltN (a := 37) (b := L') (Nat.lt_of_lt_of_le (Heap.lt_size hP) F'.above)
  have hPL' := ltN (a := 30) (b := L') (Nat.lt_of_lt_of_le (Heap.lt_size hP') F'.above)
  have up : ∀ b o, (∀ vs, o.data ≠ .fields vs) → s.heap.get? b = some o → (hideAll s.heap [37, 30]).get? b = some o := fun b o hn e => hideAll_get _ e fun q => by
    rcases List.mem_cons.mp q with rfl | q
    · rw [hP] at e; cases e; exact hn _ rfl
    · rw [List.mem_singleton.mp q, hP'] at e; cases e; exact hn _ rfl
  have hDB : (hideAll s.heap [37, 30]).DictOf (strKind pw w) d kvs := dict_keep hD fun o hn e => up _ o hn e
  have hvB : DT (hideAll s.heap [37, 30]) kvs xs := hv.keep up
  have hBn37 : (hideAll s.heap [37, 30]).get? 37 = none := hideAll_none _ (.head _)
  have hBn30 : (hideAll s.heap [37, 30]).get? 30 = none := hideAll_none _ (.tail _ (.head _))
  have tabUp : ∀ P l c q, Tab s.heap P l c q → Tab h₁ P l c q := fun P l c q ⟨ps, hp, hc⟩ => ⟨ps, F'.keep _ _ hp, hc.imp id fun ⟨c', e, c, o, vs, t, e1, g, r⟩ => ⟨c', e, c, o, vs, t, e1, F'.keep _ _ g, r⟩⟩
  have hT37' := tabUp _ _ _ _ hT37
  have hT30' := tabUp _ _ _ _ hT30
  clear N' hv hD F' hP hP' hps hps' hT37 hT30 tabUp
  obtain ⟨p, l, me, mg, mb, T⟩ := G2.T
  have X := G2.X
  have hh := G2.hh
  have hm0 : ∃ m0 : Str → Option Value, m0 = fun x => List.lookup x [((Str.ofString "table" : Str), Value.ref d), ("width", .int n tn)].reverse := ⟨_, rfl⟩
  obtain ⟨m0, hm0⟩ := hm0
  obtain ⟨tl, Ntl, x37, x30, htl⟩ : ∃ tl, News (hideAll s.heap [37, 30]) L' h₁ tl ∧ TabN (hideAll s.heap [37, 30]) tl 37 47 4 q37 ∧ TabN (hideAll s.heap [37, 30]) tl 30 32 4 q30 ∧ ∀ p ∈ tl, Fixed p.2 := by
    obtain ⟨t1, a1, b1, c1⟩ := tab_split F2 hBn37 hT37'
    obtain ⟨t2, a2, b2, c2⟩ := tab_split F2 hBn30 hT30'
    exact ⟨t1 ++ t2, a1.append a2, b1.mono fun p hp => List.mem_append_left _ hp, b2.mono fun p hp => List.mem_append_right _ hp, fun p hp => (List.mem_append.mp hp).elim (c1 p) (c2 p)⟩
  clear hT37' hT30'
  iterate 5 walk1
  rename Fr _ _ _ _ => F1
  rename News _ _ _ _ => N1
  refine' For_G ?_
  walk1
  walk1
  refine meth_values F1 N1 hDB lo fun h2 vw hvw F3 N3 => ?_
  have k37 := TabN.tab x37 N3 F3.keep
  have k30 := TabN.tab x30 N3 F3.keep
  clear x37 x30 htl N1 F1 N3
  refine valuesG (knd := strKind pw w) hh (by passes_own) hg F3 (News.nil (h₀ := hideAll s.heap [37, 30]) (L := L')) hvw hDB (fun i h m' nx => Tab h 37 47 4 q37 ∧ Tab h 30 32 4 q30 ∧ PairJ (prodL n (xs.take i)) m0 m' nx) ?_ ?_ ?_ ?_
  · intro o
    refine ⟨k37.grow fun b o e => Heap.get?_push_of_some _ e, k30.grow fun b o e => Heap.get?_push_of_some _ e, rfl, m0 (Str.ofString "k"), m0 (Str.ofString "ways"), m0 (Str.ofString "figures"), m0 (Str.ofString "behind"), m0 (Str.ofString "ahead"), ?tk0, ?_⟩
    rotate_left
    subst hm0
    funext y
    by_cases h1 : y = Str.ofString "k"
    · subst h1; rfl
    by_cases h2 : y = Str.ofString "ways"
    · subst h2; rfl
    by_cases h3 : y = Str.ofString "figures"
    · subst h3; rfl
    by_cases h4 : y = Str.ofString "behind"
    · subst h4; rfl
    by_cases h5 : y = Str.ofString "ahead"
    · subst h5; rfl
    simp only [if_neg h1, if_neg h2, if_neg h3, if_neg h4, if_neg h5]; rfl
  · rintro i h h' m nx ⟨x, y, z⟩ st
    have hlt := F3.ns.lt
    exact ⟨tab_still (Nat.ne_of_lt (Nat.lt_trans hPL hlt)) x st, tab_still (Nat.ne_of_lt (Nat.lt_trans hPL' hlt)) y st, z⟩
  · rintro i k v m₁ nx h tk g I oI hi hg1 hLI _ ⟨k37, k30, rfl, u1, u2, u3, u4, u5, t', rfl⟩ F4 N4
    obtain ⟨x, hx⟩ : ∃ x, xs[i]? = some x := ⟨_, List.getElem?_eq_getElem (by rw [← hvB.length]; exact (List.getElem?_eq_some_iff.mp hi).1)⟩
    obtain ⟨p, hp, hk1, T1, t1, t2, hv1, g1⟩ := hvB.get hx
    rw [hi] at hp; cases hp
    dsimp only at hv1
    subst hv1
    obtain ⟨b1, b2, b3, b4⟩ := hs.sm x (List.mem_of_getElem? hx)
    have hxp := ltr_bound hn.1 hn.2 hs (List.mem_of_getElem? hx)
    obtain ⟨kx, ax, bx⟩ := x
    dsimp only at b1 b2 b3 b4 g1 hk1 ⊢
    obtain ⟨a, rfl⟩ := Int.eq_ofNat_of_zero_le b1
    obtain ⟨b, rfl⟩ := Int.eq_ofNat_of_zero_le b3
    have hT1 : Heap.IsTuple h T1 #[.int (a : Nat) t1, .int (b : Nat) t2] := ⟨_, F4.keep _ _ g1, rfl, _, rfl⟩
    obtain ⟨tl, Ntl, x37, x30, htl⟩ : ∃ tl, News (hideAll s.heap [37, 30]) L' h tl ∧ TabN (hideAll s.heap [37, 30]) tl 37 47 4 q37 ∧ TabN (hideAll s.heap [37, 30]) tl 30 32 4 q30 ∧ ∀ p ∈ tl, Fixed p.2 := by
      obtain ⟨t1, a1, b1, c1⟩ := tab_split F4 hBn37 k37
      obtain ⟨t2, a2, b2, c2⟩ := tab_split F4 hBn30 k30
      exact ⟨t1 ++ t2, a1.append a2, b1.mono fun p hp => List.mem_append_left _ hp, b2.mono fun p hp => List.mem_append_right _ hp, fun p hp => (List.mem_append.mp hp).elim (c1 p) (c2 p)⟩
    have N5 : News (hideAll s.heap [37, 30]) L' h ((I, oI) :: tl) := fun p hp => by
      rcases List.mem_cons.mp hp with rfl | hp
      · exact N4 _ (.head _)
      · exact Ntl p hp
    clear k37 k30 N4 Ntl F3
    refine' unpackN_ F4 N5 hT1 ?k1 ?k2 ?k3 ?_
    case k1 => exact hh
    case k2 => exact rfl
    case k3 => exact rfl
    intro h5 F5 N5
    iterate 20 walk1
    rename Fr _ _ _ _ => F6
    rename News _ _ _ _ => N6
    rename (_ < _ ∧ AllLt _ tl) => hlt
    rename_i fg _ _

    with_unfolding_all refine' For_turns F6 ?_
    iterate 13 walk1
    obtain ⟨hltI, hltT⟩ := hlt
    replace hltI := ltN hltI
    refine min_two_N hh F6 N6 fun h7 tk7 F7 N7 => ?_
    clear F6 N6
    have emin : (if ((b : Nat) : Int) < (a : Nat) then ((b : Nat) : Int) else (a : Nat)) = ((min a b : Nat) : Int) := by
      split <;> omega
    rw [emin]
    have hmn : min a b ≤ 5 := by omega
    repeat walk1
    rename IsRange _ _ _ _ _ _ _ _ => hR
    rename Fr _ _ _ _ => F8
    rename News _ _ _ _ => N8
    refine rangeB (n := min a b + 1) hh hR (range_small (by omega) (by omega) (by omega) (by omega)) (range_size (by omega)) F8 N8 (FigJ fg I oI tl a b t1 t2 t' (prodL n (xs.take i)) m0) ?_ ?_ ?_
    · refine ⟨[], 0, u1, ?tw0, rfl, .nil, ?_⟩
      rotate_left
      funext y
      by_cases h1 : y = Str.ofString "k"
      · subst h1; rfl
      by_cases h2 : y = Str.ofString "ways"
      · subst h2; rfl
      by_cases h3 : y = Str.ofString "figures"
      · subst h3; rfl
      by_cases h4 : y = Str.ofString "behind"
      · subst h4; rfl
      by_cases h5 : y = Str.ofString "ahead"
      · subst h5; rfl
      simp only [if_neg h1, if_neg h2, if_neg h3, if_neg h4, if_neg h5]
    · rintro j tj m₁ nx h9 tk9 I' oI' hj hn' ⟨vs, nn, u6, tw, rfl, hvs, rfl⟩ F9 N9
      have hI'f := hn' _ (.head _)
      have hI'I := hn' _ (.tail _ (.head _))
      dsimp only at hI'f hI'I
      have hfI' := hI'f.symm
      have N10 : News (hideAll s.heap [37, 30]) L' h9 ((fg, W.listOf (List.toArray vs) nn) :: (I, oI) :: (I', oI') :: tl) := fun p hp => N9 p (by
        rcases List.mem_cons.mp hp with rfl | hp
        · exact .head _
        rcases List.mem_cons.mp hp with rfl | hp
        · exact .tail _ (.head _)
        rcases List.mem_cons.mp hp with rfl | hp
        · exact List.mem_append_right _ (.head _)
        · exact List.mem_append_left _ (.tail _ (.tail _ hp)))
      clear N9 F8 N8 hR
      have hoff : OwnOff tl [fg] := fun p hp q hq => by
        rw [List.mem_singleton.mp hq]
        exact Nat.ne_of_lt (kst_ltOf hltT p hp)
      have hvl := hvs.length
      rw [figL_len] at hvl
      have hw := ways_bd (a := a) (b := b) (k := j) (by omega) (by omega) (by omega)
      have ew : waysN a b (j + 1) = (waysN a b j * ((a : Nat) - (0 + (j : Nat))) * ((b : Nat) - (0 + (j : Nat)))).fdiv (0 + (j : Nat) + 1) := by
        rw [Int.zero_add]; rfl
      have ef := figL_next a b j
      generalize waysN a b j = Wv at hw ew F9 ef
      obtain ⟨hw1, hw2⟩ := hw
      repeat walk1
      rename Fr _ _ _ _ => F10
      rename News _ _ _ _ => N10
      rw [List.push_toArray] at N10
      show TurnEnd _ _ _ _ _ _ _
      refine turn_end (nx := (fg, W.listOf (List.toArray (vs ++ [.int Wv tw])) (nn + 1)) :: (I, oI) :: tl) F10 (fun p hp => N10 p ?_) (fun p hp => ?_) ?_
      · rcases List.mem_append.mp hp with hp | hp
        · rcases List.mem_cons.mp hp with rfl | hp
          · exact .head _
          rcases List.mem_cons.mp hp with rfl | hp
          · exact .tail _ (.head _)
          · exact .tail _ (.tail _ (.tail _ hp))
        · rw [List.mem_singleton.mp hp]; exact .tail _ (.tail _ (.head _))
      · rcases List.mem_cons.mp hp with rfl | hp
        · exact hI'f
        rcases List.mem_cons.mp hp with rfl | hp
        · exact hI'I
        · exact hn' p (.tail _ (.tail _ hp))
      · refine ⟨vs ++ [.int Wv tw], nn + 1, some (.int (0 + (j : Nat)) tj), ?tw9, rfl, ?_, ?_⟩
        rotate_left
        rw [ef]; exact hvs.app (.cons ⟨_, rfl⟩ .nil)
        rw [ew]
        funext y
        by_cases h1 : y = Str.ofString "k"
        · subst h1; rfl
        by_cases h2 : y = Str.ofString "ways"
        · subst h2; rfl
        simp only [if_neg h1, if_neg h2]
    · rintro m₁ nx h9 tk9 ⟨vs, nn, u6, tw, rfl, hvs, rfl⟩ F9 N9
      subst hm0
      clear F8 N8 hR
      have hvl := hvs.length
      rw [figL_len] at hvl
      repeat walk1
      rename Fr _ _ _ _ => F10
      rename News _ _ _ _ => N10
      have e1 : min ((kx, ((a : Nat) : Int), ((b : Nat) : Int)) : Str × Int × Int).2.1.toNat ((kx, ((a : Nat) : Int), ((b : Nat) : Int)) : Str × Int × Int).2.2.toNat + 1 = min a b + 1 := rfl
      rw [e1] at hxp
      have zf := N10 _ (.head _)
      have zI := N10 _ (.tail _ (.head _))
      have Ntl : News (hideAll s.heap [37, 30]) L' _ tl := fun p hp => N10 p (.tail _ (.tail _ hp))
      have k37 := TabN.tab x37 Ntl F10.keep
      have k30 := TabN.tab x30 Ntl F10.keep
      refine d2i_spec (dd := dd) n (figL a b (min a b + 1)) ⟨by omega, hn.2⟩ (by rw [figL_len]; omega) (by rw [figL_len]; omega) hxp.1 fg vs nn tn zf.1 hvs (G2.down (by omega)) F10.keep hBn37 k37 ?_
      intro h11 tk11 t11 k11 hT11
      obtain ⟨psA, gA, rA⟩ := k37.at
      have k30' := tab_but (by decide) k30 gA rA k11
      have hBn' : ∀ P ∈ [37], (hideAll s.heap [37, 30]).get? P = none := fun P hP => by rw [List.mem_singleton.mp hP]; exact hBn37
      have hI37 : I ≠ 37 := fun q => by rw [q] at hLI; exact Nat.lt_irrefl _ (Nat.lt_trans hLI hPL)
      have F11 := Fr.but F10 hBn' (notMem1 (Nat.ne_of_gt hPL)) k11
      have NI : News (hideAll s.heap [37, 30]) L' h11 [(I, oI)] := fun p hp => by rw [List.mem_singleton.mp hp]; exact ⟨k11 _ _ (notMem1 hI37) zI.1, zI.2⟩
      clear F10 N10 zf zI Ntl k37 k30 x37 x30 gA k11
      obtain ⟨tl2, Ntl2, y37, y30, _⟩ : ∃ tl, News (hideAll s.heap [37, 30]) L' h11 tl ∧ TabN (hideAll s.heap [37, 30]) tl 37 47 4 q37 ∧ TabN (hideAll s.heap [37, 30]) tl 30 32 4 q30 ∧ ∀ p ∈ tl, Fixed p.2 := by
        obtain ⟨t1, a1, b1, c1⟩ := tab_split F11 hBn37 hT11.tab
        obtain ⟨t2, a2, b2, c2⟩ := tab_split F11 hBn30 k30'
        exact ⟨t1 ++ t2, a1.append a2, b1.mono fun p hp => List.mem_append_left _ hp, b2.mono fun p hp => List.mem_append_right _ hp, fun p hp => (List.mem_append.mp hp).elim (c1 p) (c2 p)⟩
      have N11 : News (hideAll s.heap [37, 30]) L' h11 ((I, oI) :: tl2) := fun p hp => by
        rcases List.mem_cons.mp hp with rfl | hp
        · exact NI _ (.head _)
        · exact Ntl2 p hp
      have ez : valL n (figL a b (min a b + 1)) = ltrL n (kx, (a : Nat), (b : Nat)) := rfl
      rw [ez]
      have enx := prodL_next (n := n) hx
      have hpb := prodL_bits hn.1 hn.2 hs i (by have := (List.getElem?_eq_some_iff.mp hx).1; omega)
      have hlb := intBits_le_of hxp.2.1 hxp.2.2
      have mo : IntMulOk (prodL n (xs.take i)) (ltrL n (kx, (a : Nat), (b : Nat))) := IntMulOk.of_le hpb hlb (by decide)
      clear Ntl2 NI
      repeat walk1
      rename Fr _ _ _ _ => F12
      rename News _ _ _ _ => N12
      have Ntl3 : News (hideAll s.heap [37, 30]) L' _ tl2 := fun p hp => N12 p (.tail _ hp)
      refine turn_endG (nx := []) hg1 F12 (fun p hp => by rw [List.mem_singleton.mp hp]; exact N12 _ (.head _)) (fun _ h => nomatch h) ⟨TabN.tab y37 Ntl3 F12.keep, TabN.tab y30 Ntl3 F12.keep, rfl, u6, some (.int (waysN a b (min a b + 1)) tw), some (.ref fg), some (.int (b : Nat) t2), some (.int (a : Nat) t1), ?t9, ?_⟩
      rotate_left
      rw [enx]
      funext y
      by_cases h1 : y = Str.ofString "k"
      · subst h1; rfl
      by_cases h2 : y = Str.ofString "ways"
      · subst h2; rfl
      by_cases h3 : y = Str.ofString "figures"
      · subst h3; rfl
      by_cases h4 : y = Str.ofString "behind"
      · subst h4; rfl
      by_cases h5 : y = Str.ofString "ahead"
      · subst h5; rfl
      by_cases h6 : y = Str.ofString "product"
      · subst h6; rfl
      simp only [if_neg h1, if_neg h2, if_neg h3, if_neg h4, if_neg h5, if_neg h6]
  · rintro m₁ nx h tk g hg1 ⟨k37, k30, rfl, u1, u2, u3, u4, u5, t', rfl⟩ F4 N4
    rw [show kvs.length = xs.length from hvB.length, List.take_length, hprod] at F4
    subst hm0
    obtain ⟨tl, Ntl, x37, x30, _⟩ : ∃ tl, News (hideAll s.heap [37, 30]) L' h tl ∧ TabN (hideAll s.heap [37, 30]) tl 37 47 4 q37 ∧ TabN (hideAll s.heap [37, 30]) tl 30 32 4 q30 ∧ ∀ p ∈ tl, Fixed p.2 := by
      obtain ⟨t1, a1, b1, c1⟩ := tab_split F4 hBn37 k37
      obtain ⟨t2, a2, b2, c2⟩ := tab_split F4 hBn30 k30
      exact ⟨t1 ++ t2, a1.append a2, b1.mono fun p hp => List.mem_append_left _ hp, b2.mono fun p hp => List.mem_append_right _ hp, fun p hp => (List.mem_append.mp hp).elim (c1 p) (c2 p)⟩
    clear k37 k30 F3 N4
    repeat walk1
    rename Fr _ _ _ _ => F5
    rename News _ _ _ _ => N5
    have k37 := TabN.tab x37 N5 F5.keep
    have k30 := TabN.tab x30 N5 F5.keep
    refine i2d_spec (dd := dd) n ys ⟨by omega, hn.2⟩ hyz hys htop _ tn (G2.down (by omega)) F5.keep hBn30 k30 ?_
    intro h6 tk6 D vs nn k6 hT6 hD6 gD hV
    obtain ⟨psA, gA, rA⟩ := k30.at
    have k37' := tab_but (by decide) k37 gA rA k6
    have hDB : (hideAll s.heap [37, 30]).get? D = none := Fr.noB F5 hD6
    have hD0 : s.heap.get? D = none := by
      cases q : s.heap.get? D with
      | none => rfl
      | some o =>
        exfalso
        have hin : D ∈ [37, 30] := Classical.byContradiction fun hn => by rw [hideAll_get _ q hn] at hDB; cases hDB
        obtain ⟨psB, gB, _⟩ := k37.at
        rcases List.mem_cons.mp hin with e | e
        · rw [e, gB] at hD6; cases hD6
        · rw [List.mem_singleton.mp e, gA] at hD6; cases hD6
    have kS : StayBut [37, 30] s.heap h6 := fun b o hb e => k6 b o (fun q => hb (.tail _ q)) (F5.keep _ _ (hideAll_get _ e hb))
    exact ret h6 _ g D vs nn hg1 kS k37' hT6.tab hD0 gD hV
end Mine
end
end
section
open PySem PySem.W PyProof.Rows PySem.Calls PySem.Spec
set_option Elab.async false
set_option maxRecDepth 100000
noncomputable section
namespace Mine
/-- an object that hiding tables leaves -/
theorem hide_keep {h : Heap} {Ps : List Addr} (hP : ∀ P ∈ Ps, ∃ ps, h.get? P = some (tabObj ps)) {b : Addr} {o : Obj} (e : h.get? b = some o) (ho : o.cls ≠ .none ∨ ∀ vs, o.data ≠ .fields vs) : (hideAll h Ps).get? b = some o :=
  hideAll_get _ e fun q => by
    obtain ⟨ps, g⟩ := hP b q
    rw [e] at g; cases g
    rcases ho with ho | ho
    · exact ho rfl
    · exact ho _ rfl
theorem ns_hide {h : Heap} {Ps : List Addr} (hP : ∀ P ∈ Ps, ∃ ps, h.get? P = some (tabObj ps)) {a : Addr} {m : Str → Option Value} (x : h.Ns a m) : (hideAll h Ps).Ns a m :=
  let ⟨o, es, ep, e, hd, r⟩ := x; ⟨o, es, ep, hide_keep hP e (.inr fun vs q => by rw [hd] at q; cases q), hd, r⟩
noncomputable def noProg : Program := { qv with main := { qv.main with body := [.Import [⟨"sys", none, ⟨0, 0, 0, 0⟩⟩] ⟨0, 0, 0, 0⟩] } }
theorem top_hide {p : Program} {l : List Str} {me : ExcName → Option Value} {mg mb : Str → Option Value} {h : Heap} {Ps : List Addr} (T : Top p l me mg mb h) (hP : ∀ P ∈ Ps, ∃ ps, h.get? P = some (tabObj ps)) :
    ∃ l', Top noProg l' me mg mb (hideAll h Ps) := by
  refine ⟨l ++ (recsOf p).map (·.name) ++ (litsOf p).map (·.1) ++ (clssOf p l).map (·.name), ns_hide hP T.g, ns_hide hP T.b, ?_, ?_, ?_, ?_, ?_, ?_, T.builtins, ?_, ?_, ?_⟩
  · obtain ⟨mc, h1, h2⟩ := T.nolimit; exact ⟨mc, ns_hide hP h1, h2⟩
  · obtain ⟨mc, h1, h2⟩ := T.nodigits; exact ⟨mc, ns_hide hP h1, h2⟩
  · intro d hd; exact nomatch (show d ∈ ([] : List _) from hd)
  · intro d hd; exact nomatch (show d ∈ ([] : List _) from hd)
  · intro x d hd; cases hd
  · intro x h1 h2 _ _ _
    simp only [List.mem_append, not_or] at h2
    exact T.free x h1 h2.1.1.1 h2.1.1.2 h2.1.2 h2.2
  · intro d hd; exact nomatch (show d ∈ ([] : List _) from hd)
  · obtain ⟨bm, ob, b1, b2, b3, b4, b5⟩ := T.bmain
    exact ⟨bm, ob, b1, b2, hide_keep hP b3 (.inl (by rw [b4]; exact fun q => nomatch q)), b4, b5⟩
  · intro hi; exact absurd hi (by decide)
theorem oldK_tabs {h h' : Heap} {c1 c2 c3 : Addr} (k : StayBut [37, 30, 51] h h') (C1 : CodeHd h c1 37) (C2 : CodeHd h c2 30) (C3 : CodeHd h c3 51)
    (g1 : h.get? 37 = some tab0) (g2 : h.get? 30 = some tab0) (g3 : h.get? 51 = some tab0) (t1 : ∃ ps, h'.get? 37 = some (tabObj ps)) (t2 : ∃ ps, h'.get? 30 = some (tabObj ps)) (t3 : ∃ ps, h'.get? 51 = some (tabObj ps)) : OldK h h' := by
  have key : ∀ b o, h.get? b = some o → (h'.get? b = some o) ∨ ∃ c P ps, b = P ∧ CodeHd h c P ∧ o = tab0 ∧ h.get? P = some tab0 ∧ h'.get? P = some (tabObj ps) := fun b o e => by
    by_cases hb : b ∈ [37, 30, 51]
    · right
      simp only [List.mem_cons, List.not_mem_nil, or_false] at hb
      rcases hb with rfl | rfl | rfl
      · obtain ⟨ps, t⟩ := t1; exact ⟨c1, _, ps, rfl, C1, Option.some.inj (e.symm.trans g1), g1, t⟩
      · obtain ⟨ps, t⟩ := t2; exact ⟨c2, _, ps, rfl, C2, Option.some.inj (e.symm.trans g2), g2, t⟩
      · obtain ⟨ps, t⟩ := t3; exact ⟨c3, _, ps, rfl, C3, Option.some.inj (e.symm.trans g3), g3, t⟩
    · exact .inl (k b o hb e)
  refine ⟨fun b o e => ?_, fun b o e => ?_⟩
  · rcases key b o e with x | ⟨c, P, ps, rfl, C, rfl, g, t⟩
    · exact .inl x
    · exact .inr (.inl ⟨(C.tab g).isCodeTable, rfl, #[], ps, rfl, by rw [t, Array.empty_append]; rfl⟩)
  · rcases key b o e with x | ⟨c, P, ps, rfl, C, rfl, g, t⟩
    · exact ⟨_, x⟩
    · exact ⟨_, t⟩
end Mine
end
end
section
open PySem PySem.W PyProof.Rows PySem.Calls PySem.Spec
set_option Elab.async false
set_option maxRecDepth 100000
noncomputable section
namespace Mine
/-- what a call of the law gives back -/
noncomputable def LawSpec : Prop := ∀ {w : World} {A : Around} {s : Shared} {B : Heap} {Q E : Value → Shared → Prop} (a : Addr) (vs : List Value) (ns : List Int),
  B.IsList a vs.toArray → All2 IV vs ns → ns.length ≤ 63 → Env0 w A B 30 → B.StaysIn s.heap → B.objs.size ≤ s.heap.objs.size → B.get? 37 = none → B.get? 30 = none → B.get? 51 = none →
  Tab s.heap 37 47 4 q37 → Tab s.heap 30 32 4 q30 → TabG s.heap 51 66 42 → AllBare s.gens →
  (∀ h' tk' g', AllBare g' → B.StaysIn h' → Tab h' 37 47 4 q37 → Tab h' 30 32 4 q30 → TabG h' 51 66 42 → Q (.bool true) { s with heap := h', toks := tk', gens := g' }) →
  wpAny (model pw w) A (call (.ref 198) [.ref a]) Q E s
theorem all2_ints {vs : List Value} {ns : List Int} (h : IntsAre vs ns) : All2 IV vs ns := by
  induction h with
  | nil => exact .nil
  | cons n t _ ih => exact .cons ⟨t, rfl⟩ ih
theorem ints_all2 {vs : List Value} {ns : List Int} (h : All2 IV vs ns) : IntsAre vs ns := by
  induction h with
  | nil => exact .nil
  | cons a _ ih => obtain ⟨t, rfl⟩ := a; exact .cons _ t ih
set_option maxHeartbeats 4000000 in
theorem walk_of (LS : LawSpec) : WalkO qv lsv (fun _ _ => True) hk.says (PySem.Challenge.rw_xe0047_01.row.toRowW) dL [] fun f vs => call f vs := by
  k_fill
  intro w s₀ s₁ mg mb G Y fa o pm cd doc dV kV ho hd hcd hD hmg hg args vals as hpre hlay hrd hwl hlo
  have KX : (KF2 w.params).In s₁.heap := kIn_of Y
  have T := G.T
  have e : mg dL.name = some (.ref 198) := mg_of KX T.g (by kernel_rfl)
  rw [hmg] at e
  cases e
  wrow_args hpre hlay hrd hwl hlo
  rename IntsAre _ _ => hI
  rename Heap.IsList _ _ _ => hL
  rename ¬ (63 : Int) < _ => hlen
  have g37 : s₁.heap.get? 37 = some tab0 := KX _ _ (by kernel_rfl)
  have g30 : s₁.heap.get? 30 = some tab0 := KX _ _ (by kernel_rfl)
  have g51 : s₁.heap.get? 51 = some tab0 := KX _ _ (by kernel_rfl)
  have hP : ∀ P ∈ [37, 30, 51], ∃ ps, s₁.heap.get? P = some (tabObj ps) := fun P hP => by
    simp only [List.mem_cons, List.not_mem_nil, or_false] at hP
    rcases hP with rfl | rfl | rfl
    · exact ⟨#[], g37⟩
    · exact ⟨#[], g30⟩
    · exact ⟨#[], g51⟩
  have X0 : (KF w.params).In s₁.heap := fun a o e => KX a o (by
    show (KF w.params ++ _).lookup a = some o
    rw [List.lookup_append, e]; rfl)
  have XB : (KF w.params).In (hideAll s₁.heap [37, 30, 51]) := fun a o e => hideAll_get _ (X0 a o e) fun q => by
    simp only [List.mem_cons, List.not_mem_nil, or_false] at q
    rcases q with rfl | rfl | rfl
    · rw [show (KF w.params).lookup 37 = none by kernel_rfl] at e; cases e
    · rw [show (KF w.params).lookup 30 = none by kernel_rfl] at e; cases e
    · rw [show (KF w.params).lookup 51 = none by kernel_rfl] at e; cases e
  obtain ⟨l', T'⟩ := top_hide T hP
  have C37 : CodeHd s₁.heap 41 37 := codeHd_of_K X0 (by kernel_rfl)
  have C30 : CodeHd s₁.heap 34 30 := codeHd_of_K X0 (by kernel_rfl)
  have C51 : CodeHd s₁.heap 55 51 := codeHd_of_K X0 (by kernel_rfl)
  have GE : Env0 w callerA (hideAll s₁.heap [37, 30, 51]) 30 := ⟨XB, ⟨_, _, _, _, _, T'⟩, rfl, by decide, by decide⟩
  have hLB : (hideAll s₁.heap [37, 30, 51]).IsList _ _ := let ⟨o, e, hc, n, hd⟩ := hL; ⟨o, hide_keep hP e (.inr fun vs q => by rw [hd] at q; cases q), hc, n, hd⟩
  refine LS (B := hideAll s₁.heap [37, 30, 51]) _ _ _ hLB (all2_ints hI) (by omega) GE (fun b o e => of_hideAll _ e) (Nat.le_of_eq (hideAll_size _ _)) (hideAll_none _ (by decide)) (hideAll_none _ (by decide)) (hideAll_none _ (by decide))
    ⟨_, g37, .inl rfl⟩ ⟨_, g30, .inl rfl⟩ ⟨_, g51, .inl rfl⟩ (by rw [hg]; exact .of_eq rfl) ?_
  intro h' tk' g' hg' hB t37 t30 t51
  have hS : StayBut [37, 30, 51] s₁.heap h' := fun b o hb e => hB _ _ (hideAll_get _ e hb)
  refine ⟨.inl ⟨_, .bool true, [], rfl, ?_, ?_, ?_, ?_⟩, oldK_tabs hS C37 C30 C51 g37 g30 g51 (let ⟨ps, e, _⟩ := t37; ⟨ps, e⟩) (let ⟨ps, e, _⟩ := t30; ⟨ps, e⟩) (let ⟨ps, e, _⟩ := t51; ⟨ps, e⟩), rfl, hg'⟩
  · exact fun cls => raisesW_false (r := PySem.Challenge.rw_xe0047_01.row.toRowW) (fun ct hct => absurd hct (by show ct ∉ []; exact List.not_mem_nil)) cls
  · exact .bool true
  · exact postW_of rfl (w_eq_bool (w_res rfl) w_lit) rfl
  · exact unshared_nil
end Mine
end
end
section
open PySem PySem.W PyProof.Rows PySem.Calls PySem.Spec
set_option Elab.async false
set_option maxRecDepth 100000
noncomputable section
namespace Mine
theorem kc_three {cm : Str → Option Value} {n₁ n₂ n₃ : Str} {c₁ c₂ c₃ : Addr} {r : List (Str × Addr)} {cells : List (Addr × Obj)} (x : CellsAre cm ((n₁, c₁) :: (n₂, c₂) :: (n₃, c₃) :: r) cells) :
    ∃ o₁ o₂ o₃ t, cells = (c₁, o₁) :: (c₂, o₂) :: (c₃, o₃) :: t ∧ (o₁.data = .cell (cm n₁) ∧ o₂.data = .cell (cm n₂) ∧ o₃.data = .cell (cm n₃)) ∧ CellsAre cm r t := by
  cases x with
  | cons h1 x => cases x with
    | cons h2 x => cases x with
      | cons h3 x => exact ⟨_, _, _, _, rfl, ⟨h1, h2, h3⟩, x⟩
theorem kc_nil {cm : Str → Option Value} {cells : List (Addr × Obj)} (x : CellsAre cm [] cells) : cells = [] := by cases x; rfl
/-- nine cells, one by one -/
inductive Nine (cm : Str → Option Value) (n₁ n₂ n₃ n₄ n₅ n₆ n₇ n₈ n₉ : Str) (c₁ c₂ c₃ c₄ c₅ c₆ c₇ c₈ c₉ : Addr) (cells : List (Addr × Obj)) : Prop
  | mk (o₁ o₂ o₃ o₄ o₅ o₆ o₇ o₈ o₉ : Obj) (e : cells = [(c₁, o₁), (c₂, o₂), (c₃, o₃), (c₄, o₄), (c₅, o₅), (c₆, o₆), (c₇, o₇), (c₈, o₈), (c₉, o₉)]) (d0 : o₁.data = .cell (cm n₁)) (d1 : o₂.data = .cell (cm n₂)) (d2 : o₃.data = .cell (cm n₃)) (d3 : o₄.data = .cell (cm n₄)) (d4 : o₅.data = .cell (cm n₅)) (d5 : o₆.data = .cell (cm n₆)) (d6 : o₇.data = .cell (cm n₇)) (d7 : o₈.data = .cell (cm n₈)) (d8 : o₉.data = .cell (cm n₉)) : Nine cm n₁ n₂ n₃ n₄ n₅ n₆ n₇ n₈ n₉ c₁ c₂ c₃ c₄ c₅ c₆ c₇ c₈ c₉ cells
theorem kc_nine {cm : Str → Option Value} {n₁ n₂ n₃ n₄ n₅ n₆ n₇ n₈ n₉ : Str} {c₁ c₂ c₃ c₄ c₅ c₆ c₇ c₈ c₉ : Addr} {cells : List (Addr × Obj)} (x : CellsAre cm [(n₁, c₁), (n₂, c₂), (n₃, c₃), (n₄, c₄), (n₅, c₅), (n₆, c₆), (n₇, c₇), (n₈, c₈), (n₉, c₉)] cells) : Nine cm n₁ n₂ n₃ n₄ n₅ n₆ n₇ n₈ n₉ c₁ c₂ c₃ c₄ c₅ c₆ c₇ c₈ c₉ cells := by
  obtain ⟨o₁, o₂, o₃, t, e, h, x⟩ := kc_three x
  obtain ⟨o₄, o₅, o₆, t', e', h', x⟩ := kc_three x
  obtain ⟨o₇, o₈, o₉, t'', e'', h'', x⟩ := kc_three x
  exact ⟨o₁, o₂, o₃, o₄, o₅, o₆, o₇, o₈, o₉, by rw [e, e', e'', kc_nil x], h.1, h.2.1, h.2.2, h'.1, h'.2.1, h'.2.2, h''.1, h''.2.1, h''.2.2⟩
/-- what comes later, out of sight -/
structure Later (p : Prop) : Prop where
  go : p
/-- the law's own text, from its k-th line on; its names -/
noncomputable def lawSc : Scope := dL.scope
noncomputable def lawB (k : Nat) : List Stmt := dL.body.drop k
noncomputable abbrev lawE (L : Addr) : Env := envOfC "law" lawSc L 198 (.ref 197)
noncomputable def cellA (L : Addr) : Nat → Addr
  | 0 => L + 1
  | i + 1 => cellA L i + 1
theorem cellA_eq (L : Addr) : ∀ i, cellA L i = (L + (i + 1) : Nat)
  | 0 => rfl
  | i + 1 => by show cellA L i + 1 = _; rw [cellA_eq L i]; rfl
/-- what the law's ledger holds: its nine cells, the tables -/
structure LT (B : Heap) (L : Addr) (tl : List (Addr × Obj)) (cv : List (Option Value)) : Prop where
  cells : ∀ i v, cv[i]? = some v → ∃ o, (cellA L i, o) ∈ tl ∧ o.data = .cell v
  t37 : TabN B tl 37 47 4 q37
  t30 : TabN B tl 30 32 4 q30
  t51 : ∃ ps, (51, tabObj ps) ∈ tl ∧ (ps = #[] ∨ ∃ c', ps = #[rawInt 66, rawInt 42, .ref c'])
theorem LT.mono {B : Heap} {L : Addr} {tl tl' : List (Addr × Obj)} {cv : List (Option Value)} (x : LT B L tl cv) (k : ∀ p ∈ tl, p ∈ tl') : LT B L tl' cv :=
  ⟨fun i v h => let ⟨o, a, b⟩ := x.cells i v h; ⟨o, k _ a, b⟩, x.t37.mono k, x.t30.mono k, let ⟨ps, a, b⟩ := x.t51; ⟨ps, k _ a, b⟩⟩
noncomputable def NotCell (o : Obj) : Prop := ∀ v, o.data ≠ .cell v
section
variable {w : World} {A : Around} {E : Value → Shared → Prop} {s : Shared} {B : Heap} {L : Addr} {m : Str → Option Value} {tl news : List (Addr × Obj)} {cv : List (Option Value)} {x : Str} {pos : Pos} {v : Value}
/-- a cell of the law read -/
theorem ld_law {Q : Value → Shared → Prop} (i : Nat) (X : LT B L tl cv) (N : News B L s.heap news) (hs : ∀ p ∈ tl, p ∈ news) (hc : (cellsFrom (L + 1) lawSc.names []).lookup x = some (cellA L i)) (hv : cv[i]? = some (some v)) (h : Q v s)
    (hk : (lawE L).scope.kind = .function := by rfl) (hx : (lawE L).kindOf x = some .cell := by rfl) (hb : (x == ("__debug__" : Str)) = false := by decide) :
    wpAny (model pw w) A (eval (.Name x pos) (lawE L)) Q E s := by
  obtain ⟨o, hm, hd⟩ := X.cells i _ hv
  exact wpAny_Name (wpAny_loadName_cell hk hx hc ⟨o, (N _ (hs _ hm)).1, hd⟩ h) hb
/-- a cell of the law set -/
theorem st_law {Q : Unit → Shared → Prop} {v₀ : Option Value} (i : Nat) (X : LT B L tl cv) (F : Fr B L s.heap m) (N : News B L s.heap tl) (hc : (cellsFrom (L + 1) lawSc.names []).lookup x = some (cellA L i)) (hv : cv[i]? = some v₀)
    (h : ∀ h' tl', Fr B L h' m → News B L h' tl' → LT B L tl' (cv.set i (some v)) → (∀ p ∈ tl, NotCell p.2 → p ∈ tl') → Q () { s with heap := h' })
    (hk : (lawE L).scope.kind = .function := by rfl) (hx : (lawE L).kindOf x = some .cell := by rfl) :
    wpAny (model pw w) A (storeName (lawE L) x v) Q E s := by
  obtain ⟨o, hm, hd⟩ := X.cells i _ hv
  have z := N _ hm
  refine wpAny_storeName_cell hk hx hc ⟨o, z.1, hd⟩ fun h' hv' hs => ?_
  obtain ⟨o', ho', hd'⟩ := hv'
  have F' : Fr B L h' m := ⟨F.ns.sameBut hs (Ne.symm z.2.1), fun b ob e => (hs.2 b (fun q => by rw [q, z.2.2] at e; cases e)).trans (F.keep b ob e), F.above⟩
  have nc : ∀ p ∈ tl, NotCell p.2 → p.1 ≠ cellA L i := fun p hp hn e => by
    have z1 := (N _ hp).1
    rw [e, z.1] at z1
    cases z1
    exact hn _ hd
  have kp : ∀ p ∈ tl, p.1 ≠ cellA L i → p ∈ tl.map fun p => if p.1 = cellA L i then (p.1, o') else p := fun p hp hn => List.mem_map.mpr ⟨p, hp, if_neg hn⟩
  have keep : ∀ p ∈ tl, NotCell p.2 → p ∈ tl.map fun p => if p.1 = cellA L i then (p.1, o') else p := fun p hp hn => kp p hp (nc p hp hn)
  have tabK : ∀ {P l c q}, TabN B tl P l c q → TabN B (tl.map fun p => if p.1 = cellA L i then (p.1, o') else p) P l c q := fun {P l c q} ⟨ps, h1, h2⟩ =>
    ⟨ps, (keep _ h1 fun _ e => nomatch e), h2.imp id fun ⟨c', e, h3⟩ => ⟨c', e, h3.imp id fun ⟨oc, vs, t, a, b, d⟩ => ⟨oc, vs, t, (keep _ a fun _ e => (by rw [b] at e; cases e)), b, d⟩⟩⟩
  refine h h' _ F' (fun p hp => ?_) ⟨fun j u hj => ?_, tabK X.t37, tabK X.t30, let ⟨ps, a, b⟩ := X.t51; ⟨ps, (keep _ a fun _ e => nomatch e), b⟩⟩ keep
  · obtain ⟨q, hq, e⟩ := List.mem_map.mp hp
    split at e
    · rename_i h1
      subst e
      exact ⟨by rw [h1]; exact ho', (N _ hq).2⟩
    · rename_i h1
      subst e
      exact ⟨(hs.2 _ h1).trans (N _ hq).1, (N _ hq).2⟩
  · by_cases hij : j = i
    · subst hij
      rw [List.getElem?_set_self (by exact (List.getElem?_eq_some_iff.mp hv).1)] at hj
      cases hj
      exact ⟨o', List.mem_map.mpr ⟨_, hm, if_pos rfl⟩, hd'⟩
    · rw [List.getElem?_set_ne (Ne.symm hij)] at hj
      obtain ⟨o2, hm2, hd2⟩ := X.cells j u hj
      refine ⟨o2, kp _ hm2 fun e => hij ?_, hd2⟩
      have e : (L + (j + 1) : Nat) = L + (i + 1) := by rw [← cellA_eq, ← cellA_eq]; exact e
      have := Nat.add_left_cancel e
      omega
end
noncomputable def lawIdx (x : Str) : Nat := ([("size" : Str), "first", "second", "hits", "due", "ways", "moments", "alike", "power"] : List Str).findIdx (· == x)
theorem ld_lawI {w : World} {A : Around} {E : Value → Shared → Prop} {s : Shared} {B : Heap} {L : Addr} {tl news : List (Addr × Obj)} {cv : List (Option Value)} {x : Str} {pos : Pos} {v : Value} {Q : Value → Shared → Prop} (X : LT B L tl cv) (N : News B L s.heap news) (hs : ∀ p ∈ tl, p ∈ news) (hv : cv[lawIdx x]? = some (some v)) (h : Q v s)
    (hc : (cellsFrom (L + 1) lawSc.names []).lookup x = some (cellA L (lawIdx x)) := by rfl) (hk : (lawE L).scope.kind = .function := by rfl) (hx : (lawE L).kindOf x = some .cell := by rfl) (hb : (x == ("__debug__" : Str)) = false := by decide) :
    wpAny (model pw w) A (eval (.Name x pos) (lawE L)) Q E s := ld_law (lawIdx x) X N hs hc hv h hk hx hb
/-- behind a call that turns the tables -/
theorem LT.refresh {B h h' : Heap} {L : Addr} {m : Str → Option Value} {tl : List (Addr × Obj)} {cv : List (Option Value)} (F : Fr B L h' m) (hPL : @LT.lt Nat _ 51 L) (hB37 : B.get? 37 = none) (hB30 : B.get? 30 = none) (hB51 : B.get? 51 = none)
    (N : News B L h tl) (X : Mine.LT B L tl cv) (k : StayBut [37, 30, 51] h h') (t37 : Tab h' 37 47 4 q37) (t30 : Tab h' 30 32 4 q30) (t51 : TabG h' 51 66 42) :
    ∃ tl', News B L h' tl' ∧ Mine.LT B L tl' cv ∧ ∀ p ∈ tl, p.1 ∉ [37, 30, 51] → p ∈ tl' := by
  obtain ⟨t1, a1, b1, _⟩ := tab_split F hB37 t37
  obtain ⟨t2, a2, b2, _⟩ := tab_split F hB30 t30
  obtain ⟨ps, e, hps⟩ := t51
  have hb : ∀ i, cellA L i ∉ [37, 30, 51] := fun i q => by
    rw [cellA_eq] at q
    simp only [List.mem_cons, List.not_mem_nil, or_false] at q
    have h0 : 51 < Nat.add L (i + 1) := Nat.lt_of_lt_of_le hPL (Nat.le_add_right L (i + 1))
    rcases q with q | q | q
    · rw [show Nat.add L (i + 1) = 37 from q] at h0; exact absurd h0 (by decide)
    · rw [show Nat.add L (i + 1) = 30 from q] at h0; exact absurd h0 (by decide)
    · rw [show Nat.add L (i + 1) = 51 from q] at h0; exact absurd h0 (by decide)
  refine ⟨t1 ++ t2 ++ [(51, tabObj ps)] ++ tl.filter (fun p => decide (p.1 ∉ [37, 30, 51])), fun p hp => ?_, ⟨fun i v hi => ?_, b1.mono fun p hp => ?_, b2.mono fun p hp => ?_, ⟨ps, ?_, hps⟩⟩, fun p hp hn => ?_⟩
  · rcases List.mem_append.mp hp with hp | hp
    · rcases List.mem_append.mp hp with hp | hp
      · exact (a1.append a2) p hp
      · rw [List.mem_singleton.mp hp]; exact ⟨e, Nat.ne_of_lt hPL, hB51⟩
    · obtain ⟨h1, h2⟩ := List.mem_filter.mp hp
      exact ⟨k _ _ (of_decide_eq_true h2) (N _ h1).1, (N _ h1).2⟩
  · obtain ⟨o, hm, hd⟩ := X.cells i v hi
    exact ⟨o, List.mem_append_right _ (List.mem_filter.mpr ⟨hm, decide_eq_true (hb i)⟩), hd⟩
  · exact List.mem_append_left _ (List.mem_append_left _ (List.mem_append_left _ hp))
  · exact List.mem_append_left _ (List.mem_append_left _ (List.mem_append_right _ hp))
  · exact List.mem_append_left _ (List.mem_append_right _ (.head _))
  · exact List.mem_append_right _ (List.mem_filter.mpr ⟨hp, decide_eq_true hn⟩)
end Mine
end
end
section
open PySem PySem.W PyProof.Rows PySem.Calls PySem.Spec
set_option Elab.async false
set_option maxRecDepth 100000
noncomputable section
namespace Mine
theorem rules_W20 : True := by
  k_with_none
  w_top off
  k_with "storeName" => (k_here; with_reducible show wpAny _ _ (storeName _ _ (Value.int _ (Shared.toks _))) _ _ _; k_dflt (refine storeX_Li (by k_asm) (by k_asm) (fun t_kw h_kw F_kw N_kw => ?_) rfl rfl; try k_sweep))
  k_with "storeName" => (k_here; with_reducible show wpAny _ _ (storeName _ _ (Value.str _ (Shared.toks _))) _ _ _; k_dflt (refine storeX_Ls (by k_asm) (by k_asm) (fun t_kw h_kw F_kw N_kw => ?_) rfl rfl; try k_sweep))
  k_with "eval Name" => (k_here; (with_reducible show wpAny _ _ (eval (Expr.Name _ _) (envOfC _ lawSc _ _ _)) _ _ _); k_dflt (refine' ld_lawI ?kw_X ?kw_N ?kw_s ?kw_v ?_ ?kw_c ?kw_k ?kw_x ?kw_b; (case kw_c => rfl); (case kw_k => rfl); (case kw_x => rfl); (case kw_b => decide); (case kw_X => with_reducible assumption); (case kw_N => k_asm); (case kw_s => (intro p_kw hp'; repeat (first | exact hp' | apply List.Mem.tail))); (case kw_v => rfl); k_whole))
  trivial
theorem fillK_W20 : (fun (_ : OpenLaw) (_ : Params → Frag) => True) PySem.Challenge.rw_xe0047_01 KF := by
  k_fill
  trivial
theorem News.front {B h : Heap} {L : Addr} {tl : List (Addr × Obj)} {p : Addr × Obj} (N : News B L h tl) (hm : p ∈ tl) : News B L h (p :: tl) := fun q hq => by
  rcases List.mem_cons.mp hq with rfl | hq
  · exact N _ hm
  · exact N _ hq
theorem four_cells (ns : List Int) : ∃ c0 c1 c2 c3, ns.take 4 ++ ([3029, 57, 63, 365000000149] : List Int).drop (ns.take 4).length = [c0, c1, c2, c3] := by
  rcases ns with _ | ⟨a, _ | ⟨b, _ | ⟨c, _ | ⟨d, r⟩⟩⟩⟩
  · exact ⟨_, _, _, _, rfl⟩
  · exact ⟨_, _, _, _, rfl⟩
  · exact ⟨_, _, _, _, rfl⟩
  · exact ⟨_, _, _, _, rfl⟩
  · exact ⟨a, b, c, d, rfl⟩
theorem pick4 (v0 v1 v2 v3 : Value) {k : Nat} (h : k ≤ 4) : slicePick #[v0, v1, v2, v3] (some (k : Int)) none none = (([v0, v1, v2, v3] : List Value).drop k).toArray := by
  have hk : k = 0 ∨ k = 1 ∨ k = 2 ∨ k = 3 ∨ k = 4 := by omega
  have e : sliceBounds (some (k : Int)) none none (#[v0, v1, v2, v3] : Array Value).size = ((k : Int), ((4 : Nat) : Int), 1) := by
    rcases hk with rfl | rfl | rfl | rfl | rfl <;> rfl
  rw [kmk_pick_nat _ e]
  rcases hk with rfl | rfl | rfl | rfl | rfl <;> rfl
theorem ints_drop {vs : List Value} {ns : List Int} (x : IntsAre vs ns) : ∀ k, IntsAre (vs.drop k) (ns.drop k) := by
  induction x with
  | nil => intro k; cases k <;> exact .nil
  | cons n t r ih =>
    intro k
    cases k with
    | zero => exact .cons n t r
    | succ k => exact ih k
theorem all2_four {vs : List Value} {a b c d : Int} (x : All2 IV vs [a, b, c, d]) : ∃ t1 t2 t3 t4, vs = [.int a t1, .int b t2, .int c t3, .int d t4] := by
  cases x with
  | cons h1 x => cases x with
    | cons h2 x => cases x with
      | cons h3 x => cases x with
        | cons h4 x => cases x with
          | nil =>
            obtain ⟨t1, e1⟩ := h1
            obtain ⟨t2, e2⟩ := h2
            obtain ⟨t3, e3⟩ := h3
            obtain ⟨t4, e4⟩ := h4
            exact ⟨t1, t2, t3, t4, by rw [e1, e2, e3, e4]⟩
set_option maxHeartbeats 4000000 in
theorem law_start {w : World} {A : Around} {s : Shared} {B : Heap} {Q E : Value → Shared → Prop} (a : Addr) (vs : List Value) (ns : List Int)
    (hL : B.IsList a vs.toArray) (hV : All2 IV vs ns) (hlen : ns.length ≤ 63) (G : Env0 w A B 30) (kB : B.StaysIn s.heap) (zB : B.objs.size ≤ s.heap.objs.size) (hB37 : B.get? 37 = none) (hB30 : B.get? 30 = none) (hB51 : B.get? 51 = none)
    (t37 : Tab s.heap 37 47 4 q37) (t30 : Tab s.heap 30 32 4 q30) (t51 : TabG s.heap 51 66 42)
    (K : Later (∀ A' L' h' tk' tl (m0 : Str → Option Value) tw ts t0 t1 t2 (n wd n1 n2 : Nat) (sp : Int), 3 ≤ n → n ≤ 5 → 10 ≤ wd → wd ≤ 2509 → n1 < 243 → n2 < 243 → 0 ≤ sp → @LT.lt Nat _ 51 L' → Env0 w A' B 29 →
      Fr B L' h' (fun y => if y = Str.ofString "spelling" then some (.int sp ts) else if y = Str.ofString "width" then some (.int wd tw) else m0 y) → News B L' h' tl →
      Mine.LT B L' tl [some (.int n t0), some (.str (ST (wordL n1 n)) t1), some (.str (ST (wordL n2 n)) t2), none, none, none, none, none, none] →
      wpAny (model pw w) A' (execs (lawB 6) (lawE L')) (fun fl s' => Q (match fl with | .ret v => v | _ => .none) s') (fun _ _ => False) { s with heap := h', toks := tk' })) : wpAny (model pw w) A (call (.ref 198) [.ref a]) Q E s := by
  refine enterCK (scope := lawSc) (body := lawB 0) (binds := [("script", .ref a)]) G kB rfl rfl rfl rfl (by decide) (fun L' h₁ tk cells G' F' N' Y => ?_)
  obtain ⟨o9, o8, o7, o6, o5, o4, o3, o2, o1, hE, d9, d8, d7, d6, d5, d4, d3, d2, d1⟩ := kc_nine Y
  subst hE
  clear Y
  replace d1 : o1.data = Data.cell none := d1
  replace d2 : o2.data = Data.cell none := d2
  replace d3 : o3.data = Data.cell none := d3
  replace d4 : o4.data = Data.cell none := d4
  replace d5 : o5.data = Data.cell none := d5
  replace d6 : o6.data = Data.cell none := d6
  replace d7 : o7.data = Data.cell none := d7
  replace d8 : o8.data = Data.cell none := d8
  replace d9 : o9.data = Data.cell none := d9
  have hPL : @LT.lt Nat _ 51 L' := by
    obtain ⟨ps, e, _⟩ := t51
    exact Nat.lt_of_lt_of_le (Heap.lt_size e) F'.above
  have F0 : Fr B L' h₁ _ := ⟨F'.ns, fun b o e => F'.keep _ _ (kB _ _ e), Nat.le_trans zB F'.above⟩
  obtain ⟨tl, N0, X0⟩ : ∃ tl, News B L' h₁ tl ∧ Mine.LT B L' tl (List.replicate 9 none) := by
    have up : ∀ P l c q, Tab s.heap P l c q → Tab h₁ P l c q := fun P l c q x => x.grow F'.keep
    have NB : News B L' h₁ _ := fun p hp => ⟨(N' p hp).1, (N' p hp).2.1, by
      cases q : B.get? p.1 with
      | none => rfl
      | some o => have := kB _ _ q; rw [(N' p hp).2.2] at this; cases this⟩
    obtain ⟨t1, a1, b1, _⟩ := tab_split F0 hB37 (up _ _ _ _ t37)
    obtain ⟨t2, a2, b2, _⟩ := tab_split F0 hB30 (up _ _ _ _ t30)
    obtain ⟨ps, e, hps⟩ := t51
    refine ⟨_, ((NB.append a1).append a2).append (fun p hp => by rw [List.mem_singleton.mp hp]; exact ⟨F'.keep _ _ e, Nat.ne_of_lt hPL, hB51⟩ : News B L' h₁ [(51, tabObj ps)]), ⟨fun i v hi => ?_, b1.mono fun p hp => ?_, b2.mono fun p hp => ?_, ⟨ps, ?_, hps⟩⟩⟩
    · match i, hi with
      | 0, hi => cases hi; exact ⟨o1, by simp [cellA], d1⟩
      | 1, hi => cases hi; exact ⟨o2, by simp [cellA], d2⟩
      | 2, hi => cases hi; exact ⟨o3, by simp [cellA], d3⟩
      | 3, hi => cases hi; exact ⟨o4, by simp [cellA], d4⟩
      | 4, hi => cases hi; exact ⟨o5, by simp [cellA], d5⟩
      | 5, hi => cases hi; exact ⟨o6, by simp [cellA], d6⟩
      | 6, hi => cases hi; exact ⟨o7, by simp [cellA], d7⟩
      | 7, hi => cases hi; exact ⟨o8, by simp [cellA], d8⟩
      | 8, hi => cases hi; exact ⟨o9, by simp [cellA], d9⟩
      | i + 9, hi => rw [List.getElem?_eq_none (by simp)] at hi; cases hi
    · exact List.mem_append_left _ (List.mem_append_left _ (List.mem_append_right _ hp))
    · exact List.mem_append_left _ (List.mem_append_right _ hp)
    · exact List.mem_append_right _ (.head _)
  clear N' t37 t30 t51 d1 d2 d3 d4 d5 d6 d7 d8 d9 F'
  obtain ⟨p, lo, me, mg, mb, T⟩ := G'.T
  have X := G'.X
  have hh := G'.hh
  have hIA := ints_all2 hV
  show wpAny _ _ (execs (_ :: _) _) _ _ _
  revert w A s Q E L'
  set_option tactic.hygienic false in intros
  as_aux_lemma =>
  iterate 42 walk1
  rename Fr _ _ _ _ => F1
  rename News _ _ _ _ => N1
  have hk4 : (ns.take 4).length ≤ 4 := by rw [List.length_take]; omega
  refine kmk_slice F1 N1 (News.isList N1 (.tail _ (.head _))) (.int _ _) .none ?_ (by with_unfolding_all rfl) (by kmk_pure) (show 4 ≤ sizeLine by rw [sizeLine_eq]; decide)
  intro D9 h9 F9 N9 _
  rw [pick4 _ _ _ _ hk4] at N9
  clear F1 N1
  refine add_lists_ints F9 N9 (News.isList N9 (.tail _ (.tail _ (.tail _ (.head _))))) (News.isList N9 (.head _)) (by assumption) (ints_drop (.cons _ _ (.cons _ _ (.cons _ _ (.cons _ _ .nil)))) _) ?_ ?_
  rotate_left
  · rw [sizeLine_eq, List.length_drop]; show _ + (4 - _) ≤ _; have := hk4; have e : (List.take (Int.toNat 4) ns).length = (ns.take 4).length := rfl; omega
  intro h2 F2 N2 hI2
  obtain ⟨c0, c1, c2, c3, hcs⟩ := four_cells ns
  replace hI2 : IntsAre _ (ns.take 4 ++ ([3029, 57, 63, 365000000149] : List Int).drop (ns.take 4).length) := hI2
  rw [hcs] at hI2
  obtain ⟨t0, t1, t2, t3, hws⟩ := all2_four (all2_ints hI2)
  rw [hws] at N2
  have N3 : News B L' h2 ((_, PySem.W.listOf #[.int c0 t0, .int c1 t1, .int c2 t2, .int c3 t3] 0) :: tl) := fun p hp => N2 p (by
    rcases List.mem_cons.mp hp with rfl | hp
    · exact .head _
    · exact .tail _ (.tail _ (.tail _ (.tail _ (.tail _ hp)))))
  clear F9 N9 N2 hI2 hws hcs hIA
  revert w A s Q E L'
  set_option tactic.hygienic false in intros
  as_aux_lemma =>
  iterate 14 walk1
  rename Fr _ _ _ _ => F4
  rename News _ _ _ _ => N4
  obtain ⟨n, hn, hn3, hn5⟩ : ∃ n : Nat, 3 + ([c0, c1, c2, c3].getD (Int.toNat 0) 0).fmod 3 = (n : Int) ∧ 3 ≤ n ∧ n ≤ 5 := by
    show ∃ n : Nat, 3 + c0.fmod 3 = (n : Int) ∧ _
    rw [Int.fmod_eq_emod_of_nonneg _ (by decide)]
    exact ⟨(3 + c0 % 3).toNat, by omega, by omega, by omega⟩
  rw [hn]
  refine st_law 0 (X0.mono fun p hp => .tail _ hp) F4 N4 rfl rfl ?_
  intro h5 tl5 F5 N5 X5 k5
  have N6 := News.front N5 (k5 _ (.head _) fun _ e => nomatch e)
  clear F4 N4 N5 k5 X0
  revert w A s Q E L'
  set_option tactic.hygienic false in intros
  as_aux_lemma =>
  repeat walk1
  rename Fr _ _ _ _ => F7
  rename News _ _ _ _ => N7
  obtain ⟨n1, e1, hn1⟩ : ∃ k : Nat, ([c0, c1, c2, c3].getD (Int.toNat 1) 0).fmod 243 = (k : Int) ∧ k < 243 := by
    show ∃ k : Nat, c1.fmod 243 = (k : Int) ∧ _
    rw [Int.fmod_eq_emod_of_nonneg _ (by decide)]
    exact ⟨(c1 % 243).toNat, by omega, by omega⟩
  rw [e1]
  refine word_spec n1 n _ _ hn1 hn5 (d := 28) G' F7 ?_
  intro h8 tk8 t8 k8
  have F8 := Fr.stay F7 k8
  have N8 := News.stay N7 k8
  clear F7 N7 k8
  refine st_law 1 (X5.mono fun p hp => .tail _ hp) F8 N8 rfl rfl ?_
  intro h9' tl9 F9 N9 X9 k9
  have N10 := News.front N9 (k9 _ (.head _) fun _ e => nomatch e)
  clear F8 N8 N9 k9 X5
  revert w A s Q E L'
  set_option tactic.hygienic false in intros
  as_aux_lemma =>
  repeat walk1
  rename Fr _ _ _ _ => F7
  rename News _ _ _ _ => N7
  obtain ⟨n2, e2, hn2⟩ : ∃ k : Nat, ([c0, c1, c2, c3].getD (Int.toNat 2) 0).fmod 243 = (k : Int) ∧ k < 243 := by
    show ∃ k : Nat, c2.fmod 243 = (k : Int) ∧ _
    rw [Int.fmod_eq_emod_of_nonneg _ (by decide)]
    exact ⟨(c2 % 243).toNat, by omega, by omega⟩
  rw [e2]
  refine word_spec n2 n _ _ hn2 hn5 (d := 28) G' F7 ?_
  intro h11 tk11 t11 k11
  have F8 := Fr.stay F7 k11
  have N8 := News.stay N7 k11
  clear F7 N7 k11
  refine st_law 2 (X9.mono fun p hp => .tail _ hp) F8 N8 rfl rfl ?_
  intro h12 tl12 F12 N12 X12 k12
  have N13 := News.front N12 (k12 _ (.head _) fun _ e => nomatch e)
  clear F8 N8 N12 k12 X9
  revert w A s Q E L'
  set_option tactic.hygienic false in intros
  as_aux_lemma =>
  iterate 13 walk1
  rename Fr _ _ _ _ => F14
  rename News _ _ _ _ => N14
  obtain ⟨wd, e3, hw1, hw2⟩ : ∃ k : Nat, 10 + (([c0, c1, c2, c3].getD (Int.toNat 0) 0).fdiv 3 * 499).fmod 2500 = (k : Int) ∧ 10 ≤ k ∧ k ≤ 2509 := by
    show ∃ k : Nat, 10 + (c0.fdiv 3 * 499).fmod 2500 = (k : Int) ∧ _
    rw [Int.fmod_eq_emod_of_nonneg _ (by decide)]
    exact ⟨(10 + (c0.fdiv 3 * 499) % 2500).toNat, by omega, by omega, by omega⟩
  obtain ⟨tw, ts, m0, F15⟩ : ∃ (tw ts : Tok) (m0 : Str → Option Value), Fr B L' _ (fun y => if y = Str.ofString "spelling" then some (.int (([c0, c1, c2, c3].getD (Int.toNat 3) 0).fmod (10 ^ Int.toNat 18)) ts) else if y = Str.ofString "width" then some (.int (10 + (([c0, c1, c2, c3].getD (Int.toNat 0) 0).fdiv 3 * 499).fmod 2500) tw) else m0 y) := ⟨_, _, _, F14⟩
  rw [e3] at F15
  have hsp : 0 ≤ ([c0, c1, c2, c3].getD (Int.toNat 3) 0).fmod (10 ^ Int.toNat 18) := by
    have hM : (0 : Int) < 10 ^ Int.toNat 18 := Int.pow_pos (by decide)
    generalize (10 : Int) ^ Int.toNat 18 = M at hM ⊢
    rw [Int.fmod_eq_emod_of_nonneg _ (Int.le_of_lt hM)]
    exact Int.emod_nonneg _ (Int.ne_of_gt hM)
  exact K.go _ L' _ _ _ _ _ _ _ _ _ n wd n1 n2 _ hn3 hn5 hw1 hw2 hn1 hn2 hsp hPL G' F15 N14 (X12.mono fun p hp => .tail _ hp)
end Mine
end
end
section
open PySem PySem.W PyProof.Rows PySem.Calls PySem.Spec
set_option Elab.async false
set_option maxRecDepth 100000
noncomputable section
namespace Mine
theorem rules_W21 : True := by
  k_with_none
  w_top off
  k_with "storeName" => (k_here; with_reducible show wpAny _ _ (storeName _ _ (Value.int _ (Shared.toks _))) _ _ _; k_dflt (refine storeX_Li (by k_asm) (by k_asm) (fun t_kw h_kw F_kw N_kw => ?_) rfl rfl; try k_sweep))
  k_with "storeName" => (k_here; with_reducible show wpAny _ _ (storeName _ _ (Value.str _ (Shared.toks _))) _ _ _; k_dflt (refine storeX_Ls (by k_asm) (by k_asm) (fun t_kw h_kw F_kw N_kw => ?_) rfl rfl; try k_sweep))
  k_with "eval Name" => (k_here; (with_reducible show wpAny _ _ (eval (Expr.Name _ _) (envOfC _ lawSc _ _ _)) _ _ _); k_dflt (refine' ld_lawI ?kw_X ?kw_N ?kw_s ?kw_v ?_ ?kw_c ?kw_k ?kw_x ?kw_b; (case kw_c => rfl); (case kw_k => rfl); (case kw_x => rfl); (case kw_b => decide); (case kw_X => with_reducible assumption); (case kw_N => k_asm); (case kw_s => (intro p_kw hp'; repeat (first | exact hp' | apply List.Mem.tail))); (case kw_v => rfl); k_whole))
  trivial
theorem fillK_W21 : (fun (_ : OpenLaw) (_ : Params → Frag) => True) PySem.Challenge.rw_xe0047_01 KF := by
  k_fill
  trivial
theorem fil_in (n : Nat) : fil n ∈ filL := by
  unfold fil
  have h : n % 3 = 0 ∨ n % 3 = 1 ∨ n % 3 = 2 := by omega
  rcases h with h | h | h <;> rw [h] <;> decide
theorem wordL_in : ∀ (k n : Nat), ∀ c ∈ wordL n k, c ∈ filL
  | 0, _, c, h => nomatch h
  | k + 1, n, c, h => by
    rcases List.mem_cons.mp h with rfl | h
    · exact fil_in n
    · exact wordL_in k _ c h
theorem prep_good : ∀ (l : List Nat) (p : List (List Nat) × List Nat), good l → l.foldl prepStep p = (p.1, p.2 ++ rd l)
  | [], p, _ => by simp [rd]
  | c :: r, p, h => by
    have hc := h c (.head _)
    have hr : good r := fun x hx => h x (.tail _ hx)
    have h32 : (c == 32) = false := by
      cases e : c == 32 with
      | false => rfl
      | true =>
        have e := eq_of_beq e
        subst e
        rcases hc with hc | ⟨_, hc⟩
        · rw [b1_32] at hc; cases hc
        · exact absurd hc (by decide)
    rw [List.foldl_cons, prep_good r _ hr]
    unfold prepStep
    rw [if_neg (by rw [h32]; exact Bool.false_ne_true)]
    cases hb : b1L c with
    | true => rw [if_pos rfl]; simp [rd, hb]
    | false => rw [if_neg Bool.false_ne_true]; simp [rd, hb]
theorem prep_line {l1 l2 : List Nat} (h1 : good l1) (h2 : good l2) : prepL (l1 ++ [32] ++ l2) = ([rd l1], rd l2) := by
  unfold prepL
  rw [List.foldl_append, List.foldl_append, prep_good l1 _ h1]
  show List.foldl prepStep (prepStep _ 32) l2 = _
  rw [show prepStep (([], []).1, ([], []).2 ++ rd l1) 32 = ([rd l1], []) from rfl, prep_good l2 _ h2]
  simp
theorem good_line {l1 l2 : List Nat} (h1 : good l1) (h2 : good l2) : ∀ c ∈ l1 ++ [32] ++ l2, c = 32 ∨ b1L c = true ∨ c ∈ signC := fun c hc => by
  rcases List.mem_append.mp hc with hc | hc
  · rcases List.mem_append.mp hc with hc | hc
    · exact .inr ((h1 c hc).imp id fun x => x.2)
    · exact .inl (List.mem_singleton.mp hc)
  · exact .inr ((h2 c hc).imp id fun x => x.2)
theorem Fr.as {B h : Heap} {L : Addr} {m m' : Str → Option Value} (F : Fr B L h m) (e : m = m') : Fr B L h m' := e ▸ F
theorem strOk_word (k n : Nat) : PyData.strOk (ST (wordL n k)) = true := by
  unfold PyData.strOk
  rw [Array.all_eq_true_iff_forall_mem]
  intro c hc
  have : c ∈ filL := wordL_in k n c (by simpa [ST] using hc)
  simp only [List.mem_cons, List.not_mem_nil, or_false] at this
  rcases this with rfl | rfl | rfl <;> decide
theorem shaped_two (n1 n2 n : Nat) : SeqAt.shaped (.list [.str (ST (wordL n1 n)), .str (ST (wordL n2 n))]) = true := by
  unfold SeqAt.shaped
  have e : PyData.canLay0 (.list [.str (ST (wordL n1 n)), .str (ST (wordL n2 n))]) = (PyData.strOk (ST (wordL n1 n)) && (PyData.strOk (ST (wordL n2 n)) && true)) := by simp [PyData.canLay0, PyData.canLayAll0]
  rw [e, strOk_word, strOk_word]
  rfl
set_option maxHeartbeats 4000000 in
theorem law_line {w : World} {A : Around} {s : Shared} {B : Heap} {L : Addr} {Q : Flow → Shared → Prop} {tl : List (Addr × Obj)} {m0 : Str → Option Value} {tw ts t0 t1 t2 : Tok} {n wd n1 n2 : Nat} {sp : Int} (hn3 : 3 ≤ n) (hn5 : n ≤ 5) (hsp : 0 ≤ sp)
    (G : Env0 w A B 29) (F : Fr B L s.heap (fun y => if y = Str.ofString "spelling" then some (.int sp ts) else if y = Str.ofString "width" then some (.int wd tw) else m0 y)) (N : News B L s.heap tl)
    (X : Mine.LT B L tl [some (.int n t0), some (.str (ST (wordL n1 n)) t1), some (.str (ST (wordL n2 n)) t2), none, none, none, none, none, none])
    (K : Later (∀ h' tk' tl' (m0 : Str → Option Value) a vs nn, Fr B L h' (fun y => if y = Str.ofString "words" then some (.ref a) else if y = Str.ofString "width" then some (.int wd tw) else m0 y) → News B L h' tl' →
      Mine.LT B L tl' [some (.int n t0), some (.str (ST (wordL n1 n)) t1), some (.str (ST (wordL n2 n)) t2), none, none, none, none, none, none] → (a, PySem.W.listOf (List.toArray vs) nn) ∈ tl' → All2 SV vs [wordL n1 n, wordL n2 n] →
      wpAny (model pw w) A (execs (lawB 9) (lawE L)) Q (fun _ _ => False) { s with heap := h', toks := tk' })) :
    wpAny (model pw w) A (execs (lawB 6) (lawE L)) Q (fun _ _ => False) s := by
  obtain ⟨p, lo, me, mg, mb, T⟩ := G.T
  have XB := G.X
  have hh := G.hh
  show wpAny _ _ (execs (_ :: _) _) _ _ _
  repeat walk1
  rename Fr _ _ _ _ => F1
  rename News _ _ _ _ => N1
  have hM : (0 : Int) < 10 ^ Int.toNat 9 := Int.pow_pos (by decide)
  obtain ⟨ch1, e1⟩ : ∃ k : Nat, sp.fmod (10 ^ Int.toNat 9) = (k : Int) := by
    refine ⟨(sp.fmod (10 ^ Int.toNat 9)).toNat, (Int.toNat_of_nonneg ?_).symm⟩
    rw [Int.fmod_eq_emod_of_nonneg _ (Int.le_of_lt hM)]
    exact Int.emod_nonneg _ (Int.ne_of_gt hM)
  obtain ⟨ch2, e2⟩ : ∃ k : Nat, sp.fdiv (10 ^ Int.toNat 9) = (k : Int) := by
    refine ⟨(sp.fdiv (10 ^ Int.toNat 9)).toNat, (Int.toNat_of_nonneg ?_).symm⟩
    rw [Int.fdiv_eq_ediv_of_nonneg _ (Int.le_of_lt hM)]
    exact Int.ediv_nonneg hsp (Int.le_of_lt hM)
  rw [e1]
  have w1 := wordL_len n1 n
  have w2 := wordL_len n2 n
  have fin : ∀ (k : Nat), ∀ c ∈ wordL k n, c = 102 ∨ c = 105 ∨ c = 108 := fun k c hc => by
    have := wordL_in n k c hc
    simpa using this
  refine spelled_spec (d := 28) (wordL n1 n) ch1 _ _ (by omega) (fin n1) G F1 ?_
  intro h2 tk2 t5 l1 S1 k2
  have F2 := Fr.stay F1 k2
  have N2 := News.stay N1 k2
  clear F1 N1 k2
  have hl1 : (ST l1).length ≤ 10 := by rw [ST_len]; have := S1.len; omega
  have hsp1 : (Str.ofString " ").length = 1 := rfl
  repeat walk1
  rename Fr _ _ _ _ => F1
  rename News _ _ _ _ => N1
  rw [e2]
  refine spelled_spec (d := 28) (wordL n2 n) ch2 _ _ (by omega) (fin n2) G F1 ?_
  intro h3 tk3 t6 l2 S2 k3
  have F2 := Fr.stay F1 k3
  have N2 := News.stay N1 k3
  clear F1 N1 k3
  have hl2 : (ST l2).length ≤ 10 := by rw [ST_len]; have := S2.len; omega
  have hl3 : (ST l1 ++ Str.ofString " ").length = (ST l1).length + 1 := by rw [Str.length_append]; rfl
  repeat walk1
  rename Fr _ _ _ _ => F1
  rename News _ _ _ _ => N1
  have eT : ST l1 ++ Str.ofString " " ++ ST l2 = ST (l1 ++ [32] ++ l2) := by
    rw [show Str.ofString " " = ST [32] from rfl, ST_app, ST_app]
  rw [eT]
  have z1 := S1.len
  have z2 := S2.len
  refine prepared_spec (d := 27) (l1 ++ [32] ++ l2) _ (good_line S1.good S2.good) (by simp; omega) G F1 ?_
  intro h4 tk4 a vs nn na k4 ga hv
  rw [prep_line S1.good S2.good, S1.rd, S2.rd, List.take_length, List.take_length] at hv
  replace hv : All2 SV vs [wordL n1 n, wordL n2 n] := hv
  obtain ⟨t7, t8, rfl⟩ : ∃ t7 t8, vs = [.str (ST (wordL n1 n)) t7, .str (ST (wordL n2 n)) t8] := by
    cases hv with
    | cons h1 x => cases x with
      | cons h2 x => cases x with
        | nil =>
          obtain ⟨t1, e1⟩ := h1
          obtain ⟨t2, e2⟩ := h2
          exact ⟨t1, t2, by rw [e1, e2]⟩
  have F2 := Fr.stay F1 k4
  have N2 : News B L h4 ((a, PySem.W.listOf #[.str (ST (wordL n1 n)) t7, .str (ST (wordL n2 n)) t8] nn) :: tl) := fun p hp => by
    rcases List.mem_cons.mp hp with rfl | hp
    · exact ⟨ga, Fr.neL F1 na, Fr.noB F1 na⟩
    · exact News.stay N1 k4 p hp
  clear F1 N1 k4 na ga
  iterate 13 walk1
  rename Fr _ _ _ _ => F5
  rename News _ _ _ _ => N5
  have hu : A.units + 64 < cLine := by have := G.hu; show _ < 9900; omega
  have za := N5 _ (.tail _ (.head _))
  have zl := N5 _ (.head _)
  refine ne_dataH (reads_list_at za.1 rfl rfl (.cons (.str _ _) (.cons (.str _ _) .nil))) (reads_list_at zl.1 rfl rfl (.cons (.str _ _) (.cons (.str _ _) .nil))) (shaped_two _ _ _) (shaped_two _ _ _) hu ?_
  have e3 : PyData.eqv (.list [.str (ST (wordL n1 n)), .str (ST (wordL n2 n))]) (.list [.str (ST (wordL n1 n)), .str (ST (wordL n2 n))]) = true := by
    simp [PyData.eqv, PyData.eqvAll]
  rw [e3]
  iterate 4 walk1
  rename Fr _ _ _ _ => F6
  rename News _ _ _ _ => N6
  obtain ⟨vL, F6'⟩ : ∃ vL, Fr B L _ (fun y => if y = Str.ofString "words" then some (.ref a) else if y = Str.ofString "line" then some vL else if y = Str.ofString "spelling" then some (.int sp ts) else if y = Str.ofString "width" then some (.int wd tw) else m0 y) := ⟨_, F6⟩
  have F7 : Fr B L _ (fun y => if y = Str.ofString "words" then some (.ref a) else if y = Str.ofString "width" then some (.int wd tw) else if y = Str.ofString "line" then some vL else if y = Str.ofString "spelling" then some (.int sp ts) else m0 y) := Mine.Fr.as F6' (by
    funext y
    by_cases h1 : y = Str.ofString "words"
    · subst h1; rfl
    by_cases h2 : y = Str.ofString "width"
    · subst h2; rfl
    simp only [if_neg h1, if_neg h2])
  exact K.go _ _ ((_, _) :: (_, _) :: tl) _ a _ nn F7 N6 (X.mono fun p hp => .tail _ (.tail _ hp)) (.tail _ (.head _)) hv
end Mine
end
end
section
open PySem PySem.W PyProof.Rows PySem.Calls PySem.Spec
set_option Elab.async false
set_option maxRecDepth 100000
noncomputable section
namespace Mine
noncomputable def compEndD (prog : Program) (w : World) (A : Around) (D : Addr) (kx vx : Expr) (ifs : List Expr) (cenv : Env) (E' : Value → Shared → Prop) (K : Shared → Prop) (s : Shared) : Prop :=
  wpAny (model prog w) A (forIn ifs true fun c r => if r = true then do let ok ← isTrue c cenv (eval c cenv); pure (ForInStep.yield ok) else pure (ForInStep.yield r))
    (fun ok s₃ => if ok = true then wpAny (model prog w) A (eval kx cenv) (fun kv s₄ => wpAny (model prog w) A (eval vx cenv) (fun vv s₅ => wpAny (model prog w) A (dictSet D kv vv) (fun _ s₆ => K s₆) E' s₅) E' s₄) E' s₃ else K s₃) E' s
section
variable {prog : Program} {w : World} {A : Around} {E : Value → Shared → Prop} {s : Shared} {env : Env} {K : Type} [DecidableEq K] {knd : KeyKind prog w K}
/-- what holds before each turn of a block, once its two new objects are known -/
inductive DCompJIn (prog : Program) (w : World) (A : Around) {K : Type} [DecidableEq K] (knd : KeyKind prog w K) (g : Heap) (kx vx : Expr) (x : Str) (ifs : List Expr) (scope : Scope) (cl : List (Str × Addr)) (env : Env) (R : Addr → Addr → Shared → Prop) (s₂ : Shared) (fp : List Addr) (n : Nat) (P : Nat → Value → Prop) (D C : Addr) (St : Nat → Heap → Prop) : Prop
  | mk (J : Nat → (Str → Option Value) → List (Addr × Obj) → Prop) (h0 : (∀ o : Obj, o.IsDictOf knd [] → (D == sysModules) = false → J 0 (fun _ => none) [(D, o)]))
      (turn : ∀ i v m₁ nx h tk own (K : Shared → Prop) E', i < n → P i v → (∀ p ∈ own, p.1 ∈ fp) → (∀ b ∈ fp, g.get? b = none → ∀ o, h.get? b = some o → (b, o) ∈ own) → (∀ p ∈ nx, p.1 ∉ fp) → J i m₁ nx → Fr g C h (fun y => if y = x then some v else m₁ y) → News g C h (nx ++ own) → St (i + 1) h →
        (∀ h' tk' m' nx', Fr g C h' m' → News g C h' (nx' ++ own) → (∀ p ∈ nx', p.1 ∉ fp) → J (i + 1) m' nx' → K { s₂ with heap := h', toks := tk' }) → compEndD prog w A D kx vx ifs (compEnvC scope cl C env) E' K { s₂ with heap := h, toks := tk })
      (done : ∀ m₁ nx h tk, J n m₁ nx → Fr g C h m₁ → News g C h nx → R D C { s₂ with heap := h, toks := tk }) : DCompJIn prog w A knd g kx vx x ifs scope cl env R s₂ fp n P D C St
inductive DCompJ (prog : Program) (w : World) (A : Around) {K : Type} [DecidableEq K] (knd : KeyKind prog w K) (g : Heap) (kx vx : Expr) (x : Str) (ifs : List Expr) (scope : Scope) (cl : List (Str × Addr)) (env : Env) (R : Addr → Addr → Shared → Prop) (it : Value) (s₂ : Shared) : Prop
  | mk (I : Addr) (fp : List Addr) (n : Nat) (P : Nat → Value → Prop) (St : Nat → Heap → Prop) (e : it = .ref I) (f0 : Walks prog w A I fp [I] n P St) (f1 : St 0 s₂.heap) (f2 : ∀ b ∈ fp, b < s₂.heap.objs.size) (f3 : ∀ b o, g.get? b = some o → s₂.heap.get? b = some o) (f4 : g.objs.size ≤ s₂.heap.objs.size) (f5 : g.get? I = none)
      (go : ∀ D C, D ∉ fp → C ∉ fp → g.get? D = none → D ≠ C → g.get? C = none → DCompJIn prog w A knd g kx vx x ifs scope cl env R s₂ fp n P D C St) : DCompJ prog w A knd g kx vx x ifs scope cl env R it s₂
theorem dcompBlock {kx vx iter : Expr} {x : Str} {px : Pos} {ifs : List Expr} {scope : Scope} {cl : List (Str × Addr)} {pos : Pos} {g : Heap} {it : Value} {s₂ : Shared} {R : Addr → Addr → Shared → Prop} {RR : Value → Addr → Result → Shared → Prop}
    (hbig : g.NoLimit) (hcell : ∀ y ∈ scope.names, y.2 ≠ .cell) (hkind : scope.kind = .function) (hx : scope.names.lookup x = some .local)
    (h₂ : DCompJ prog w A knd g kx vx x ifs scope cl env R it s₂) (hRR : ∀ D C s', R D C s' → RR (.ref D) C (.ok .next) s') :
    wpAny (model prog w) A (newDict) (fun acc s₃ => wpAny (model prog w) A (newFunctionEnv scope env.globals cl [] env.qual none .none (some env)) (fun cenv s₄ =>
      codeAny (model prog w) A (.compStart (.DictComp kx vx [⟨.Name x px, iter, ifs, 0⟩] scope pos) 0 it acc { cenv with scope := relabel scope env }) (RR acc cenv.locals) s₄) E s₃) E s₂ := by
  obtain ⟨I, fp, n, P, St, rfl, W, hst, hfp, hg, hgs, hI, h₂⟩ := h₂
  refine wpAny_newObj_type (wpAny_newFunctionEnv hcell (by intro y hy; simp at hy) (fun h₁ hns₁ hsb₁ => ?_) hkind)
  dsimp only at hns₁ hsb₁ ⊢
  generalize hH2 : s₂.heap.push { cls := .type "dict", dict := none, data := .dict #[] } = H2 at hns₁ hsb₁ ⊢
  have hC : H2.objs.size = s₂.heap.objs.size + 1 := by rw [← hH2, Heap.size_push]
  have hDC : s₂.heap.objs.size ≠ H2.objs.size := by rw [hC]; exact Nat.ne_of_lt (Nat.lt_succ_self _)
  have below : ∀ b, b < s₂.heap.objs.size → b ≠ H2.objs.size ∧ b ≠ s₂.heap.objs.size := fun b hb => ⟨by rw [hC]; exact Nat.ne_of_lt (Nat.lt_succ_of_lt hb), Nat.ne_of_lt hb⟩
  have hDf : s₂.heap.objs.size ∉ fp := fun hm => Nat.lt_irrefl _ (hfp _ hm)
  have hCf : H2.objs.size ∉ fp := fun hm => by have := hfp _ hm; rw [hC] at this; exact Nat.lt_irrefl _ (Nat.lt_of_succ_lt this)
  have old : ∀ b o, s₂.heap.get? b = some o → h₁.get? b = some o := fun b o e => hsb₁.extBut b o (below b (Heap.lt_size e)).1 (Heap.get?_push_of_some _ (hH2 ▸ Heap.get?_push_of_some _ e))
  obtain ⟨oD, hoD, hdD⟩ : ∃ oD : Obj, H2.get? s₂.heap.objs.size = some oD ∧ oD.IsDictOf knd [] := Heap.dictOf_iff.mp (hH2 ▸ Heap.DictOf.new (knd := knd) s₂.heap)
  have hacc : h₁.get? s₂.heap.objs.size = some oD := hsb₁.extBut _ _ hDC (Heap.get?_push_of_some _ hoD)
  have hlo : (s₂.heap.objs.size == sysModules) = false := by
    have := Nat.lt_of_lt_of_le (modules_low hbig) hgs
    exact beq_eq_false_iff_ne.mpr (Nat.ne_of_gt this)
  have hst₁ : St 0 h₁ := W.frame _ _ _ hst fun b _ o e => old b o e
  have fresh : ∀ a, s₂.heap.objs.size ≤ a → g.get? a = none := fun a ha => Heap.get?_none_of_le (Nat.le_trans hgs ha)
  obtain ⟨J, hJ, turn, done⟩ := h₂ s₂.heap.objs.size H2.objs.size hDf hCf (fresh _ (Nat.le_refl _)) hDC (fresh _ (by rw [hC]; exact Nat.le_succ _))
  replace hJ := hJ oD hdD hlo
  have F₁ : Fr g H2.objs.size h₁ (fun _ => none) := ⟨hns₁, fun b o e => old b o (hg b o e), by rw [hC]; exact Nat.le_succ_of_le hgs⟩
  have N₁ : News g H2.objs.size h₁ [(s₂.heap.objs.size, oD)] := fun p hp => by rw [List.mem_singleton.mp hp]; exact ⟨hacc, hDC, fresh _ (Nat.le_refl _)⟩
  have loop : ∀ s₃ : Shared, s₃ = { s₂ with heap := h₁, toks := s₂.toks + ([] : List (Str × Value)).length } →
      codeAny (model prog w) A (.compLoop (.DictComp kx vx [⟨.Name x px, iter, ifs, 0⟩] scope pos) 0 (.ref I) (.ref s₂.heap.objs.size) (compEnvC scope cl H2.objs.size env))
        (RR (.ref s₂.heap.objs.size) H2.objs.size) s₃ := by
    rintro s₃ rfl
    refine walkJ (s := { s₂ with heap := h₁, toks := s₂.toks + ([] : List (Str × Value)).length }) (g := g) (C := H2.objs.size)
      (E₀ := notedBy (model prog w) A (compEnvC scope cl H2.objs.size env) fun e s' => RR (.ref s₂.heap.objs.size) H2.objs.size (.error e) s')
      (R₀ := fun s' => RR (.ref s₂.heap.objs.size) H2.objs.size (.ok .next) s')
      (BODY := fun v K s₁ => wpAny (model prog w) A (assign (.Name x px) (compEnvC scope cl H2.objs.size env) v) (fun _ s₂' => compEndD prog w A s₂.heap.objs.size kx vx ifs (compEnvC scope cl H2.objs.size env) (notedBy (model prog w) A (compEnvC scope cl H2.objs.size env) fun e s' => RR (.ref s₂.heap.objs.size) H2.objs.size (.error e) s') K s₂') (notedBy (model prog w) A (compEnvC scope cl H2.objs.size env) fun e s' => RR (.ref s₂.heap.objs.size) H2.objs.size (.error e) s') s₁)
      J W hCf (fun b hb => by rw [List.mem_singleton.mp hb]; exact hI) (fun q hq => by rw [List.mem_singleton.mp hq]; exact hDf) hst₁ F₁ N₁ hJ
      (fun I turn n h => codeAny_compLoop_testsD I turn n h) (fun i v m₁ nx h tk own K hi hP ho hown hn hJ' F' N' hst' hK => ?_) (fun m₁ nx h tk hJ' F' N' hn => hRR _ _ _ (done m₁ nx h tk hJ' F' N'))
    refine wpAny_assign_Name (wpAny_storeName_local (lookup_relabel_local hx) F'.ns (fun h₃ hn₃ hs₃ => ?_) (by simp [compEnvC, relabel, hkind]))
    exact turn i v m₁ nx h₃ _ own K _ hi hP ho (fun b hb hn' o e => hown b hb hn' o ((hs₃.2 b fun q => hCf (by rw [show b = H2.objs.size from q] at hb; exact hb)).symm.trans e)) hn hJ' (F'.set hn₃ hs₃) (N'.set hs₃) (W.frame _ _ _ hst' fun b hb o e => (hs₃.2 b fun q => hCf (by rw [show b = H2.objs.size from q] at hb; exact hb)).trans e) hK
  exact codeAny_compStart_dict (loop _ rfl) (W.self 0 _ _ _ hst₁ (loop _ rfl))
theorem dictCompJ {kx vx iter : Expr} {x : Str} {px : Pos} {ifs : List Expr} {scope : Scope} {cl : List (Str × Addr)} {pos : Pos} {Q : Value → Shared → Prop}
    (hclos : closureFor scope env = pure cl) (hcell : ∀ y ∈ scope.names, y.2 ≠ .cell) (hkind : scope.kind = .function)
    (hnames : ∀ y ∈ scope.names, y.2 = .local → scope.names.lookup y.1 = some .local) (hx : scope.names.lookup x = some .local)
    (h : wpAny (model prog w) A (eval iter env) (fun xv s₁ => wpAny (model prog w) A (pyIter xv) (fun it s₂ => s₁.heap.NoLimit ∧ DCompJ prog w A knd s₁.heap kx vx x ifs scope cl env (EvalR Q) it s₂) E s₁) E s)
    (hs : ∀ x, foldedSetIterable iter env x = pure x := by intro _; rfl) :
    wpAny (model prog w) A (eval (.DictComp kx vx [⟨.Name x px, iter, ifs, 0⟩] scope pos) env) Q E s := by
  rw [arm_eval_DictComp]
  refine wpAny_comprehension_free (use := none) rfl hs hclos hkind hnames (wpAny_mono h (fun xv s₁ h₁ => wpAny_mono h₁ (fun it s₂ h₂ => ?_) fun _ _ e => e) fun _ _ e => e)
  exact dcompBlock (knd := knd) (RR := fun acc C => compPost (model prog w) A E none Q acc C) h₂.1 hcell hkind hx h₂.2 fun D C s' h => h
theorem dcomp_src {kx vx : Expr} {x : Str} {ifs : List Expr} {scope : Scope} {cl : List (Str × Addr)} {R : Addr → Addr → Shared → Prop} {n : Nat} {fp : List Addr} {P : Nat → Value → Prop} {St : Nat → Heap → Prop} {s₂ : Shared} {o₂ : Obj} (h2 : s₂ = { s with heap := s.heap.push o₂ })
    (W : Walks prog w A s.heap.objs.size fp [s.heap.objs.size] n P St) (hfp : ∀ b ∈ fp, b = s.heap.objs.size ∨ (s.heap.get? b).isSome) (hI : ∀ i h, St i h → ∃ o, h.get? s.heap.objs.size = some o) (hst : St 0 s₂.heap)
    (J : Addr → Nat → (Str → Option Value) → List (Addr × Obj) → Prop) (h0 : ∀ D (o : Obj), o.IsDictOf knd [] → (D == sysModules) = false → J D 0 (fun _ => none) [(D, o)])
    (turn : ∀ D C I i v m₁ nx h tk oI (K : Shared → Prop) E', i < n → P i v → (@Ne Nat D I) → (∀ p ∈ nx, @Ne Nat p.1 I) → J D i m₁ nx → Fr s.heap C h (fun y => if y = x then some v else m₁ y) → News s.heap C h (nx ++ [(I, oI)]) →
        (∀ h' tk' m' nx', Fr s.heap C h' m' → News s.heap C h' (nx' ++ [(I, oI)]) → (∀ p ∈ nx', @Ne Nat p.1 I) → J D (i + 1) m' nx' → K { s with heap := h', toks := tk' }) → compEndD prog w A D kx vx ifs (compEnvC scope cl C env) E' K { s with heap := h, toks := tk })
    (done : ∀ D C m₁ nx h tk, J D n m₁ nx → Fr s.heap C h m₁ → News s.heap C h nx → R D C { s with heap := h, toks := tk }) :
    DCompJ prog w A knd s.heap kx vx x ifs scope cl env R (.ref s.heap.objs.size) s₂ := by
  subst h2
  have hIf : s.heap.objs.size ∈ fp := W.sub _ (List.mem_singleton.mpr rfl)
  refine ⟨_, fp, n, P, St, rfl, W, hst, ?_, fun b o e => Heap.get?_push_of_some _ e, ?_, Heap.get?_none_of_le (Nat.le_refl _), fun D C hD hC _ _ _ => ⟨J D, fun o => h0 D o, ?_, ?_⟩⟩
  · intro b hb
    show b < (s.heap.push _).objs.size
    rw [Heap.size_push]
    rcases hfp b hb with rfl | hb
    · exact Nat.lt_succ_self _
    · obtain ⟨o, e⟩ := Option.isSome_iff_exists.mp hb
      exact Nat.lt_succ_of_lt (Heap.lt_size e)
  · show _ ≤ (s.heap.push _).objs.size
    rw [Heap.size_push]; exact Nat.le_succ _
  · intro i v m₁ nx h tk own K E' hi hP ho hown hn hJ F N hst' hK
    have own1 : ∀ p ∈ own, p.1 = s.heap.objs.size := fun p hp => by
      rcases hfp _ (ho p hp) with e | e
      · exact e
      · rw [(N p (List.mem_append_right _ hp)).2.2] at e; cases e
    obtain ⟨oI, hoI⟩ := hI _ _ hst'
    have hm := hown _ hIf (Heap.get?_none_of_le (Nat.le_refl _)) _ hoI
    obtain ⟨N1, o1⟩ := own_one hoI own1 hm N
    refine turn D C s.heap.objs.size i v m₁ nx h tk oI K E' hi hP (fun q => hD (q ▸ hIf)) (fun p hp e => hn p hp (e ▸ hIf)) hJ F N1 fun h' tk' m' nx' F' N' hn' hJ' => ?_
    refine hK h' tk' m' nx' F' (fun p hp => ?_) (fun p hp hq => ?_) hJ'
    · rcases List.mem_append.mp hp with hp | hp
      · exact N' p (List.mem_append_left _ hp)
      · rw [o1 p hp]; exact N' _ (List.mem_append_right _ (.head _))
    · rcases hfp _ hq with e | e
      · exact hn' p hp e
      · rw [(N' p (List.mem_append_left _ hp)).2.2] at e; cases e
  · exact fun m₁ nx h tk hJ F N => done D C m₁ nx h tk hJ F N
theorem dcomp_range {kx vx : Expr} {x : Str} {ifs : List Expr} {scope : Scope} {cl : List (Str × Addr)} {R : Addr → Addr → Shared → Prop} {r : Addr} {a₀ b₀ : Int} {t₀ u₀ v₀ : Tok} {n : Nat} (hh : A.handled = none) (hr : IsRange s.heap r a₀ b₀ 1 t₀ u₀ v₀) (hsmall : Builtin.Range.small a₀ b₀ 1 = true) (hn : Builtin.Range.rangeSize a₀ b₀ 1 = (n : Int))
    (J : Addr → Nat → (Str → Option Value) → List (Addr × Obj) → Prop) (h0 : ∀ D (o : Obj), o.IsDictOf knd [] → (D == sysModules) = false → J D 0 (fun _ => none) [(D, o)])
    (turn : ∀ D C I i t m₁ nx h tk oI (K : Shared → Prop) E', i < n → (@Ne Nat D I) → (∀ p ∈ nx, @Ne Nat p.1 I) → J D i m₁ nx → Fr s.heap C h (fun y => if y = x then some (.int (a₀ + (i : Nat)) t) else m₁ y) → News s.heap C h (nx ++ [(I, oI)]) →
        (∀ h' tk' m' nx', Fr s.heap C h' m' → News s.heap C h' (nx' ++ [(I, oI)]) → (∀ p ∈ nx', @Ne Nat p.1 I) → J D (i + 1) m' nx' → K { s with heap := h', toks := tk' }) → compEndD prog w A D kx vx ifs (compEnvC scope cl C env) E' K { s with heap := h, toks := tk })
    (done : ∀ D C m₁ nx h tk, J D n m₁ nx → Fr s.heap C h m₁ → News s.heap C h nx → R D C { s with heap := h, toks := tk }) :
    wpAny (model prog w) A (pyIter (.ref r)) (fun it s₂ => DCompJ prog w A knd s.heap kx vx x ifs scope cl env R it s₂) E s := by
  refine wpAny_pyIter_range hr hsmall ?_
  have W : Walks prog w A s.heap.objs.size [s.heap.objs.size] [s.heap.objs.size] n (fun i v => i < n ∧ ∃ t, v = .int (a₀ + i * 1) t)
      (fun i h => IsRangeIter h s.heap.objs.size (a₀ + (i : Nat) * 1) ((n : Int) - (i : Nat)) 1) := (Walks.range hh _ a₀ 1 n).bound
  refine dcomp_src rfl W (fun b hb => .inl (List.mem_singleton.mp hb)) (fun i h st => ⟨_, st⟩) (by show IsRangeIter _ _ _ _ _; rw [hn]; simpa using Heap.get?_push_size _ rfl) J h0 ?_ done
  rintro D C I i v m₁ nx h tk oI K E' hi ⟨_, t, rfl⟩ hD hnI hJ F N hK
  rw [Int.mul_one] at F
  exact turn D C I i t m₁ nx h tk oI K E' hi hD hnI hJ F N hK
theorem dcomp_str {kx vx : Expr} {x : Str} {ifs : List Expr} {scope : Scope} {cl : List (Str × Addr)} {R : Addr → Addr → Shared → Prop} {l : List Nat} {t₀ : Tok} (hh : A.handled = none)
    (J : Addr → Nat → (Str → Option Value) → List (Addr × Obj) → Prop) (h0 : ∀ D (o : Obj), o.IsDictOf knd [] → (D == sysModules) = false → J D 0 (fun _ => none) [(D, o)])
    (turn : ∀ D C I i c t m₁ nx h tk oI (K : Shared → Prop) E', l[i]? = some c → (@Ne Nat D I) → (∀ p ∈ nx, @Ne Nat p.1 I) → J D i m₁ nx → Fr s.heap C h (fun y => if y = x then some (.str (ST [c]) t) else m₁ y) → News s.heap C h (nx ++ [(I, oI)]) →
        (∀ h' tk' m' nx', Fr s.heap C h' m' → News s.heap C h' (nx' ++ [(I, oI)]) → (∀ p ∈ nx', @Ne Nat p.1 I) → J D (i + 1) m' nx' → K { s with heap := h', toks := tk' }) → compEndD prog w A D kx vx ifs (compEnvC scope cl C env) E' K { s with heap := h, toks := tk })
    (done : ∀ D C m₁ nx h tk, J D l.length m₁ nx → Fr s.heap C h m₁ → News s.heap C h nx → R D C { s with heap := h, toks := tk }) :
    wpAny (model prog w) A (pyIter (.str (ST l) t₀)) (fun it s₂ => DCompJ prog w A knd s.heap kx vx x ifs scope cl env R it s₂) E s := by
  have e : (ST l).cps.size = l.length := by simp [ST]
  have fin : ∀ {T : String} {St : Nat → Heap → Prop} {o₂ : Obj}, Walks prog w A s.heap.objs.size [s.heap.objs.size] [s.heap.objs.size] (ST l).cps.size (SignAt (ST l)) St → (∀ i h, St i h → ∃ o, h.get? s.heap.objs.size = some o) → St 0 (s.heap.push o₂) →
      DCompJ prog w A knd s.heap kx vx x ifs scope cl env R (.ref s.heap.objs.size) { s with heap := s.heap.push o₂ } := by
    intro T St o₂ W hI hst
    refine dcomp_src rfl W (fun b hb => .inl (List.mem_singleton.mp hb)) hI hst J h0 ?_ (by rw [e]; exact done)
    rintro D C I i v m₁ nx h tk oI K E' hi ⟨c, u, hc, rfl⟩ hD hnI hJ F N hK
    exact turn D C I i c u m₁ nx h tk oI K E' (by simpa [ST] using hc) hD hnI hJ F N hK
  cases ha : (ST l).cps.all (· < 128)
  · exact wpAny_pyIter_wide ha (fin (T := "") (Walks.strWide hh _ _ _) (fun i h st => by obtain ⟨o, e, _⟩ := st; exact ⟨o, e⟩) ⟨_, Heap.get?_push_size _ rfl, rfl, rfl⟩)
  · exact wpAny_pyIter_ascii ha (fin (T := "") (Walks.strAscii hh _ _ _) (fun i h st => by obtain ⟨o, e, _⟩ := st; exact ⟨o, e⟩) ⟨_, Heap.get?_push_size _ rfl, rfl, rfl⟩)
theorem dictSet_K {g : Heap} {C D : Addr} {o : Obj} {m : Str → Option Value} {news : List (Addr × Obj)} {gg : Obj → List (Addr × Obj)} {kvs : List (K × Value)} {k : K} {key v : Value} {Q : Unit → Shared → Prop}
    (F : Fr g C s.heap m) (N : News g C s.heap news) (U : UpdF D o news gg) (hd : o.IsDictOf knd kvs) (hkey : knd.is k key = true) (hsz : kvs.length ≤ sizeLine)
    (h : ∀ h' o', Fr g C h' m → News g C h' (gg o') → o'.IsDictOf knd (stored kvs k v) → Q () { s with heap := h', toks := s.toks + 1 }) : wpAny (model prog w) A (dictSet D key v) Q E s := by
  obtain ⟨pre, post, rfl, hg, a, b⟩ := U.split
  have hm := N (D, o) (List.mem_append_right _ (.head _))
  refine wpAny_dictSet_pairs (hsz := hsz) hkey (Heap.dictOf_iff.mpr ⟨o, hm.1, hd⟩) fun h' hmm hs => ?_
  obtain ⟨o', ho', hd'⟩ := Heap.dictOf_iff.mp hmm
  exact h h' o' (F.change hs hm.2.1 hm.2.2) (hg o' ▸ N.setIn a b hs ho') hd'
end
end Mine
end
end
section
set_option Elab.async false
set_option maxRecDepth 100000
open PySem
noncomputable section
namespace Mine
noncomputable def ddS (a : List Nat) (c : Nat) : List Nat := if c ∈ a then a else a ++ [c]
/-- the items, each once, in the order in which they come -/
noncomputable def dd (l : List Nat) : List Nat := l.foldl ddS []
theorem dd_snoc (p : List Nat) (x : Nat) : dd (p ++ [x]) = ddS (dd p) x := by unfold dd; rw [List.foldl_append]; rfl
theorem dd_mem (c : Nat) : ∀ l : List Nat, c ∈ dd l ↔ c ∈ l := by
  have key : ∀ (l a : List Nat), c ∈ l.foldl ddS a ↔ c ∈ a ∨ c ∈ l := fun l => by
    induction l with
    | nil => intro a; simp
    | cons x r ih =>
      intro a
      rw [List.foldl_cons, ih]
      unfold ddS
      by_cases h : x ∈ a
      · rw [if_pos h]
        constructor
        · rintro (h1 | h1)
          · exact .inl h1
          · exact .inr (.tail _ h1)
        · rintro (h1 | h1)
          · exact .inl h1
          · rcases List.mem_cons.mp h1 with rfl | h1
            · exact .inl h
            · exact .inr h1
      · rw [if_neg h]
        constructor
        · rintro (h1 | h1)
          · rcases List.mem_append.mp h1 with h1 | h1
            · exact .inl h1
            · rw [List.mem_singleton.mp h1]; exact .inr (.head _)
          · exact .inr (.tail _ h1)
        · rintro (h1 | h1)
          · exact .inl (List.mem_append_left _ h1)
          · rcases List.mem_cons.mp h1 with rfl | h1
            · exact .inl (List.mem_append_right _ (.head _))
            · exact .inr h1
  intro l
  have := key l []
  simpa [dd] using this
theorem dd_nodup : ∀ l : List Nat, (dd l).Nodup := by
  have key : ∀ (l a : List Nat), a.Nodup → (l.foldl ddS a).Nodup := fun l => by
    induction l with
    | nil => intro a h; exact h
    | cons x r ih =>
      intro a h
      rw [List.foldl_cons]
      refine ih _ ?_
      unfold ddS
      by_cases hx : x ∈ a
      · rw [if_pos hx]; exact h
      · rw [if_neg hx]
        rw [List.nodup_append]
        exact ⟨h, List.nodup_cons.mpr ⟨List.not_mem_nil, List.nodup_nil⟩, fun y hy z hz e => hx (by rw [List.mem_singleton.mp hz] at e; exact e ▸ hy)⟩
  exact fun l => key l [] List.nodup_nil
theorem ST_one {a b : Nat} : ST [a] = ST [b] ↔ a = b := by
  constructor
  · intro h
    have := congrArg (fun s : Str => s.cps.toList) h
    simpa [ST] using this
  · intro h; rw [h]
noncomputable def asT {β : Type} (ds : List Nat) (g : Nat → β) : List (Str × β) := ds.map fun c => (ST [c], g c)
theorem bump_as {β : Type} (ds : List Nat) (g : Nat → β) (x : Nat) (f : β → β) (b : β) : bumpR (asT ds g) (ST [x]) f b = if x ∈ ds then asT ds (fun c => if c = x then f (g c) else g c) else asT ds g ++ [(ST [x], b)] := by
  have e : (asT ds g).any (fun q => q.1 = ST [x]) = decide (x ∈ ds) := by
    rw [Bool.eq_iff_iff, List.any_eq_true, decide_eq_true_iff]
    constructor
    · rintro ⟨q, hq, e⟩
      obtain ⟨c, hc, rfl⟩ := List.mem_map.mp hq
      exact ST_one.mp (of_decide_eq_true e) ▸ hc
    · intro h
      exact ⟨_, List.mem_map.mpr ⟨x, h, rfl⟩, decide_eq_true rfl⟩
  unfold bumpR
  rw [e]
  by_cases h : x ∈ ds
  · rw [if_pos h, if_pos (decide_eq_true h)]
    unfold asT
    rw [List.map_map]
    apply List.map_congr_left
    intro c _
    show (if ST [c] = ST [x] then (ST [c], f (g c)) else (ST [c], g c)) = _
    by_cases hc : c = x
    · rw [if_pos (ST_one.mpr hc)]; dsimp only; rw [if_pos hc]
    · rw [if_neg (fun q => hc (ST_one.mp q))]; dsimp only; rw [if_neg hc]
  · rw [if_neg h, if_neg (by simpa using h)]
theorem as_congr {β : Type} {ds : List Nat} {g g' : Nat → β} (h : ∀ c ∈ ds, g c = g' c) : asT ds g = asT ds g' := by
  unfold asT; apply List.map_congr_left; intro c hc; rw [h c hc]
/-- a step of a table in its closed form -/
theorem bump_dd {β : Type} {p : List Nat} {x : Nat} {g g' : Nat → β} {f : β → β} {b : β} (h1 : x ∈ dd p → f (g x) = g' x) (h2 : x ∉ dd p → b = g' x) (h3 : ∀ c ∈ dd p, c ≠ x → g c = g' c) :
    bumpR (asT (dd p) g) (ST [x]) f b = asT (dd (p ++ [x])) g' := by
  rw [bump_as, dd_snoc]
  unfold ddS
  by_cases h : x ∈ dd p
  · rw [if_pos h, if_pos h]
    refine as_congr fun c hc => ?_
    by_cases e : c = x
    · subst e; rw [if_pos rfl]; exact h1 h
    · rw [if_neg e]; exact h3 c hc e
  · rw [if_neg h, if_neg h]
    show _ = asT (dd p ++ [x]) g'
    unfold asT
    rw [List.map_append]
    have : asT (dd p) g = asT (dd p) g' := as_congr fun c hc => h3 c hc fun e => h (e ▸ hc)
    unfold asT at this
    rw [this, h2 h]; rfl
/-- the table of both rows -/
noncomputable def TT (f u : List Nat) : Tbl := asT (dd (f ++ u)) fun c => ((f.count c : Nat), (u.count c : Nat))
theorem foldl_pre {α β : Type} {st : β → α → β} {S : List α → β} (h : ∀ p x, st (S p) x = S (p ++ [x])) : ∀ (l p : List α), l.foldl st (S p) = S (p ++ l)
  | [], p => by simp
  | x :: r, p => by rw [List.foldl_cons, h, foldl_pre h r (p ++ [x]), List.append_assoc]; rfl
theorem count_snoc (p : List Nat) (x c : Nat) : (p ++ [x]).count c = p.count c + (if c = x then 1 else 0) := by
  rw [List.count_append, List.count_cons, List.count_nil]
  by_cases h : c = x
  · subst h; simp
  · have : (x == c) = false := by simpa using fun e => h e.symm
    simp [this, h]
theorem count_none {p : List Nat} {x : Nat} (h : x ∉ dd p) : p.count x = 0 := List.count_eq_zero.mpr fun q => h ((dd_mem x p).mpr q)
theorem tab_one (f : List Nat) : f.foldl cnt1 [] = asT (dd f) fun c => (((f.count c : Nat) : Int), (0 : Int)) := by
  have := foldl_pre (st := cnt1) (S := fun p => asT (dd p) fun c => (((p.count c : Nat) : Int), (0 : Int))) (fun p x => bump_dd (fun _ => ?_) (fun h => ?_) (fun c _ hc => ?_)) f []
  · simpa [dd, asT] using this
  · rw [count_snoc, if_pos rfl]; simp; omega
  · rw [count_snoc, if_pos rfl, count_none h]; rfl
  · rw [count_snoc, if_neg hc]; rfl
theorem tab_two (f u : List Nat) : u.foldl cnt2 (f.foldl cnt1 []) = TT f u := by
  rw [tab_one]
  have := foldl_pre (st := cnt2) (S := fun p => asT (dd (f ++ p)) fun c => (((f.count c : Nat) : Int), ((p.count c : Nat) : Int))) (fun p x => ?_) u []
  · simpa [TT] using this
  · show bumpR _ _ _ _ = _
    rw [← List.append_assoc]
    refine bump_dd (fun _ => ?_) (fun h => ?_) (fun c _ hc => ?_)
    · rw [count_snoc, if_pos rfl]; simp; omega
    · have hf : f.count x = 0 := List.count_eq_zero.mpr fun q => h ((dd_mem x _).mpr (List.mem_append_left _ q))
      have hp : p.count x = 0 := List.count_eq_zero.mpr fun q => h ((dd_mem x _).mpr (List.mem_append_right _ q))
      rw [count_snoc, if_pos rfl, hf, hp]; rfl
    · rw [count_snoc, if_neg hc]; rfl
noncomputable def setT (b : Nat → Int × Int) (xs : Tbl) (c : Nat) : Tbl := bumpR xs (ST [c]) (fun _ => b c) (b c)
theorem tab_set (b : Nat → Int × Int) (l : List Nat) : l.foldl (setT b) [] = asT (dd l) b := by
  have := foldl_pre (st := setT b) (S := fun p => asT (dd p) b) (fun p x => bump_dd (fun _ => rfl) (fun _ => rfl) (fun _ _ _ => rfl)) l []
  simpa [dd, asT] using this
end Mine
end
end
section
open PySem PySem.W PyProof.Rows PySem.Calls PySem.Spec
set_option Elab.async false
set_option maxRecDepth 100000
noncomputable section
namespace Mine
theorem rules_W22 : True := by
  k_with_none
  w_top off
  k_with "storeName" => (k_here; with_reducible show wpAny _ _ (storeName _ _ (Value.int _ (Shared.toks _))) _ _ _; k_dflt (refine storeX_Li (by k_asm) (by k_asm) (fun t_kw h_kw F_kw N_kw => ?_) rfl rfl; try k_sweep))
  k_with "storeName" => (k_here; with_reducible show wpAny _ _ (storeName _ _ (Value.str _ (Shared.toks _))) _ _ _; k_dflt (refine storeX_Ls (by k_asm) (by k_asm) (fun t_kw h_kw F_kw N_kw => ?_) rfl rfl; try k_sweep))
  k_with "eval Name" => (k_here; (with_reducible show wpAny _ _ (eval (Expr.Name _ _) (compEnvC _ _ _ _)) _ _ _); k_dflt (first | (refine' ldC_own ?kw_F ?kw_h ?_ ?kw_a ?kw_b; (case kw_a => rfl); (case kw_b => rfl); (case kw_F => k_asm); (case kw_h => rfl); k_whole) | (refine' ldC_cell ?kw_F ?kw_h ?kw_g ?_ ?kw_a ?kw_b; (case kw_a => rfl); (case kw_b => rfl); (case kw_F => k_asm); (case kw_h => rfl); (case kw_g => k_asm); k_whole) | (refine' ldC_free ?kw_F ?kw_h ?kw_g ?_ ?kw_a ?kw_b; (case kw_a => rfl); (case kw_b => rfl); (case kw_F => k_asm); (case kw_h => rfl); (case kw_g => k_asm); k_whole) | (refine' LCgL.ld_global ?kw_F ?kw_X ?kw_T ?kw_e ?_ ?kw_z ?kw_a ?kw_b; (case kw_z => rfl); (case kw_a => rfl); (case kw_b => rfl); (case kw_F => k_asm); (case kw_X => k_asm); (case kw_T => k_asm); (case kw_e => k_is); k_whole) | (refine' LCgL.ld_built ?kw_F ?kw_X ?kw_T ?kw_e ?kw_v ?kw_n ?_ ?kw_z ?kw_y ?kw_a ?kw_b; (case kw_z => rfl); (case kw_y => rfl); (case kw_a => rfl); (case kw_b => rfl); (case kw_F => k_asm); (case kw_X => k_asm); (case kw_T => k_asm); (case kw_e => k_is); (case kw_v => boot_fast); (case kw_n => decide); k_whole)))
  k_with "eval Name" => (k_here; (with_reducible show wpAny _ _ (eval (Expr.Name _ _) (envOfC _ lawSc _ _ _)) _ _ _); k_dflt (refine' ld_lawI ?kw_X ?kw_N ?kw_s ?kw_v ?_ ?kw_c ?kw_k ?kw_x ?kw_b; (case kw_c => rfl); (case kw_k => rfl); (case kw_x => rfl); (case kw_b => decide); (case kw_X => with_reducible assumption); (case kw_N => k_asm); (case kw_s => (intro p_kw hp'; repeat (first | exact hp' | apply List.Mem.tail))); (case kw_v => rfl); k_whole))
  trivial
theorem fillK_W22 : (fun (_ : OpenLaw) (_ : Params → Frag) => True) PySem.Challenge.rw_xe0047_01 KF := by
  k_fill
  trivial
/-- what the law's first word is, and its second -/
structure Words (n : Nat) (f u : List Nat) : Prop where
  n3 : 3 ≤ n
  n5 : n ≤ 5
  lf : f.length = n
  lu : u.length = n
  hf : ∀ c ∈ f, c ∈ filL
  hu : ∀ c ∈ u, c ∈ filL
theorem listOf_notCell (vs : Array Value) (n : Nat) : NotCell (PySem.W.listOf vs n) := fun _ e => nomatch e
theorem tup_notCell (vs : Array Value) : NotCell (tupOf vs) := fun _ e => nomatch e
theorem dict_notCell {pr : Program} {w : World} {K : Type} [DecidableEq K] {knd : KeyKind pr w K} {o : Obj} {kvs : List (K × Value)} (h : o.IsDictOf knd kvs) : NotCell o := fun _ e => by
  obtain ⟨_, _, _, hd, _⟩ := h
  rw [hd] at e; cases e
theorem set_len (b : Nat → Int × Int) : ∀ (l : List Nat) (xs : Tbl), (l.foldl (setT b) xs).length ≤ xs.length + l.length
  | [], xs => by simp
  | c :: r, xs => by
    have h := set_len b r (setT b xs c)
    have h1 : (setT b xs c).length ≤ xs.length + 1 := bump_len _ _ _ _
    rw [List.foldl_cons, List.length_cons]; omega
theorem TabT.store {tups : List (Addr × Obj)} {kvs : List (Str × Value)} {xs : Tbl} (x : TabT tups kvs xs) (hn : (kvs.map (·.1)).Nodup) (k : Str) (T : Addr) (b : Int × Int) (t1 t2 : Tok) :
    TabT ((T, tupOf #[.int b.1 t1, .int b.2 t2]) :: tups) (stored kvs k (.ref T)) (bumpR xs k (fun _ => b) b) := by
  have x' : TabR (fun v b' => ∃ T' t1' t2', v = .ref T' ∧ (T', tupOf #[.int b'.1 t1', .int b'.2 t2']) ∈ (T, tupOf #[.int b.1 t1, .int b.2 t2]) :: tups) kvs xs := TabR.mono (fun _ _ ⟨T, t1, t2, e, hm⟩ => ⟨T, t1, t2, e, .tail _ hm⟩) x.tab
  cases hv : valueAt kvs k with
  | some v =>
    obtain ⟨_, _, h⟩ := TabR.hit x' hn hv
    exact ⟨h _ _ _ ⟨T, t1, t2, rfl, .head _⟩⟩
  | none => exact ⟨TabR.miss x' hv _ ⟨T, t1, t2, rfl, .head _⟩⟩
/-- two tables of the same pairs are equal -/
theorem tab_hits {A : Around} {s : Shared} {ka kb : List (Str × Value)} {xs : Tbl} (ha : DT s.heap ka xs) (hb : DT s.heap kb xs) (hn : (kb.map (·.1)).Nodup) (hu : A.in1.units + 64 < cLine) : KeqHits A.in1 s kb ka true := by
  have key : ∀ q ∈ ka, ∃ y, valueAt kb q.1 = some y ∧ SeqAt.EqAt A.in1 s q.2 y true := fun q hq => by
    obtain ⟨x, hx, e1, T, u1, u2, e2, g⟩ := all2_left ha hq
    obtain ⟨i, hi⟩ := List.getElem?_of_mem hx
    obtain ⟨p, hp, e3, T', u3, u4, e4, g'⟩ := hb.get hi
    refine ⟨p.2, ?_, ?_⟩
    · rw [e1, ← e3]
      have hi' : (kb.map (·.1))[i]? = some p.1 := by rw [List.getElem?_map, hp]; rfl
      cases hv : valueAt kb p.1 with
      | none =>
        have := valueAt_none.mp hv
        rw [List.any_eq_false] at this
        exact absurd (decide_eq_true rfl) (this p (List.mem_of_getElem? hp))
      | some v =>
        unfold valueAt at hv
        obtain ⟨q', hq', e5⟩ := Option.map_eq_some_iff.mp hv
        have hm := List.mem_of_find?_eq_some hq'
        have he := List.find?_some hq'
        obtain ⟨j, hj⟩ := List.getElem?_of_mem hm
        have hj' : (kb.map (·.1))[j]? = some p.1 := by rw [List.getElem?_map, hj]; simpa using he
        have : i = j := (List.getElem?_inj (by have := (List.getElem?_eq_some_iff.mp hi').1; exact this) hn).mp (hi'.trans hj'.symm)
        subst this
        rw [hp] at hj; cases hj
        exact e5 ▸ rfl
    · rw [e2, e4]
      have := keq_at (A := A) (s := s) (reads_tuple_at g rfl rfl (.cons (.int _ _) (.cons (.int _ _) .nil))) (reads_tuple_at g' rfl rfl (.cons (.int _ _) (.cons (.int _ _) .nil))) (by rfl) (by rfl) hu
      have e : PyData.eqv (.tuple [.int x.2.1, .int x.2.2]) (.tuple [.int x.2.1, .int x.2.2]) = true := by simp [PyData.eqv, PyData.eqvAll]
      rw [e] at this
      exact this
  clear ha
  induction ka with
  | nil => exact .nil
  | cons q r ih =>
    obtain ⟨y, h1, h2⟩ := key q (.head _)
    exact .hit h1 h2 (ih fun q hq => key q (.tail _ hq))
set_option maxHeartbeats 4000000 in
theorem law_table {w : World} {A : Around} {s : Shared} {B : Heap} {L : Addr} {Q : Flow → Shared → Prop} {tl : List (Addr × Obj)} {m0 : Str → Option Value} {tw t0 t1 t2 : Tok} {n wd nn : Nat} {f u : List Nat} {a : Addr} {vs : List Value} (W : Words n f u)
    (hPL : @LT.lt Nat _ 51 L) (hB37 : B.get? 37 = none) (hB30 : B.get? 30 = none) (hB51 : B.get? 51 = none) (hg : AllBare s.gens)
    (G : Env0 w A B 29) (F : Fr B L s.heap (fun y => if y = Str.ofString "words" then some (.ref a) else if y = Str.ofString "width" then some (.int wd tw) else m0 y)) (N : News B L s.heap tl)
    (X : Mine.LT B L tl [some (.int n t0), some (.str (ST f) t1), some (.str (ST u) t2), none, none, none, none, none, none]) (ha : (a, PySem.W.listOf (List.toArray vs) nn) ∈ tl) (hV : All2 SV vs [f, u])
    (K : Later (∀ h' tk' g' tl' (m0 : Str → Option Value) d o kvs, AllBare g' → Fr B L h' (fun y => if y = Str.ofString "table" then some (.ref d) else if y = Str.ofString "width" then some (.int wd tw) else m0 y) → News B L h' tl' →
      Mine.LT B L tl' [some (.int n t0), some (.str (ST f) t1), some (.str (ST u) t2), none, none, none, none, none, none] → (d, o) ∈ tl' → (d == sysModules) = false → o.IsDictOf (strKind pw w) kvs → TabT tl' kvs (TT f u) →
      wpAny (model pw w) A (execs (lawB 11) (lawE L)) Q (fun _ _ => False) { s with heap := h', toks := tk', gens := g' })) :
    wpAny (model pw w) A (execs (lawB 9) (lawE L)) Q (fun _ _ => False) s := by
  obtain ⟨p, lo, me, mg, mb, T⟩ := G.T
  have XB := G.X
  have hh := G.hh
  show wpAny _ _ (execs (_ :: _) _) _ _ _
  repeat walk1
  rename Fr _ _ _ _ => F1
  rename News _ _ _ _ => N1
  have k37 := X.t37.tab N1 F1.keep
  have k30 := X.t30.tab N1 F1.keep
  obtain ⟨ps, h51, hps⟩ := X.t51
  refine counted_spec (dd := 26) a vs nn f u (N1 _ ha).1 hV (by have := W.lf; have := W.n5; omega) (by have := W.lu; have := W.n5; omega) G F1.keep hB51 ⟨ps, (N1 _ h51).1, hps⟩ hg ?_
  intro h2 tk2 g2 d kvs hg2 lo2 nd k2 t51 hd hv hnw
  rw [tab_two] at hv
  have F2 := Fr.but F1 (Ps := [51]) (fun P hP => by rw [List.mem_singleton.mp hP]; exact hB51) (notMem1 (Nat.ne_of_gt hPL)) k2
  have j37 := tab_but (show @Ne Nat 37 51 by decide) k37 (N1 _ h51).1 (hps.imp id fun ⟨c', e⟩ => ⟨_, _, c', e⟩) k2
  have j30 := tab_but (show @Ne Nat 30 51 by decide) k30 (N1 _ h51).1 (hps.imp id fun ⟨c', e⟩ => ⟨_, _, c', e⟩) k2
  obtain ⟨tl2, N2, X2, kp⟩ := LT.refresh F2 hPL hB37 hB30 hB51 N1 X (StayBut.sub k2 fun b hb => by rw [List.mem_singleton.mp hb]; decide) j37 j30 t51
  obtain ⟨od, god, hod⟩ := Heap.dictOf_iff.mp hd
  obtain ⟨tups, hdt, ht⟩ := tups_of hv
  have Nt := tups_news F2 (fun q hq T e => Fr.noB F1 (hnw q hq T e)) ht
  have Nd : News B L h2 [(d, od)] := fun p hp => by rw [List.mem_singleton.mp hp]; exact ⟨god, Fr.neL F1 nd, Fr.noB F1 nd⟩
  obtain ⟨tl3, N3, e3⟩ : ∃ tl3, News B L h2 tl3 ∧ tl3 = [(d, od)] ++ (tups ++ tl2) := ⟨_, Nd.append (Nt.append N2), rfl⟩
  have md : (d, od) ∈ tl3 := by rw [e3]; exact .head _
  have mt : TabT tl3 kvs (TT f u) := ⟨TabR.mono (fun _ _ ⟨T, t1, t2, e, hm⟩ => ⟨T, t1, t2, e, by rw [e3]; exact List.mem_append_right _ (List.mem_append_left _ hm)⟩) hdt.tab⟩
  have X3 := X2.mono (tl' := tl3) fun p hp => by rw [e3]; exact List.mem_append_right _ (List.mem_append_right _ hp)
  clear e3 Nd Nt ht hdt god kp X2 N2 tups tl2 k37 k30 j37 j30 h51 hps X N1 F1 hv hd k2 t51
  iterate 6 walk1
  rename Fr _ _ _ _ => F4
  rename News _ _ _ _ => N4
  refine' dictCompJ (knd := strKind pw w) ?cl ?ce ?ki ?na ?xl ?body
  case cl => with_unfolding_all rfl
  case ce => decide
  case ki => rfl
  case na => decide
  case xl => rfl
  have zf : (ST f).length ≤ 5 := by rw [ST_len]; have := W.lf; have := W.n5; omega
  have zu : (ST u).length ≤ 5 := by rw [ST_len]; have := W.lu; have := W.n5; omega
  have cF : Heap.IsCell _ (L + 1 + 1) (some (.str (ST f) t1)) := let ⟨o, hm, hd⟩ := X3.cells 1 _ rfl; ⟨o, (N4 _ hm).1, hd⟩
  have cU : Heap.IsCell _ (L + 1 + 1 + 1) (some (.str (ST u) t2)) := let ⟨o, hm, hd⟩ := X3.cells 2 _ rfl; ⟨o, (N4 _ hm).1, hd⟩
  repeat walk1
  rw [ST_app]
  have hnl := T.nolimit.keeps F4.keep
  refine wpAny_mono (dcomp_str (knd := strKind pw w) hh (fun Dc j m nx => ∃ o kv2 tups, nx = (Dc, o) :: tups ∧ o.IsDictOf (strKind pw w) kv2 ∧ (Dc == sysModules) = false ∧ TabT tups kv2 (((f ++ u).take j).foldl (setT fun c => ((f.count c : Nat), (u.count c : Nat))) []) ∧ OwnOff tups [Dc]) (fun Dc o h1 h2 => ⟨o, [], [], rfl, h1, h2, ⟨.nil⟩, fun _ h => nomatch h⟩) ?turn ?done) (fun _ _ x => ⟨hnl, x⟩) fun _ _ e => e
  case turn =>
    rintro Dc C I j c t9 m1 nx h9 tk9 oI K E' hj hDI hnI ⟨o, kv2, tups, rfl, ho, hlo, hdt, hoff⟩ F9 N9 hK
    have hDI2 := hDI.symm
    unfold compEndD
    refine wpAny_tests_nil ?_
    dsimp only
    rw [if_pos rfl]
    walk1
    refine wpAny_Tuple ?_
    repeat walk1
    have F10 := Fr.push F9 (tupOf #[.int (Txt.count (ST f) (ST [c])) tk9, .int (Txt.count (ST u) (ST [c])) (tk9 + 1)])
    have N9a : News _ C h9 ((Dc, o) :: (I, oI) :: tups) := fun p hp => N9 p (by
      rcases List.mem_cons.mp hp with rfl | hp
      · exact .head _
      rcases List.mem_cons.mp hp with rfl | hp
      · exact List.mem_append_right _ (.head _)
      · exact List.mem_append_left _ (.tail _ hp))
    have N10 := newsPush N9a F9 (tupOf #[.int (Txt.count (ST f) (ST [c])) tk9, .int (Txt.count (ST u) (ST [c])) (tk9 + 1)])
    have lD := ltN (a := Dc) (b := h9.objs.size) (Heap.lt_size (N9a _ (.head _)).1)
    have lI := ltN (a := I) (b := h9.objs.size) (Heap.lt_size (N9a _ (.tail _ (.head _))).1)
    have hod2 : (kv2.map (·.1)).Nodup := keysNodup_of_isDictOf ho
    have hlen := hdt.tab.length
    have hln := set_len (fun c => (((f.count c : Nat) : Int), ((u.count c : Nat) : Int))) ((f ++ u).take j) []
    have hlt : ((f ++ u).take j).length ≤ 10 := by rw [List.length_take, List.length_append]; have := W.lf; have := W.lu; have := W.n5; omega
    refine dictSet_K (knd := strKind pw w) F10 N10 (.tail (Nat.ne_of_gt lD) (.head fun p hp => ?_)) ho (strKind_is _ _ _ _) (by rw [sizeLine_eq]; rw [List.length_nil] at hln; omega) ?_
    · rcases List.mem_cons.mp hp with rfl | hp
      · exact hDI2
      · exact hoff.ne (.head _) p hp
    intro h11 o11 F11 N11 ho11
    refine hK _ _ _ ((Dc, o11) :: (h9.objs.size, tupOf #[.int (Txt.count (ST f) (ST [c])) tk9, .int (Txt.count (ST u) (ST [c])) (tk9 + 1)]) :: tups) F11 (fun p hp => N11 p ?_) (fun p hp => ?_) ⟨o11, _, _, rfl, ho11, hlo, ?_, ?_⟩
    · rcases List.mem_append.mp hp with hp | hp
      · rcases List.mem_cons.mp hp with rfl | hp
        · exact .tail _ (.head _)
        rcases List.mem_cons.mp hp with rfl | hp
        · exact .head _
        · exact .tail _ (.tail _ (.tail _ hp))
      · rw [List.mem_singleton.mp hp]; exact .tail _ (.tail _ (.head _))
    · rcases List.mem_cons.mp hp with rfl | hp
      · exact hDI
      rcases List.mem_cons.mp hp with rfl | hp
      · exact Nat.ne_of_gt lI
      · exact hnI p (.tail _ hp)
    · have e1 : ((f ++ u).take (j + 1)) = (f ++ u).take j ++ [c] := by rw [List.take_add_one, hj]; rfl
      rw [e1, List.foldl_append, count_ST, count_ST]
      exact hdt.store hod2 (ST [c]) h9.objs.size (((f.count c : Nat) : Int), ((u.count c : Nat) : Int)) tk9 (tk9 + 1)
    · intro p hp b hb
      rw [List.mem_singleton.mp hb]
      rcases List.mem_cons.mp hp with rfl | hp
      · exact Nat.ne_of_gt lD
      · exact hoff.ne (.head _) p hp
  case done =>
    rintro Dc C m1 nx h9 tk9 ⟨o, kv2, tups, rfl, ho, hlo, hdt, hoff⟩ F9 N9
    rw [List.take_length, tab_set] at hdt
    refine compDone F9 N9 fun h10 N10 k10 => ?_
    have F12 := Fr.stay F4 k10
    have N12 := News.join F4 N4 N10 k10
    have zd := N12 _ (List.mem_append_right _ md)
    have zD := N12 _ (List.mem_append_left _ (.head _))
    have hu1 : A.in1.units + 64 < cLine := by have := G.hu; show A.units + 1 + 64 < 9900; omega
    have hu0 : A.units < cLine := by have := G.hu; show _ < 9900; omega
    have ed : (asT (dd (f ++ u)) fun c => (((f.count c : Nat) : Int), ((u.count c : Nat) : Int))) = TT f u := rfl
    rw [ed] at hdt
    have h1 := mt.dt N12 fun p hp => List.mem_append_right _ hp
    have h2 := hdt.dt N12 fun p hp => List.mem_append_left _ (.tail _ hp)
    refine keq_ne (knd := strKind pw w) lo2 hlo (Heap.dictOf_iff.mpr ⟨_, zd.1, hod⟩) (Heap.dictOf_iff.mpr ⟨_, zD.1, ho⟩) hu0 (fun _ => tab_hits h1 h2 (keysNodup_of_isDictOf ho) hu1) ?_
    have el : (kvs.length == kv2.length && true) = true := by rw [h1.length, ← h2.length]; simp
    rw [el]
    clear F9 N9 k10
    iterate 3 walk1
    have F13 : Fr B L h10 (fun y => if y = Str.ofString "table" then some (.ref d) else if y = Str.ofString "width" then some (.int wd tw) else if y = Str.ofString "words" then some (.ref a) else m0 y) := Mine.Fr.as F12 (by
      funext y
      by_cases h1 : y = Str.ofString "table"
      · subst h1; rfl
      by_cases h2 : y = Str.ofString "width"
      · subst h2; rfl
      simp only [if_neg h1, if_neg h2])
    exact K.go _ _ _ tl3 _ d od kvs hg2 F13 (fun p hp => N12 p (List.mem_append_right _ hp)) X3 md lo2 hod mt
end Mine
end
end
section
open PySem PySem.W PyProof.Rows PySem.Calls PySem.Spec
set_option Elab.async false
set_option maxRecDepth 100000
noncomputable section
namespace Mine
theorem newEnv_own {M : Model} {A : Around} {E : Value → Shared → Prop} {s : Shared} {scope : Scope} {globals : Addr} {cl : List (Str × Addr)} {qual : Str} {env : Env} {Q : Env → Shared → Prop}
    (hQ : Q (newEnv scope s.heap.objs.size globals (cellsFrom (s.heap.objs.size + 1) scope.names cl) qual none .none (some env) builtinsNs) { s with heap := pushCells (s.heap.push { cls := .type "dict", data := .dict #[] }) scope.names }) :
    wpAny M A (newFunctionEnv scope globals cl [] qual none .none (some env)) Q E s := by
  simp only [newFunctionEnv, Option.isSome_some, if_true]
  refine wpAny_bind (wpAny_alloc ?_)
  refine wpAny_bind (wpAny_layCells _ (fun name kind cells => by cases hkc : kind == NameKind.cell <;> simp [hkc]) _ _ _ _ ?_)
  rw [show ({ s with heap := s.heap.push { cls := .type "dict", data := .dict #[] } } : Shared).heap.objs.size = s.heap.objs.size + 1 from Heap.size_push ..]
  exact wpAny_bind (wpAny_pure (wpAny_pure hQ))
section
variable {prog : Program} {w : World} {A : Around} {E : Value → Shared → Prop} {s : Shared} {env : Env}
/-- what a block over a list draws from, its one name a cell -/
inductive CellSrc (prog : Program) (w : World) (A : Around) (elt : Expr) (scope : Scope) (cl : List (Str × Addr)) (x : Str) (env : Env) (Q : Value → Shared → Prop) (xv : Value) (s₁ : Shared) : Prop
  | mk (l : Addr) (items : Array Value) (e : xv = .ref l) (hl : s₁.heap.IsList l items) (J : Addr → Nat → List (Addr × Obj) → Prop) (h0 : ∀ D, J D 0 [(D, PySem.W.listOf #[] 0)])
      (turn : ∀ D C I i v m₁ nx h tk oI oc (K : Shared → Prop) E', i < items.size → items[i]? = some v → oc.data = .cell (some v) → (@Ne Nat D I) → (@Ne Nat D (C + 1)) → (@Ne Nat (C + 1) I) → (∀ p ∈ nx, @Ne Nat p.1 I) → (∀ p ∈ nx, @Ne Nat p.1 (C + 1)) → J D i nx → Fr s₁.heap C h m₁ → News s₁.heap C h (nx ++ [(C + 1, oc), (I, oI)]) →
        (∀ h' tk' m' nx', Fr s₁.heap C h' m' → News s₁.heap C h' (nx' ++ [(C + 1, oc), (I, oI)]) → (∀ p ∈ nx', @Ne Nat p.1 I) → (∀ p ∈ nx', @Ne Nat p.1 (C + 1)) → J D (i + 1) nx' → K { s₁ with heap := h', toks := tk' }) →
        compEnd prog w A D elt [] (compEnvC scope ((x, C + 1) :: cl) C env) E' K { s₁ with heap := h, toks := tk })
      (done : ∀ D C m₁ nx h tk, J D items.size nx → Fr s₁.heap C h m₁ → News s₁.heap C h nx → EvalR Q D C { s₁ with heap := h, toks := tk }) : CellSrc prog w A elt scope cl x env Q xv s₁
/-- a list block over a list, whose one name is a cell of its own (a block within closes over it) -/
theorem listCompC {elt iter : Expr} {x : Str} {px : Pos} {scope : Scope} {cl : List (Str × Addr)} {pos : Pos} {Q : Value → Shared → Prop}
    (hclos : closureFor scope env = pure cl) (hkind : scope.kind = .function) (hnames : ∀ y ∈ scope.names, y.2 = .local → scope.names.lookup y.1 = some .local)
    (hpc : ∀ h : Heap, pushCells h scope.names = h.push { cls := .type "cell", data := .cell none }) (hcf : ∀ C : Addr, cellsFrom (C + 1) scope.names cl = (x, C + 1) :: cl) (hx : (relabel scope env).names.lookup x = some .cell)
    (hh : A.handled = none)
    (h : wpAny (model prog w) A (eval iter env) (CellSrc prog w A elt scope cl x env Q) E s)
    (hs : ∀ x, foldedSetIterable iter env x = pure x := by intro _; rfl) :
    wpAny (model prog w) A (eval (.ListComp elt [⟨.Name x px, iter, [], 0⟩] scope pos) env) Q E s := by
  rw [eval_ListComp]
  refine wpAny_comprehension_free (use := none) rfl hs hclos hkind hnames (wpAny_mono h (fun xv s₁ h₁ => ?_) fun _ _ e => e)
  obtain ⟨l, items, rfl, hl, J, hJ0, turn, done⟩ := h₁
  have hlt : l < s₁.heap.objs.size := by obtain ⟨_, e, _⟩ := hl; exact Heap.lt_size e
  refine wpAny_pyIter_list hl ?_
  generalize hI : s₁.heap.objs.size = I at *
  have gI0 : (s₁.heap.push { cls := .type "list_iterator", data := .fields #[.ref l, .int 0 0] }).IsListIter I l 0 := hI ▸ ⟨_, Heap.get?_push_size _ rfl, rfl, rfl⟩
  generalize hH1 : s₁.heap.push { cls := .type "list_iterator", data := .fields #[.ref l, .int 0 0] } = H1 at *
  obtain ⟨oI0, gI, hI1⟩ := gI0
  have up1 : ∀ b o, s₁.heap.get? b = some o → H1.get? b = some o := fun b o e => hH1 ▸ Heap.get?_push_of_some _ e
  have z1 : H1.objs.size = I + 1 := by rw [← hH1, Heap.size_push, hI]
  refine wpAny_newObj_type (newEnv_own ?_)
  dsimp only
  generalize hH2 : H1.push { cls := .type "list", dict := none, data := .seq ([] : List Value).toArray } = H2
  have hD : H1.objs.size = I + 1 := z1
  have z2 : H2.objs.size = I + 2 := by rw [← hH2, Heap.size_push, z1]
  rw [hD, z2, hpc, hcf]
  generalize hH3 : H2.push { cls := .type "dict", data := .dict #[] } = H3
  have z3 : H3.objs.size = I + 3 := by rw [← hH3, Heap.size_push, z2]
  generalize hH4 : H3.push { cls := .type "cell", data := .cell none } = H4
  have up : ∀ b o, s₁.heap.get? b = some o → H4.get? b = some o := fun b o e => by
    rw [← hH4, ← hH3, ← hH2]; exact Heap.get?_push_of_some _ (Heap.get?_push_of_some _ (Heap.get?_push_of_some _ (up1 b o e)))
  have gD : H4.get? (I + 1) = some (PySem.W.listOf #[] 0) := by
    rw [← hH4, ← hH3]; refine Heap.get?_push_of_some _ (Heap.get?_push_of_some _ ?_)
    rw [← hH2, ← hD]; exact Heap.get?_push_size _ rfl
  have nC : H4.Ns (I + 2) (fun _ => none) := by
    have : H3.Ns (I + 2) (fun _ => none) := by rw [← hH3, ← z2]; exact Heap.Ns.new H2 (.type "dict")
    exact hH4 ▸ this.push _
  have gc : H4.get? (I + 2 + 1) = some ({ cls := .type "cell", data := .cell none } : Obj) := by
    rw [← hH4, show I + 2 + 1 = H3.objs.size from z3.symm]; exact Heap.get?_push_size _ rfl
  have gI4 : H4.get? I = H1.get? I := by
    have e1 : I ≠ H3.objs.size := by rw [z3]; omega
    rw [gI, ← hH4, ← hH3, ← hH2]; exact Heap.get?_push_of_some _ (Heap.get?_push_of_some _ (Heap.get?_push_of_some _ gI))
  have fresh : ∀ a, I ≤ a → s₁.heap.get? a = none := fun a ha => Heap.get?_none_of_le (hI ▸ ha)
  have F₁ : Fr s₁.heap (I + 2) H4 (fun _ => none) := ⟨nC, up, by rw [hI]; exact Nat.le_add_right _ _⟩
  have N₁ : News s₁.heap (I + 2) H4 ([(I + 1, PySem.W.listOf #[] 0)] ++ [(I + 2 + 1, ({ cls := .type "cell", data := .cell none } : Obj))]) := fun p hp => by
    rcases List.mem_cons.mp hp with rfl | hp
    · exact ⟨gD, by show @Ne Nat (I + 1) (I + 2); omega, fresh _ (Nat.le_succ _)⟩
    · rw [List.mem_singleton.mp hp]; exact ⟨gc, by show @Ne Nat (I + 2 + 1) (I + 2); omega, fresh _ (by show (I : Nat) ≤ I + 2 + 1; omega)⟩
  have W := Walks.list (prog := prog) (w := w) hh I l (by rw [← hI]; exact Nat.ne_of_lt (hI ▸ hlt)) items
  have st0 : H4.IsListIter I l 0 ∧ H4.IsList l items := by
    refine ⟨⟨oI0, gI4.trans gI, hI1⟩, hl.at fun o e => up _ o e⟩
  have hwr : ∀ b ∈ [I], s₁.heap.get? b = none := fun b hb => by rw [List.mem_singleton.mp hb]; exact fresh _ (Nat.le_refl _)
  have loop : ∀ s₃ : Shared, s₃ = { s₁ with heap := H4 } →
      codeAny (model prog w) A (.compLoop (.ListComp elt [⟨.Name x px, iter, [], 0⟩] scope pos) 0 (.ref I) (.ref (I + 1)) (compEnvC scope ((x, I + 2 + 1) :: cl) (I + 2) env)) (compPost (model prog w) A E none Q (.ref (I + 1)) (I + 2)) s₃ := by
    rintro s₃ rfl
    refine walkJ (s := { s₁ with heap := H4 }) (g := s₁.heap) (C := I + 2)
      (E₀ := notedBy (model prog w) A (compEnvC scope ((x, I + 2 + 1) :: cl) (I + 2) env) fun e s' => compPost (model prog w) A E none Q (.ref (I + 1)) (I + 2) (.error e) s')
      (R₀ := fun s' => compPost (model prog w) A E none Q (.ref (I + 1)) (I + 2) (.ok .next) s')
      (BODY := fun v K s₂ => wpAny (model prog w) A (assign (.Name x px) (compEnvC scope ((x, I + 2 + 1) :: cl) (I + 2) env) v) (fun _ s₂' => compEnd prog w A (I + 1) elt [] (compEnvC scope ((x, I + 2 + 1) :: cl) (I + 2) env) (notedBy (model prog w) A (compEnvC scope ((x, I + 2 + 1) :: cl) (I + 2) env) fun e s' => compPost (model prog w) A E none Q (.ref (I + 1)) (I + 2) (.error e) s') K s₂')
        (notedBy (model prog w) A (compEnvC scope ((x, I + 2 + 1) :: cl) (I + 2) env) fun e s' => compPost (model prog w) A E none Q (.ref (I + 1)) (I + 2) (.error e) s') s₂)
      (fun i _ nx => ∃ nx₀ oc v₀, nx = nx₀ ++ [(I + 2 + 1, oc)] ∧ oc.data = .cell v₀ ∧ (∀ p ∈ nx₀, @Ne Nat p.1 (I + 2 + 1)) ∧ J (I + 1) i nx₀)
      W (fun hq => ?_) hwr (fun q hq hf => ?_) st0 F₁ N₁ ⟨_, _, none, rfl, rfl, (fun p hp => by rw [List.mem_singleton.mp hp]; show @Ne Nat (I + 1) (I + 2 + 1); omega), hJ0 _⟩
      (fun I' turn n h => codeAny_compLoop_tests I' turn n h) (fun i v m₁ nx h tk own K hi hP ho hown hn hJ' F' N' hst' hK => ?_) (fun m₁ nx h tk hJ' F' N' hn => ?_)
    · simp only [List.mem_cons, List.not_mem_nil, or_false] at hq
      rcases hq with q | q
      · have : (I : Nat) + 2 = I := q; omega
      · have h1 : l < I := hI ▸ hlt
        rw [← q] at h1
        have : (I : Nat) + 2 < I := h1; omega
    · have h1 : l < I := hI ▸ hlt
      simp only [List.mem_cons, List.not_mem_nil, or_false] at hf
      rcases List.mem_cons.mp hq with rfl | hq
      · rcases hf with q | q
        · have : (I : Nat) + 1 = I := q; omega
        · rw [← q] at h1; have : (I : Nat) + 1 < I := h1; omega
      · rw [List.mem_singleton.mp hq] at hf
        rcases hf with q | q
        · have : (I : Nat) + 2 + 1 = I := q; omega
        · rw [← q] at h1; have : (I : Nat) + 2 + 1 < I := h1; omega
    · obtain ⟨nx₀, oc, v₀, rfl, hoc, hne, hj⟩ := hJ'
      obtain ⟨oI, hoI, _⟩ := id hst'.1
      have own1 : ∀ p ∈ own, p.1 = I := fun p hp => by
        have := ho p hp
        simp only [List.mem_cons, List.not_mem_nil, or_false] at this
        rcases this with e | e
        · exact e
        · have z := (N' p (List.mem_append_right _ hp)).2.2
          rw [e] at z; obtain ⟨_, e', _⟩ := hl; rw [e'] at z; cases z
      have hm := hown _ (.head _) (fresh _ (Nat.le_refl _)) _ hoI
      obtain ⟨N1, o1⟩ := own_one hoI own1 hm N'
      have zc := N1 (I + 2 + 1, oc) (List.mem_append_left _ (List.mem_append_right _ (.head _)))
      refine wpAny_assign_Name (wpAny_storeName_cell (c := I + 2 + 1) (by show (relabel scope env).kind = _; exact hkind) hx (by show List.lookup x ((x, I + 2 + 1) :: cl) = _; rw [List.lookup_cons, beq_self_eq_true]) ⟨oc, zc.1, hoc⟩ fun h₂ hv hs₂ => ?_)
      obtain ⟨oc', hoc', hdc'⟩ := hv
      have F₂ : Fr s₁.heap (I + 2) h₂ m₁ := F'.change hs₂ zc.2.1 zc.2.2
      have hIc : @Ne Nat (I + 2 + 1) I := by show (I : Nat) + 2 + 1 ≠ I; omega
      have N₂ : News s₁.heap (I + 2) h₂ (nx₀ ++ [(I + 2 + 1, oc'), (I, oI)]) := fun p hp => by
        rcases List.mem_append.mp hp with hp | hp
        · have z := N1 p (List.mem_append_left _ (List.mem_append_left _ hp))
          exact ⟨(hs₂.2 _ (hne p hp)).trans z.1, z.2⟩
        rcases List.mem_cons.mp hp with rfl | hp
        · exact ⟨hoc', zc.2⟩
        · rw [List.mem_singleton.mp hp]
          have z := N1 (I, oI) (List.mem_append_right _ (.head _))
          exact ⟨(hs₂.2 _ hIc.symm).trans z.1, z.2⟩
      refine turn (I + 1) (I + 2) I i v m₁ nx₀ h₂ _ oI oc' K _ hi hP hdc' (by show (I : Nat) + 1 ≠ I; omega) (by show (I : Nat) + 1 ≠ I + 2 + 1; omega) hIc (fun p hp e => hn p (List.mem_append_left _ hp) (e ▸ .head _)) hne hj F₂ N₂ fun h' tk' m' nx' F3 N3 hn' hne' hj' => ?_
      refine hK h' tk' m' (nx' ++ [(I + 2 + 1, oc')]) F3 (fun p hp => ?_) (fun p hp hq => ?_) ⟨nx', oc', _, rfl, hdc', hne', hj'⟩
      · rcases List.mem_append.mp hp with hp | hp
        · rcases List.mem_append.mp hp with hp | hp
          · exact N3 p (List.mem_append_left _ hp)
          · rw [List.mem_singleton.mp hp]; exact N3 _ (List.mem_append_right _ (.head _))
        · rw [o1 p hp]; exact N3 _ (List.mem_append_right _ (.tail _ (.head _)))
      · simp only [List.mem_cons, List.not_mem_nil, or_false] at hq
        have zl : s₁.heap.get? p.1 = none := by
          rcases List.mem_append.mp hp with hp | hp
          · exact (N3 p (List.mem_append_left _ hp)).2.2
          · rw [List.mem_singleton.mp hp]; exact zc.2.2
        rcases hq with e | e
        · rcases List.mem_append.mp hp with hp | hp
          · exact hn' p hp e
          · rw [List.mem_singleton.mp hp] at e; exact hIc e
        · rw [e] at zl; obtain ⟨_, e', _⟩ := hl; rw [e'] at zl; cases zl
    · obtain ⟨nx₀, oc, v₀, rfl, hoc, hne, hj⟩ := hJ'
      exact done (I + 1) (I + 2) m₁ nx₀ h tk hj F' fun p hp => N' p (List.mem_append_left _ hp)
  exact codeAny_compStart_list (loop _ rfl) (W.self 0 _ _ _ st0 (loop _ rfl))
end
end Mine
end
end
section
open PySem PySem.W PyProof.Rows PySem.Calls PySem.Spec
set_option Elab.async false
set_option maxRecDepth 100000
noncomputable section
namespace Mine
/-- where an int of a block ends: the ledger stands -/
noncomputable def IntEnd (g : Heap) (C : Addr) (nx : List (Addr × Obj)) (s : Shared) (x : Int) (v : Value) (s' : Shared) : Prop :=
  (∃ t, v = .int x t) ∧ ∃ h' tk' m', s' = { s with heap := h', toks := tk' } ∧ Fr g C h' m' ∧ News g C h' nx
theorem range_map_next {α : Type} (f : Nat → α) (i : Nat) : (List.range (i + 1)).map f = (List.range i).map f ++ [f i] := by rw [List.range_succ, List.map_append]; rfl
section
variable {prog : Program} {w : World} {A : Around} {E : Value → Shared → Prop} {s : Shared} {env : Env}
theorem comp_rangeI {elt : Expr} {x : Str} {scope : Scope} {cl : List (Str × Addr)} {R : Addr → Addr → Shared → Prop} {r : Addr} {a₀ b₀ : Int} {t₀ u₀ v₀ : Tok} {n : Nat} (hh : A.handled = none) (hr : IsRange s.heap r a₀ b₀ 1 t₀ u₀ v₀) (hsmall : Builtin.Range.small a₀ b₀ 1 = true) (hn : Builtin.Range.rangeSize a₀ b₀ 1 = (n : Int))
    (f : Nat → Int) (hz : n ≤ sizeLine)
    (turn : ∀ C i t (m₁ : Str → Option Value) nx h tk E', i < n → Fr s.heap C h (fun y => if y = x then some (.int (a₀ + (i : Nat)) t) else m₁ y) → News s.heap C h nx →
        wpAny (model prog w) A (eval elt (compEnvC scope cl C env)) (IntEnd s.heap C nx s (f i)) E' { s with heap := h, toks := tk })
    (done : ∀ D C m₁ vs nn h tk, All2 IV vs ((List.range n).map f) → Fr s.heap C h m₁ → News s.heap C h [(D, PySem.W.listOf (List.toArray vs) nn)] → R D C { s with heap := h, toks := tk }) :
    wpAny (model prog w) A (pyIter (.ref r)) (fun it s₂ => CompJ prog w A s.heap elt x [] scope cl env R it s₂) E s := by
  refine comp_range hh hr hsmall hn (fun Dc i m nx => ∃ vs nn, nx = [(Dc, PySem.W.listOf (List.toArray vs) nn)] ∧ All2 IV vs ((List.range i).map f)) (fun Dc => ⟨[], 0, rfl, .nil⟩) ?_ ?_
  · rintro Dc C I i t m1 nx h tk oI K E' hi hDI hnI ⟨vs, nn, rfl, hv⟩ F N hK
    unfold compEnd
    refine wpAny_tests_nil ?_
    rw [if_pos rfl]
    refine wpAny_mono (turn C i t m1 _ h tk E' hi F N) (fun v s' hp => ?_) fun _ _ e => e
    obtain ⟨⟨t', rfl⟩, h', tk', m', rfl, F2, N2⟩ := hp
    have hl := hv.length
    rw [List.length_map, List.length_range] at hl
    refine append_K F2 N2 (.head fun p hp => ?_) (fun h3 F3 N3 => ?_) ?_
    · rw [List.mem_singleton.mp hp]; exact hDI.symm
    · rw [List.push_toArray] at N3
      refine hK _ _ _ [(Dc, _)] F3 N3 (fun p hp => by rw [List.mem_singleton.mp hp]; exact hDI) ⟨_, _, rfl, ?_⟩
      rw [range_map_next]
      exact hv.app (.cons ⟨_, rfl⟩ .nil)
    · rw [List.size_toArray, hl]; omega
  · rintro Dc C m1 nx h tk ⟨vs, nn, rfl, hv⟩ F N
    exact done _ _ _ _ _ _ _ hv F N
end
end Mine
end
end
section
open PySem PySem.W PyProof.Rows PySem.Calls PySem.Spec
set_option Elab.async false
set_option maxRecDepth 100000
noncomputable section
namespace Mine
theorem rules_W23 : True := by
  k_with_none
  w_top off
  k_with "storeName" => (k_here; with_reducible show wpAny _ _ (storeName _ _ (Value.int _ (Shared.toks _))) _ _ _; k_dflt (refine storeX_Li (by k_asm) (by k_asm) (fun t_kw h_kw F_kw N_kw => ?_) rfl rfl; try k_sweep))
  k_with "storeName" => (k_here; with_reducible show wpAny _ _ (storeName _ _ (Value.str _ (Shared.toks _))) _ _ _; k_dflt (refine storeX_Ls (by k_asm) (by k_asm) (fun t_kw h_kw F_kw N_kw => ?_) rfl rfl; try k_sweep))
  k_with "eval Name" => (k_here; (with_reducible show wpAny _ _ (eval (Expr.Name _ _) (compEnvC _ _ _ _)) _ _ _); k_dflt (first | (refine' ldC_own ?kw_F ?kw_h ?_ ?kw_a ?kw_b; (case kw_a => rfl); (case kw_b => rfl); (case kw_F => k_asm); (case kw_h => rfl); k_whole) | (refine' ldC_cell ?kw_F ?kw_h ?kw_g ?_ ?kw_a ?kw_b; (case kw_a => rfl); (case kw_b => rfl); (case kw_F => k_asm); (case kw_h => rfl); (case kw_g => k_asm); k_whole) | (refine' ldC_free ?kw_F ?kw_h ?kw_g ?_ ?kw_a ?kw_b; (case kw_a => rfl); (case kw_b => rfl); (case kw_F => k_asm); (case kw_h => rfl); (case kw_g => k_asm); k_whole) | (refine' LCgL.ld_global ?kw_F ?kw_X ?kw_T ?kw_e ?_ ?kw_z ?kw_a ?kw_b; (case kw_z => rfl); (case kw_a => rfl); (case kw_b => rfl); (case kw_F => k_asm); (case kw_X => k_asm); (case kw_T => k_asm); (case kw_e => k_is); k_whole) | (refine' LCgL.ld_built ?kw_F ?kw_X ?kw_T ?kw_e ?kw_v ?kw_n ?_ ?kw_z ?kw_y ?kw_a ?kw_b; (case kw_z => rfl); (case kw_y => rfl); (case kw_a => rfl); (case kw_b => rfl); (case kw_F => k_asm); (case kw_X => k_asm); (case kw_T => k_asm); (case kw_e => k_is); (case kw_v => boot_fast); (case kw_n => decide); k_whole)))
  k_with "eval Name" => (k_here; (with_reducible show wpAny _ _ (eval (Expr.Name _ _) (envOfC _ lawSc _ _ _)) _ _ _); k_dflt (refine' ld_lawI ?kw_X ?kw_N ?kw_s ?kw_v ?_ ?kw_c ?kw_k ?kw_x ?kw_b; (case kw_c => rfl); (case kw_k => rfl); (case kw_x => rfl); (case kw_b => decide); (case kw_X => with_reducible assumption); (case kw_N => k_asm); (case kw_s => (intro p_kw hp'; repeat (first | exact hp' | apply List.Mem.tail))); (case kw_v => rfl); k_whole))
  trivial
theorem fillK_W23 : (fun (_ : OpenLaw) (_ : Params → Frag) => True) PySem.Challenge.rw_xe0047_01 KF := by
  k_fill
  trivial
theorem item_ST {l : List Nat} {j c : Nat} (h : l[j]? = some c) : Txt.item (ST l) (0 + (j : Int)) = ST [c] := by
  have hl := (List.getElem?_eq_some_iff.mp h).1
  have hS : (ST l).length = l.length := ST_len l
  have e : seqIndex? (0 + (j : Int)) (ST l).length = some j := by
    rw [hS]
    unfold seqIndex?
    simp
    omega
  show (⟨#[(Txt.charAt (ST l) (0 + (j : Int))).getD 0]⟩ : Str) = _
  unfold Txt.charAt
  rw [e]
  show (⟨#[((ST l).cps[j]?).getD 0]⟩ : Str) = _
  rw [show (ST l).cps[j]? = some c by rw [← h]; simp [ST]]
  rfl
theorem agree_next {u v : List Nat} {k : Nat} {a b : Nat} (ha : u[k]? = some a) (hb : v[k]? = some b) :
    (Txt.item (ST u) (0 + (k : Int)) == Txt.item (ST v) (0 + (k : Int))) = decide (u[k]? = v[k]?) := by
  rw [item_ST ha, item_ST hb, ha, hb]
  by_cases h : a = b
  · subst h; simp
  · have : ST [a] ≠ ST [b] := fun e => h (ST_one.mp e)
    rw [beq_eq_false_iff_ne.mpr this]; simp [h]
/-- the places where two rows agree, of the first k -/
noncomputable def agree (u v : List Nat) (k : Nat) : List Nat := (List.range k).filter fun i => u[i]? = v[i]?
theorem agree_len (u v : List Nat) (k : Nat) : (agree u v (k + 1)).length = (agree u v k).length + (if u[k]? = v[k]? then 1 else 0) := by
  unfold agree
  rw [List.range_succ, List.filter_append, List.length_append]
  by_cases h : u[k]? = v[k]? <;> simp [h]
theorem agree_le (u v : List Nat) (k : Nat) : (agree u v k).length ≤ k := by
  have := List.length_filter_le (fun i => decide (u[i]? = v[i]?)) (List.range k)
  rw [List.length_range] at this
  exact this
theorem all2_ix {α β : Type} {R : α → β → Prop} {l : List α} {r : List β} {i : Nat} {a : α} (x : All2 R l r) (h : l[i]? = some a) : ∃ b, r[i]? = some b ∧ R a b := by
  induction x generalizing i with
  | nil => cases h
  | cons h1 x ih =>
    cases i with
    | zero => cases h; exact ⟨_, rfl, h1⟩
    | succ i => exact ih h
set_option maxHeartbeats 4000000 in
theorem law_hits {w : World} {A : Around} {s : Shared} {B : Heap} {L : Addr} {Q : Flow → Shared → Prop} {tl : List (Addr × Obj)} {m0 : Str → Option Value} {tw t0 t1 t2 : Tok} {n wd : Nat} {f u : List Nat} {d : Addr} {o : Obj} {kvs : List (Str × Value)} (W : Words n f u)
    (hPL : @LT.lt Nat _ 51 L)
    (G : Env0 w A B 29) (F : Fr B L s.heap (fun y => if y = Str.ofString "table" then some (.ref d) else if y = Str.ofString "width" then some (.int wd tw) else m0 y)) (N : News B L s.heap tl)
    (X : Mine.LT B L tl [some (.int n t0), some (.str (ST f) t1), some (.str (ST u) t2), none, none, none, none, none, none]) (hd : (d, o) ∈ tl) (ho : o.IsDictOf (strKind pw w) kvs) (ht : TabT tl kvs (TT f u))
    (K : Later (∀ h' tk' tl' (hi : Addr) vs nn, Fr B L h' (fun y => if y = Str.ofString "table" then some (.ref d) else if y = Str.ofString "width" then some (.int wd tw) else m0 y) → News B L h' tl' →
      Mine.LT B L tl' [some (.int n t0), some (.str (ST f) t1), some (.str (ST u) t2), some (.ref hi), none, none, none, none, none] → (d, o) ∈ tl' → TabT tl' kvs (TT f u) →
      (hi, PySem.W.listOf (List.toArray vs) nn) ∈ tl' → All2 IV vs ((rowsP u u.length).map fun r => ((agree r f n).length : Int)) →
      wpAny (model pw w) A (execs (lawB 12) (lawE L)) Q (fun _ _ => False) { s with heap := h', toks := tk' })) :
    wpAny (model pw w) A (execs (lawB 11) (lawE L)) Q (fun _ _ => False) s := by
  obtain ⟨p, lo, me, mg, mb, T⟩ := G.T
  have XB := G.X
  have hh := G.hh
  show wpAny _ _ (execs (_ :: _) _) _ _ _
  iterate 2 walk1
  refine' listCompC (cl := ?clv) ?cl ?ki ?na ?pc ?cf ?xl hh ?body
  case cl => with_unfolding_all rfl
  case ki => rfl
  case na => decide
  case pc => intro h; rfl
  case cf => intro C; rfl
  case xl => rfl
  repeat walk1
  rename Fr _ _ _ _ => F1
  rename News _ _ _ _ => N1
  have z2 := W.lu
  have z5 := W.n5
  refine arrange_spec (d := 28) u _ (by omega) G F1 ?_
  intro h2 tk2 a vs nn na k2 ga hv
  refine ⟨a, List.toArray vs, rfl, ⟨_, ga, rfl, _, rfl⟩, fun Dc i nx => ∃ vs' nn', nx = [(Dc, PySem.W.listOf (List.toArray vs') nn')] ∧ All2 IV vs' (((rowsP u u.length).take i).map fun r => ((agree r f n).length : Int)), fun Dc => ⟨[], 0, rfl, .nil⟩, ?turn, ?done⟩
  case turn =>
    rintro Dc C I i v m1 nx h tk oI oc K2 E' hi hiv hoc hDI hDC hCI hnI hnC ⟨vs', nn', rfl, hvs⟩ F9 N9 hK
    obtain ⟨r, hri, tr, rfl⟩ := all2_ix hv (show vs[i]? = some v by simpa using hiv)
    have hr := List.mem_of_getElem? hri
    have hrl : r.length = n := by rw [← z2]; exact (rowsP_len u u.length).2 r hr
    have X2 := XB.keeps (Fr.stay F1 k2).keep
    have T2 := T.keeps (Fr.stay F1 k2).keep
    have cS : Heap.IsCell h2 (L + 1) (some (.int n t0)) := let ⟨o, hm, hd⟩ := X.cells 0 _ rfl; ⟨o, k2 _ _ (N1 _ hm).1, hd⟩
    have cF : Heap.IsCell h2 (L + 1 + 1) (some (.str (ST f) t1)) := let ⟨o, hm, hd⟩ := X.cells 1 _ rfl; ⟨o, k2 _ _ (N1 _ hm).1, hd⟩
    have lf := W.lf
    have sf : (ST f).length = n := by rw [ST_len]; exact lf
    have sr : (ST r).length = n := by rw [ST_len]; exact hrl
    unfold compEnd
    refine wpAny_tests_nil ?_
    rw [if_pos rfl]
    repeat walk1
    refine' listCompJ ?cl2 ?ce2 ?ki2 ?na2 ?xl2 ?body2
    case cl2 => with_unfolding_all rfl
    case ce2 => decide
    case ki2 => rfl
    case na2 => decide
    case xl2 => rfl
    dsimp only at F9 N9 hK
    repeat walk1
    rename IsRange _ _ _ _ _ _ _ _ => hR
    rename Fr _ _ _ _ => F10
    rename News _ _ _ _ => N10
    have cR : Heap.IsCell _ (C + 1) (some (.str (ST r) tr)) := ⟨oc, (N10 _ (List.mem_append_right _ (.head _))).1, hoc⟩
    have cF3 : Heap.IsCell _ (L + 1 + 1) (some (.str (ST f) t1)) := let ⟨o, a, b⟩ := cF; ⟨o, F10.keep _ _ a, b⟩
    have X3 := X2.keeps F10.keep
    have T3 := T2.keeps F10.keep
    clear cF cS X2 T2
    refine comp_range (n := n) hh hR (range_small (by omega) (by omega) (by omega) (by omega)) (range_size (by omega)) (fun D3 j m nx => ∃ ks n3, nx = [(D3, PySem.W.listOf (List.toArray ks) n3)] ∧ ks.length = (agree r f j).length) (fun D3 => ⟨[], 0, rfl, rfl⟩) ?turn3 ?done3
    case turn3 =>
      rintro D3 C3 I3 j t3 m3 nx3 h4 tk4 oI3 K4 E4 hj hDI3 hnI3 ⟨ks, n3, rfl, hks⟩ F11 N11 hK3
      have hDI4 := hDI3.symm
      unfold compEnd
      refine wpAny_tests_one ?_
      repeat walk1
      all_goals
        rename _ = _ => hq
        rw [agree_next (List.getElem?_eq_getElem (by omega)) (List.getElem?_eq_getElem (by omega))] at hq
        have hal := agree_len r f j
        have hle := agree_le r f j
        dsimp only at F11 N11 hK3
      · rw [if_pos (of_decide_eq_true hq)] at hal
        refine append_K F11 N11 (.head fun p hp => ?_) (fun h5 F5 N5 => ?_) (by rw [sizeLine_eq, List.size_toArray]; omega)
        · rw [List.mem_singleton.mp hp]; exact hDI4
        · rw [List.push_toArray] at N5
          exact hK3 _ _ _ [(D3, _)] F5 N5 (fun p hp => by rw [List.mem_singleton.mp hp]; exact hDI3) ⟨_, _, rfl, by rw [List.length_append, hal, hks]; rfl⟩
      · rw [if_neg (of_decide_eq_false hq)] at hal
        exact hK3 _ _ _ [(D3, _)] F11 N11 (fun p hp => by rw [List.mem_singleton.mp hp]; exact hDI3) ⟨_, _, rfl, by rw [hal, hks]; rfl⟩
    case done3 =>
      rintro D3 C3 m3 nx3 h4 tk4 ⟨ks, n3, rfl, hks⟩ F11 N11
      refine compDone F11 N11 fun h5 N5 k5 => ?_
      have F12 := Fr.stay F10 k5
      have N12 := News.join F10 N10 N5 k5
      have hle := agree_le r f n
      have h3 := (N5 _ (.head _)).2.2
      have z1 := (N10 (Dc, _) (.head _)).1
      have hD3 : @Ne Nat Dc D3 := fun e => by rw [← e] at h3; exact absurd (h3.symm.trans z1) (fun q => nomatch q)
      clear F11 N11 N5 k5 z1 F10 N10 hR cR cF3 X3 T3
      repeat walk1
      refine len_at N12 (.head _) (by omega) fun t6 k6 => ?_
      have hvl := hvs.length
      rw [List.length_map, List.length_take] at hvl
      have h243 := (rowsP_len u u.length).1
      have hp5 : 3 ^ u.length ≤ 3 ^ 5 := Nat.pow_le_pow_right (by decide) (by omega)
      have h35 : 3 ^ 5 = 243 := by decide
      refine append_K F12 N12 (.tail hD3.symm (.head fun p hp => ?_)) (fun h7 F7 N7 => ?_) (by rw [sizeLine_eq, List.size_toArray]; omega)
      · rcases List.mem_cons.mp hp with rfl | hp
        · exact hDC.symm
        · rw [List.mem_singleton.mp hp]; exact hDI.symm
      · rw [List.push_toArray] at N7
        refine hK _ _ _ [(Dc, _)] F7 (fun p hp => N7 p (.tail _ hp)) (fun p hp => by rw [List.mem_singleton.mp hp]; exact hDI) (fun p hp => by rw [List.mem_singleton.mp hp]; exact hDC) ⟨_, _, rfl, ?_⟩
        rw [List.take_add_one, hri, List.map_append]
        exact hvs.app (.cons ⟨_, by rw [hks]⟩ .nil)
  case done =>
    rintro Dc C m1 nx h9 tk9 ⟨vs', nn', rfl, hvs⟩ F9 N9
    rw [List.size_toArray, hv.length, List.take_length] at hvs
    refine compDone F9 N9 fun h5 N5 k5 => ?_
    have F12 := Fr.stay (Fr.stay F1 k2) k5
    have N12 := News.join (Fr.stay F1 k2) (News.stay N1 k2) N5 k5
    clear F9 N9 k5 N5
    have X9 := X.mono (tl' := [(Dc, PySem.W.listOf vs'.toArray nn')] ++ tl) fun p hp => List.mem_append_right _ hp
    refine st_law 3 X9 F12 N12 (by rfl) rfl ?_
    intro h6 tl' F6 N6 X6 kp
    exact K.go _ _ tl' Dc vs' nn' F6 N6 X6 (kp _ (List.mem_append_right _ hd) (dict_notCell ho)) ⟨TabR.mono (fun _ _ ⟨T, t1, t2, e, hm⟩ => ⟨T, t1, t2, e, kp _ (List.mem_append_right _ hm) (tup_notCell _)⟩) ht.tab⟩ (kp _ (List.mem_append_left _ (.head _)) (listOf_notCell _ _)) hvs
end Mine
end
end
section
open PySem PySem.W PyProof.Rows PySem.Calls PySem.Spec
set_option Elab.async false
set_option maxRecDepth 100000
noncomputable section
namespace Mine
theorem rules_W24 : True := by
  k_with_none
  w_top off
  k_with "storeName" => (k_here; with_reducible show wpAny _ _ (storeName _ _ (Value.int _ (Shared.toks _))) _ _ _; k_dflt (refine storeX_Li (by k_asm) (by k_asm) (fun t_kw h_kw F_kw N_kw => ?_) rfl rfl; try k_sweep))
  k_with "storeName" => (k_here; with_reducible show wpAny _ _ (storeName _ _ (Value.str _ (Shared.toks _))) _ _ _; k_dflt (refine storeX_Ls (by k_asm) (by k_asm) (fun t_kw h_kw F_kw N_kw => ?_) rfl rfl; try k_sweep))
  k_with "eval Name" => (k_here; (with_reducible show wpAny _ _ (eval (Expr.Name _ _) (compEnvC _ _ _ _)) _ _ _); k_dflt (first | (refine' ldC_own ?kw_F ?kw_h ?_ ?kw_a ?kw_b; (case kw_a => rfl); (case kw_b => rfl); (case kw_F => k_asm); (case kw_h => rfl); k_whole) | (refine' ldC_cell ?kw_F ?kw_h ?kw_g ?_ ?kw_a ?kw_b; (case kw_a => rfl); (case kw_b => rfl); (case kw_F => k_asm); (case kw_h => rfl); (case kw_g => k_asm); k_whole) | (refine' ldC_free ?kw_F ?kw_h ?kw_g ?_ ?kw_a ?kw_b; (case kw_a => rfl); (case kw_b => rfl); (case kw_F => k_asm); (case kw_h => rfl); (case kw_g => k_asm); k_whole) | (refine' LCgL.ld_global ?kw_F ?kw_X ?kw_T ?kw_e ?_ ?kw_z ?kw_a ?kw_b; (case kw_z => rfl); (case kw_a => rfl); (case kw_b => rfl); (case kw_F => k_asm); (case kw_X => k_asm); (case kw_T => k_asm); (case kw_e => k_is); k_whole) | (refine' LCgL.ld_built ?kw_F ?kw_X ?kw_T ?kw_e ?kw_v ?kw_n ?_ ?kw_z ?kw_y ?kw_a ?kw_b; (case kw_z => rfl); (case kw_y => rfl); (case kw_a => rfl); (case kw_b => rfl); (case kw_F => k_asm); (case kw_X => k_asm); (case kw_T => k_asm); (case kw_e => k_is); (case kw_v => boot_fast); (case kw_n => decide); k_whole)))
  k_with "eval Name" => (k_here; (with_reducible show wpAny _ _ (eval (Expr.Name _ _) (envOfC _ lawSc _ _ _)) _ _ _); k_dflt (refine' ld_lawI ?kw_X ?kw_N ?kw_s ?kw_v ?_ ?kw_c ?kw_k ?kw_x ?kw_b; (case kw_c => rfl); (case kw_k => rfl); (case kw_x => rfl); (case kw_b => decide); (case kw_X => with_reducible assumption); (case kw_N => k_asm); (case kw_s => (intro p_kw hp'; repeat (first | exact hp' | apply List.Mem.tail))); (case kw_v => rfl); k_whole))
  trivial
theorem fillK_W24 : (fun (_ : OpenLaw) (_ : Params → Frag) => True) PySem.Challenge.rw_xe0047_01 KF := by
  k_fill
  trivial
/-- what the hits are like -/
structure Hits (n : Nat) (hs : List Nat) : Prop where
  ne : 0 < hs.length
  few : hs.length ≤ 243
  le : ∀ h ∈ hs, h ≤ n
noncomputable abbrev toI (hs : List Nat) : List Int := hs.map fun h => ((h : Nat) : Int)
theorem count_toI (hs : List Nat) (k : Nat) : (toI hs).count ((k : Nat) : Int) = hs.count k := by
  induction hs with
  | nil => rfl
  | cons x r ih => 
    show List.count _ (((x : Nat) : Int) :: toI r) = _
    rw [List.count_cons, List.count_cons, ih]
    by_cases h : x = k
    · subst h; simp
    · rw [if_neg (by simp; omega), if_neg (by simp; omega)]
/-- how often each, up to the greatest -/
noncomputable def dueL (hs : List Nat) (M : Nat) : List Int := (List.range (M + 1)).map fun k => ((hs.count k : Nat) : Int)
set_option maxHeartbeats 4000000 in
theorem law_due {w : World} {A : Around} {s : Shared} {B : Heap} {L : Addr} {Q : Flow → Shared → Prop} {tl : List (Addr × Obj)} {m : Str → Option Value} {t0 : Tok} {n : Nat} {c1 c2 : Value} {hs : List Nat} {hi : Addr} {vs : List Value} {nn : Nat} (H : Hits n hs) (hn : n ≤ 5)
    (G : Env0 w A B 29) (F : Fr B L s.heap m) (N : News B L s.heap tl)
    (X : Mine.LT B L tl [some (.int n t0), some c1, some c2, some (.ref hi), none, none, none, none, none]) (hm : (hi, PySem.W.listOf (List.toArray vs) nn) ∈ tl) (hv : All2 IV vs (toI hs))
    (K : Later (∀ h' tk' tl' (du : Addr) vs' nn' M, Fr B L h' m → News B L h' tl' →
      Mine.LT B L tl' [some (.int n t0), some c1, some c2, some (.ref hi), some (.ref du), none, none, none, none] → (∀ p ∈ tl, NotCell p.2 → p ∈ tl') →
      (du, PySem.W.listOf (List.toArray vs') nn') ∈ tl' → M ∈ hs → (∀ a ∈ hs, a ≤ M) → All2 IV vs' (dueL hs M) →
      wpAny (model pw w) A (execs (lawB 13) (lawE L)) Q (fun _ _ => False) { s with heap := h', toks := tk' })) :
    wpAny (model pw w) A (execs (lawB 12) (lawE L)) Q (fun _ _ => False) s := by
  obtain ⟨p, lo, me, mg, mb, T⟩ := G.T
  have XB := G.X
  have hh := G.hh
  show wpAny _ _ (execs (_ :: _) _) _ _ _
  iterate 2 walk1
  refine' listCompJ ?cl ?ce ?ki ?na ?xl ?body
  case cl => with_unfolding_all rfl
  case ce => decide
  case ki => rfl
  case na => decide
  case xl => rfl
  repeat walk1
  rename Fr _ _ _ _ => F1
  rename News _ _ _ _ => N1
  refine max_list_N hh F1 N1 (News.isList N1 hm) (ints_all2 hv) (by rw [List.length_map]; exact H.ne) ?_
  intro h2 M t6 tk2 F2 N2 hM hle
  clear F1 N1
  obtain ⟨M, hMm, rfl⟩ := List.mem_map.mp hM
  have hM5 := H.le M hMm
  repeat walk1
  rename IsRange _ _ _ _ _ _ _ _ => hR
  rename Fr _ _ _ _ => F3
  rename News _ _ _ _ => N3
  have cH : Heap.IsCell _ (L + 1 + 1 + 1 + 1) (some (.ref hi)) := let ⟨o, hm, hd⟩ := X.cells 3 _ rfl; ⟨o, (N3 _ hm).1, hd⟩
  have lH := News.isList N3 hm
  refine comp_rangeI (n := M + 1) hh hR (range_small (by omega) (by omega) (by omega) (by omega)) (range_size (by omega)) (fun k => ((hs.count k : Nat) : Int)) (by rw [sizeLine_eq]; omega) ?turn ?done
  case turn =>
    intro C i t m1 nx h tk E' hi' F4 N4
    have lH4 : Heap.IsList h hi vs.toArray := lH.at fun o e => F4.keep _ _ e
    repeat walk1
    have nd : Heap.NoDictAt h (.ref hi) := ⟨PySem.W.listOf (List.toArray vs) nn, F4.keep _ _ (N3 _ hm).1, rfl⟩
    refine getMethod_list_of PySem.F.slot_list_count PySem.F.type_list_count lH4 nd ?_
    repeat walk1
    refine count_list_ints lH4 (ints_all2 hv) ?_
    rw [Int.zero_add, count_toI]
    exact ⟨⟨_, rfl⟩, _, _, _, rfl, F4, N4⟩
  case done =>
    intro D C m1 vs' nn' h tk hv' F4 N4
    refine compDone F4 N4 fun h5 N5 k5 => ?_
    have F12 := Fr.stay F3 k5
    have N12 := News.join F3 N3 N5 k5
    clear F4 N4 k5 N5
    have X9 := X.mono (tl' := [(D, PySem.W.listOf vs'.toArray nn')] ++ tl) fun p hp => List.mem_append_right _ hp
    refine st_law 4 X9 F12 N12 (by rfl) rfl ?_
    intro h6 tl' F6 N6 X6 kp
    exact K.go _ _ tl' D vs' nn' M F6 N6 X6 (fun p hp => kp p (List.mem_append_right _ hp)) (kp _ (List.mem_append_left _ (.head _)) (listOf_notCell _ _)) hMm (fun a ha => Int.ofNat_le.mp (hle _ (List.mem_map_of_mem ha))) hv'
end Mine
end
end
section
open PySem PySem.W PyProof.Rows PySem.Calls PySem.Spec
set_option Elab.async false
set_option maxRecDepth 100000
noncomputable section
namespace Mine
theorem rules_W25 : True := by
  k_with_none
  w_top off
  k_with "storeName" => (k_here; with_reducible show wpAny _ _ (storeName _ _ (Value.int _ (Shared.toks _))) _ _ _; k_dflt (refine storeX_Li (by k_asm) (by k_asm) (fun t_kw h_kw F_kw N_kw => ?_) rfl rfl; try k_sweep))
  k_with "storeName" => (k_here; with_reducible show wpAny _ _ (storeName _ _ (Value.str _ (Shared.toks _))) _ _ _; k_dflt (refine storeX_Ls (by k_asm) (by k_asm) (fun t_kw h_kw F_kw N_kw => ?_) rfl rfl; try k_sweep))
  k_with "eval Name" => (k_here; (with_reducible show wpAny _ _ (eval (Expr.Name _ _) (compEnvC _ _ _ _)) _ _ _); k_dflt (first | (refine' ldC_own ?kw_F ?kw_h ?_ ?kw_a ?kw_b; (case kw_a => rfl); (case kw_b => rfl); (case kw_F => k_asm); (case kw_h => rfl); k_whole) | (refine' ldC_cell ?kw_F ?kw_h ?kw_g ?_ ?kw_a ?kw_b; (case kw_a => rfl); (case kw_b => rfl); (case kw_F => k_asm); (case kw_h => rfl); (case kw_g => k_asm); k_whole) | (refine' ldC_free ?kw_F ?kw_h ?kw_g ?_ ?kw_a ?kw_b; (case kw_a => rfl); (case kw_b => rfl); (case kw_F => k_asm); (case kw_h => rfl); (case kw_g => k_asm); k_whole) | (refine' LCgL.ld_global ?kw_F ?kw_X ?kw_T ?kw_e ?_ ?kw_z ?kw_a ?kw_b; (case kw_z => rfl); (case kw_a => rfl); (case kw_b => rfl); (case kw_F => k_asm); (case kw_X => k_asm); (case kw_T => k_asm); (case kw_e => k_is); k_whole) | (refine' LCgL.ld_built ?kw_F ?kw_X ?kw_T ?kw_e ?kw_v ?kw_n ?_ ?kw_z ?kw_y ?kw_a ?kw_b; (case kw_z => rfl); (case kw_y => rfl); (case kw_a => rfl); (case kw_b => rfl); (case kw_F => k_asm); (case kw_X => k_asm); (case kw_T => k_asm); (case kw_e => k_is); (case kw_v => boot_fast); (case kw_n => decide); k_whole)))
  k_with "eval Name" => (k_here; (with_reducible show wpAny _ _ (eval (Expr.Name _ _) (envOfC _ lawSc _ _ _)) _ _ _); k_dflt (refine' ld_lawI ?kw_X ?kw_N ?kw_s ?kw_v ?_ ?kw_c ?kw_k ?kw_x ?kw_b; (case kw_c => rfl); (case kw_k => rfl); (case kw_x => rfl); (case kw_b => decide); (case kw_X => with_reducible assumption); (case kw_N => k_asm); (case kw_s => (intro p_kw hp'; repeat (first | exact hp' | apply List.Mem.tail))); (case kw_v => rfl); k_whole))
  trivial
theorem fillK_W25 : (fun (_ : OpenLaw) (_ : Params → Frag) => True) PySem.Challenge.rw_xe0047_01 KF := by
  k_fill
  trivial
/-- neither a cell nor a table -/
structure Held (o : Obj) : Prop where
  nc : NotCell o
  nt : ∀ ps, o ≠ tabObj ps
theorem LT.off {B h : Heap} {L : Addr} {tl : List (Addr × Obj)} {cv : List (Option Value)} (X : Mine.LT B L tl cv) (N : News B L h tl) {p : Addr × Obj} (hp : p ∈ tl) (hn : ∀ ps, p.2 ≠ tabObj ps) : p.1 ∉ [37, 30, 51] := fun q => by
  have z := (N _ hp).1
  obtain ⟨p1, a1, _⟩ := X.t37
  obtain ⟨p2, a2, _⟩ := X.t30
  obtain ⟨p3, a3, _⟩ := X.t51
  simp only [List.mem_cons, List.not_mem_nil, or_false] at q
  rcases q with q | q | q
  · have z2 := (N _ a1).1; dsimp only at z2; rw [q, z2] at z; exact hn _ (Option.some.inj z).symm
  · have z2 := (N _ a2).1; dsimp only at z2; rw [q, z2] at z; exact hn _ (Option.some.inj z).symm
  · have z2 := (N _ a3).1; dsimp only at z2; rw [q, z2] at z; exact hn _ (Option.some.inj z).symm
theorem listOf_held (vs : Array Value) (n : Nat) : Held (PySem.W.listOf vs n) := ⟨listOf_notCell vs n, fun _ e => nomatch e⟩
theorem tup_held (vs : Array Value) : Held (tupOf vs) := ⟨tup_notCell vs, fun _ e => nomatch e⟩
theorem dict_held {pr : Program} {w : World} {K : Type} [DecidableEq K] {knd : KeyKind pr w K} {o : Obj} {kvs : List (K × Value)} (h : o.IsDictOf knd kvs) : Held o := ⟨dict_notCell h, fun _ e => by
  subst e
  obtain ⟨_, _, _, hd, _⟩ := h
  cases hd⟩
/-- the ways for the rows, as figures of the width -/
structure Prod (n wd : Nat) (xs : Tbl) (ys : List Int) : Prop where
  w10 : 10 ≤ wd
  w25 : wd ≤ 2509
  small : Small xs
  few : xs.length ≤ 10
  prod : prodL wd xs = valL wd ys
  len : ys.length ≤ n + 1
  fig : ∀ y ∈ ys, 0 ≤ y ∧ y < 1024
  top : ∃ l y, ys = l ++ [y] ∧ 0 < y
set_option maxHeartbeats 4000000 in
theorem law_ways {w : World} {A : Around} {s : Shared} {B : Heap} {L : Addr} {Q : Flow → Shared → Prop} {tl : List (Addr × Obj)} {m0 : Str → Option Value} {tw t0 : Tok} {n wd : Nat} {c1 c2 c3 c4 : Value} {xs : Tbl} {ys : List Int} {d : Addr} {o : Obj} {kvs : List (Str × Value)} (P : Prod n wd xs ys) (hn : n ≤ 5)
    (hPL : @LT.lt Nat _ 51 L) (hB37 : B.get? 37 = none) (hB30 : B.get? 30 = none) (hB51 : B.get? 51 = none) (hg : AllBare s.gens)
    (G : Env0 w A B 29) (F : Fr B L s.heap (fun y => if y = Str.ofString "table" then some (.ref d) else if y = Str.ofString "width" then some (.int wd tw) else m0 y)) (N : News B L s.heap tl)
    (X : Mine.LT B L tl [some (.int n t0), some c1, some c2, some c3, some c4, none, none, none, none]) (hd : (d, o) ∈ tl) (lo : (d == sysModules) = false) (ho : o.IsDictOf (strKind pw w) kvs) (ht : TabT tl kvs xs)
    (K : Later (∀ h' tk' g' tl' (wy : Addr) vs' nn', AllBare g' → Fr B L h' (fun y => if y = Str.ofString "table" then some (.ref d) else if y = Str.ofString "width" then some (.int wd tw) else m0 y) → News B L h' tl' →
      Mine.LT B L tl' [some (.int n t0), some c1, some c2, some c3, some c4, some (.ref wy), none, none, none] → (∀ p ∈ tl, Held p.2 → p ∈ tl') →
      (wy, PySem.W.listOf (List.toArray vs') nn') ∈ tl' → All2 IV vs' ys →
      wpAny (model pw w) A (execs (lawB 14) (lawE L)) Q (fun _ _ => False) { s with heap := h', toks := tk', gens := g' })) :
    wpAny (model pw w) A (execs (lawB 13) (lawE L)) Q (fun _ _ => False) s := by
  obtain ⟨p, l9, me, mg, mb, T⟩ := G.T
  have XB := G.X
  have hh := G.hh
  have hB' : ∀ P ∈ [37, 30], B.get? P = none := fun P hP => by
    rcases List.mem_cons.mp hP with rfl | hP
    · exact hB37
    · rw [List.mem_singleton.mp hP]; exact hB30
  show wpAny _ _ (execs (_ :: _) _) _ _ _
  repeat walk1
  rename Fr _ _ _ _ => F1
  rename News _ _ _ _ => N1
  have k37 := X.t37.tab N1 F1.keep
  have k30 := X.t30.tab N1 F1.keep
  obtain ⟨ps, h51, hps⟩ := X.t51
  have hlt : (1024 : Int) ≤ 2 ^ wd := by
    have h1 : 2 ^ 10 ≤ 2 ^ wd := Nat.pow_le_pow_right (by decide) P.w10
    have h2 : (((2 ^ wd : Nat)) : Int) = (2 : Int) ^ wd := by rw [Int.natCast_pow]; rfl
    rw [← h2]
    exact Int.ofNat_le.mpr h1
  refine pairings_spec (dd := 19) wd ⟨P.w10, P.w25⟩ d kvs xs ys _ (Heap.dictOf_iff.mpr ⟨_, (N1 _ hd).1, ho⟩) (ht.dt N1 fun p hp => hp) P.small lo P.few P.prod (by have := P.len; omega) (fun y hy => ⟨(P.fig y hy).1, Int.lt_of_lt_of_le (P.fig y hy).2 hlt⟩) P.top G F1.keep hB37 hB30 k37 k30 hg ?_
  intro h2 tk2 g2 D vs nn hg2 k2 j37 j30 nD gD hv
  have F2 := Fr.but F1 hB' (fun q => by
    rcases List.mem_cons.mp q with q | q
    · have := hPL; rw [q] at this; exact absurd this (by decide)
    · rw [List.mem_singleton.mp q] at hPL; exact absurd hPL (by decide)) k2
  have t51 : TabG h2 51 66 42 := ⟨ps, k2 _ _ (by decide) (N1 _ h51).1, hps⟩
  obtain ⟨tl2, N2, X2, kp⟩ := LT.refresh F2 hPL hB37 hB30 hB51 N1 X (StayBut.sub k2 fun b hb => by
    rcases List.mem_cons.mp hb with rfl | hb
    · decide
    · rw [List.mem_singleton.mp hb]; decide) j37 j30 t51
  have Nd : News B L h2 [(D, PySem.W.listOf (List.toArray vs) nn)] := fun p hp => by rw [List.mem_singleton.mp hp]; exact ⟨gD, Fr.neL F1 nD, Fr.noB F1 nD⟩
  have N3 := Nd.append N2
  have X3 := X2.mono (tl' := [(D, PySem.W.listOf (List.toArray vs) nn)] ++ tl2) fun p hp => List.mem_append_right _ hp
  refine st_law 5 X3 F2 N3 (by rfl) rfl ?_
  intro h6 tl' F6 N6 X6 kq
  exact K.go _ _ g2 tl' D vs nn hg2 F6 N6 X6 (fun p hp hh => kq p (List.mem_append_right _ (kp p hp (X.off N1 hp hh.nt))) hh.nc) (kq _ (List.mem_append_left _ (.head _)) (listOf_notCell _ _)) hv
end Mine
end
end
section
open PySem PySem.W PyProof.Rows PySem.Calls PySem.Spec
set_option Elab.async false
set_option maxRecDepth 100000
noncomputable section
namespace Mine
theorem rules_W26 : True := by
  k_with_none
  w_top off
  k_with "storeName" => (k_here; with_reducible show wpAny _ _ (storeName _ _ (Value.int _ (Shared.toks _))) _ _ _; k_dflt (refine storeX_Li (by k_asm) (by k_asm) (fun t_kw h_kw F_kw N_kw => ?_) rfl rfl; try k_sweep))
  k_with "storeName" => (k_here; with_reducible show wpAny _ _ (storeName _ _ (Value.str _ (Shared.toks _))) _ _ _; k_dflt (refine storeX_Ls (by k_asm) (by k_asm) (fun t_kw h_kw F_kw N_kw => ?_) rfl rfl; try k_sweep))
  k_with "eval Name" => (k_here; (with_reducible show wpAny _ _ (eval (Expr.Name _ _) (compEnvC _ _ _ _)) _ _ _); k_dflt (first | (refine' ldC_own ?kw_F ?kw_h ?_ ?kw_a ?kw_b; (case kw_a => rfl); (case kw_b => rfl); (case kw_F => k_asm); (case kw_h => rfl); k_whole) | (refine' ldC_cell ?kw_F ?kw_h ?kw_g ?_ ?kw_a ?kw_b; (case kw_a => rfl); (case kw_b => rfl); (case kw_F => k_asm); (case kw_h => rfl); (case kw_g => k_asm); k_whole) | (refine' ldC_free ?kw_F ?kw_h ?kw_g ?_ ?kw_a ?kw_b; (case kw_a => rfl); (case kw_b => rfl); (case kw_F => k_asm); (case kw_h => rfl); (case kw_g => k_asm); k_whole) | (refine' LCgL.ld_global ?kw_F ?kw_X ?kw_T ?kw_e ?_ ?kw_z ?kw_a ?kw_b; (case kw_z => rfl); (case kw_a => rfl); (case kw_b => rfl); (case kw_F => k_asm); (case kw_X => k_asm); (case kw_T => k_asm); (case kw_e => k_is); k_whole) | (refine' LCgL.ld_built ?kw_F ?kw_X ?kw_T ?kw_e ?kw_v ?kw_n ?_ ?kw_z ?kw_y ?kw_a ?kw_b; (case kw_z => rfl); (case kw_y => rfl); (case kw_a => rfl); (case kw_b => rfl); (case kw_F => k_asm); (case kw_X => k_asm); (case kw_T => k_asm); (case kw_e => k_is); (case kw_v => boot_fast); (case kw_n => decide); k_whole)))
  k_with "eval Name" => (k_here; (with_reducible show wpAny _ _ (eval (Expr.Name _ _) (envOfC _ lawSc _ _ _)) _ _ _); k_dflt (refine' ld_lawI ?kw_X ?kw_N ?kw_s ?kw_v ?_ ?kw_c ?kw_k ?kw_x ?kw_b; (case kw_c => rfl); (case kw_k => rfl); (case kw_x => rfl); (case kw_b => decide); (case kw_X => with_reducible assumption); (case kw_N => k_asm); (case kw_s => (intro p_kw hp'; repeat (first | exact hp' | apply List.Mem.tail))); (case kw_v => rfl); k_whole))
  trivial
theorem fillK_W26 : (fun (_ : OpenLaw) (_ : Params → Frag) => True) PySem.Challenge.rw_xe0047_01 KF := by
  k_fill
  trivial
/-- the moments: each way, times the ways to lay the rest -/
noncomputable def momL (n : Nat) (ys : List Int) : List Int := (List.range ys.length).map fun k => ys.getD k 0 * facN (n - k)
section
variable {prog : Program} {w : World} {A : Around} {E : Value → Shared → Prop} {s : Shared} {l : Addr} {vs : List Value} {Q : Value → Shared → Prop}
theorem item_intsL {value slice : Expr} {k x : Int} {u : Tok} {xs : List Int} {j : Nat} (hL : s.heap.IsList l vs.toArray) (hV : All2 IV vs xs) (hk : k = (j : Int)) (hz : j ≤ 1000000) (hx : xs[j]? = some x)
    (h : ∀ t, Q (.int x t) s)
    (hs : subscripted slice false (.ref l) (.int k u) = operate [.ref l, .int k u] (getItem (.ref l) (.int k u)) := by with_unfolding_all rfl) :
    wpAny (model prog w) A (subscriptTail value slice (.ref l) (.int k u)) Q E s := by
  obtain ⟨v, hv, t, rfl⟩ := hV.get hx
  exact tail_any hL.typeIs slot_list_getitem.lookup (wpAny_getItem_list hL (by omega) (by omega) (by subst hk; simpa using hv) (h t)) hs
end
set_option maxHeartbeats 4000000 in
theorem law_moments {w : World} {A : Around} {s : Shared} {B : Heap} {L : Addr} {Q : Flow → Shared → Prop} {tl : List (Addr × Obj)} {m : Str → Option Value} {t0 : Tok} {n : Nat} {c1 c2 c3 c4 : Value} {ys : List Int} {wy : Addr} {vs : List Value} {nn : Nat} (hn : n ≤ 5) (hy : ys.length ≤ n + 1)
    (G : Env0 w A B 29) (F : Fr B L s.heap m) (N : News B L s.heap tl)
    (X : Mine.LT B L tl [some (.int n t0), some c1, some c2, some c3, some c4, some (.ref wy), none, none, none]) (hm : (wy, PySem.W.listOf (List.toArray vs) nn) ∈ tl) (hv : All2 IV vs ys)
    (K : Later (∀ h' tk' tl' (mo : Addr) vs' nn', Fr B L h' m → News B L h' tl' →
      Mine.LT B L tl' [some (.int n t0), some c1, some c2, some c3, some c4, some (.ref wy), some (.ref mo), none, none] → (∀ p ∈ tl, NotCell p.2 → p ∈ tl') →
      (mo, PySem.W.listOf (List.toArray vs') nn') ∈ tl' → All2 IV vs' (momL n ys) →
      wpAny (model pw w) A (execs (lawB 15) (lawE L)) Q (fun _ _ => False) { s with heap := h', toks := tk' })) :
    wpAny (model pw w) A (execs (lawB 14) (lawE L)) Q (fun _ _ => False) s := by
  obtain ⟨p, lo, me, mg, mb, T⟩ := G.T
  have XB := G.X
  have hh := G.hh
  have hvl := hv.length
  show wpAny _ _ (execs (_ :: _) _) _ _ _
  iterate 2 walk1
  refine' listCompJ ?cl ?ce ?ki ?na ?xl ?body
  case cl => with_unfolding_all rfl
  case ce => decide
  case ki => rfl
  case na => decide
  case xl => rfl
  repeat walk1
  rename Fr _ _ _ _ => F1
  rename News _ _ _ _ => N1
  refine len_at N1 hm (by omega) fun t6 k6 => ?_
  rw [hvl]
  repeat walk1
  rename IsRange _ _ _ _ _ _ _ _ => hR
  rename Fr _ _ _ _ => F3
  rename News _ _ _ _ => N3
  have cW : Heap.IsCell _ (cellA L 5) (some (.ref wy)) := let ⟨o, hm, hd⟩ := X.cells 5 _ rfl; ⟨o, (N3 _ hm).1, hd⟩
  have cS : Heap.IsCell _ (L + 1) (some (.int n t0)) := let ⟨o, hm, hd⟩ := X.cells 0 _ rfl; ⟨o, (N3 _ hm).1, hd⟩
  have lW := News.isList N3 hm
  have X3 := XB.keeps F3.keep
  have T3 := T.keeps F3.keep
  have G3 := G.stay F3.keep
  refine comp_rangeI (n := ys.length) hh hR (range_small (by omega) (by omega) (by omega) (by omega)) (range_size (by omega)) (fun k => ys.getD k 0 * facN (n - k)) (by rw [sizeLine_eq]; omega) ?turn ?done
  case turn =>
    intro C i t m1 nx h tk E' hi' F4 N4
    have lH4 : Heap.IsList h wy vs.toArray := lW.at fun o e => F4.keep _ _ e
    repeat walk1
    refine item_intsL lH4 hv (j := i) (by omega) (by omega) (List.getElem?_eq_getElem hi') fun t7 => ?_
    repeat walk1
    rename Fr _ _ _ _ => F5
    rename News _ _ _ _ => N5
    rw [show (n : Int) - (0 + (i : Nat)) = ((n - i : Nat) : Int) by omega]
    refine orders_spec (d := 28) (n - i) _ (by omega) G3 F5 ?_
    intro h6 tk6 t8 k6
    have F6 := Fr.stay F5 k6
    have N6 := News.stay N5 k6
    repeat walk1
    have hb := facN_le (n := n - i) (by omega)
    rw [show (rangeKs 2 (n - i - 1)).foldl (· * ·) 1 = facN (n - i) from rfl]
    rw [show ys[i] = ys.getD i 0 by rw [List.getD_eq_getElem?_getD, List.getElem?_eq_getElem hi']; rfl]
    have mo : IntMulOk (ys.getD i 0) (facN (n - i)) := IntMulOk.of_right (PySem.intBits_le_64 (by omega) (by omega))
    refine mul_int ?_ mo
    exact ⟨⟨_, rfl⟩, _, _, _, rfl, F6, N6⟩
  case done =>
    intro D C m1 vs' nn' h tk hv' F4 N4
    refine compDone F4 N4 fun h5 N5 k5 => ?_
    have F12 := Fr.stay F3 k5
    have N12 := News.join F3 N3 N5 k5
    clear F4 N4 k5 N5
    have X9 := X.mono (tl' := [(D, PySem.W.listOf vs'.toArray nn')] ++ tl) fun p hp => List.mem_append_right _ hp
    refine st_law 6 X9 F12 N12 (by rfl) rfl ?_
    intro h6 tl' F6 N6 X6 kp
    exact K.go _ _ tl' D vs' nn' F6 N6 X6 (fun p hp => kp p (List.mem_append_right _ hp)) (kp _ (List.mem_append_left _ (.head _)) (listOf_notCell _ _)) hv'
end Mine
end
end
section
open PySem PySem.W PyProof.Rows PySem.Calls PySem.Spec
set_option Elab.async false
set_option maxRecDepth 100000
noncomputable section
namespace Mine
theorem rules_W27 : True := by
  k_with_none
  w_top off
  k_with "storeName" => (k_here; with_reducible show wpAny _ _ (storeName _ _ (Value.int _ (Shared.toks _))) _ _ _; k_dflt (refine storeX_Li (by k_asm) (by k_asm) (fun t_kw h_kw F_kw N_kw => ?_) rfl rfl; try k_sweep))
  k_with "storeName" => (k_here; with_reducible show wpAny _ _ (storeName _ _ (Value.str _ (Shared.toks _))) _ _ _; k_dflt (refine storeX_Ls (by k_asm) (by k_asm) (fun t_kw h_kw F_kw N_kw => ?_) rfl rfl; try k_sweep))
  k_with "eval Name" => (k_here; (with_reducible show wpAny _ _ (eval (Expr.Name _ _) (compEnvC _ _ _ _)) _ _ _); k_dflt (first | (refine' ldC_own ?kw_F ?kw_h ?_ ?kw_a ?kw_b; (case kw_a => rfl); (case kw_b => rfl); (case kw_F => k_asm); (case kw_h => rfl); k_whole) | (refine' ldC_cell ?kw_F ?kw_h ?kw_g ?_ ?kw_a ?kw_b; (case kw_a => rfl); (case kw_b => rfl); (case kw_F => k_asm); (case kw_h => rfl); (case kw_g => k_asm); k_whole) | (refine' ldC_free ?kw_F ?kw_h ?kw_g ?_ ?kw_a ?kw_b; (case kw_a => rfl); (case kw_b => rfl); (case kw_F => k_asm); (case kw_h => rfl); (case kw_g => k_asm); k_whole) | (refine' LCgL.ld_global ?kw_F ?kw_X ?kw_T ?kw_e ?_ ?kw_z ?kw_a ?kw_b; (case kw_z => rfl); (case kw_a => rfl); (case kw_b => rfl); (case kw_F => k_asm); (case kw_X => k_asm); (case kw_T => k_asm); (case kw_e => k_is); k_whole) | (refine' LCgL.ld_built ?kw_F ?kw_X ?kw_T ?kw_e ?kw_v ?kw_n ?_ ?kw_z ?kw_y ?kw_a ?kw_b; (case kw_z => rfl); (case kw_y => rfl); (case kw_a => rfl); (case kw_b => rfl); (case kw_F => k_asm); (case kw_X => k_asm); (case kw_T => k_asm); (case kw_e => k_is); (case kw_v => boot_fast); (case kw_n => decide); k_whole)))
  k_with "eval Name" => (k_here; (with_reducible show wpAny _ _ (eval (Expr.Name _ _) (envOfC _ lawSc _ _ _)) _ _ _); k_dflt (refine' ld_lawI ?kw_X ?kw_N ?kw_s ?kw_v ?_ ?kw_c ?kw_k ?kw_x ?kw_b; (case kw_c => rfl); (case kw_k => rfl); (case kw_x => rfl); (case kw_b => decide); (case kw_X => with_reducible assumption); (case kw_N => k_asm); (case kw_s => (intro p_kw hp'; repeat (first | exact hp' | apply List.Mem.tail))); (case kw_v => rfl); k_whole))
  trivial
theorem fillK_W27 : (fun (_ : OpenLaw) (_ : Params → Frag) => True) PySem.Challenge.rw_xe0047_01 KF := by
  k_fill
  trivial
set_option maxHeartbeats 4000000 in
theorem law_alike {w : World} {A : Around} {s : Shared} {B : Heap} {L : Addr} {Q : Flow → Shared → Prop} {tl : List (Addr × Obj)} {m0 : Str → Option Value} {tw : Tok} {wd : Nat} {c0 c1 c2 c3 c4 c5 c6 : Value} {xs : Tbl} {d : Addr} {o : Obj} {kvs : List (Str × Value)} (hw : wd ≤ 2509) (hs : Small xs)
    (G : Env0 w A B 29) (F : Fr B L s.heap (fun y => if y = Str.ofString "table" then some (.ref d) else if y = Str.ofString "width" then some (.int wd tw) else m0 y)) (N : News B L s.heap tl)
    (X : Mine.LT B L tl [some c0, some c1, some c2, some c3, some c4, some c5, some c6, none, none]) (hd : (d, o) ∈ tl) (lo : (d == sysModules) = false) (ho : o.IsDictOf (strKind pw w) kvs) (ht : TabT tl kvs xs)
    (K : Later (∀ h' tk' tl' (m0 : Str → Option Value) t1 t2, Fr B L h' (fun y => if y = Str.ofString "width" then some (.int wd tw) else m0 y) → News B L h' tl' →
      Mine.LT B L tl' [some c0, some c1, some c2, some c3, some c4, some c5, some c6, some (.int (alikeL xs) t1), some (.int (2 ^ wd) t2)] → (∀ p ∈ tl, NotCell p.2 → p ∈ tl') →
      wpAny (model pw w) A (execs (lawB 17) (lawE L)) Q (fun _ _ => False) { s with heap := h', toks := tk' })) :
    wpAny (model pw w) A (execs (lawB 15) (lawE L)) Q (fun _ _ => False) s := by
  obtain ⟨p, l9, me, mg, mb, T⟩ := G.T
  have XB := G.X
  have hh := G.hh
  show wpAny _ _ (execs (_ :: _) _) _ _ _
  repeat walk1
  rename Fr _ _ _ _ => F1
  rename News _ _ _ _ => N1
  refine alike_spec (dd := 27) d kvs xs (Heap.dictOf_iff.mpr ⟨_, (N1 _ hd).1, ho⟩) (ht.dt N1 fun p hp => hp) hs lo G F1 ?_
  intro h2 tk2 t5 k2
  have F2 := Fr.stay F1 k2
  have N2 := News.stay N1 k2
  clear F1 N1 k2
  refine st_law 7 X F2 N2 (by rfl) rfl ?_
  intro h3 tl3 F3 N3 X3 kp3
  replace X3 : Mine.LT B L tl3 [some c0, some c1, some c2, some c3, some c4, some c5, some c6, some (.int (alikeL xs) t5), none] := X3
  clear F2 N2
  repeat walk1
  rename Fr _ _ _ _ => F4
  rename News _ _ _ _ => N4
  rw [Int.one_mul, Int.toNat_natCast]
  refine st_law 8 X3 F4 N4 (by rfl) rfl ?_
  intro h5 tl5 F5 N5 X5 kp5
  have F6 : Fr B L h5 (fun y => if y = Str.ofString "width" then some (.int wd tw) else if y = Str.ofString "table" then some (.ref d) else m0 y) := Mine.Fr.as F5 (by
    funext y
    by_cases h1 : y = Str.ofString "table"
    · subst h1; rfl
    · simp only [if_neg h1])
  exact K.go _ _ tl5 _ _ _ F6 N5 X5 (fun p hp hh => kp5 p (kp3 p hp hh) hh)
end Mine
end
end
section
open PySem PySem.W PyProof.Rows PySem.Calls PySem.Spec
set_option Elab.async false
set_option maxRecDepth 100000
noncomputable section
namespace Mine
theorem rules_W28 : True := by
  k_with_none
  w_top off
  k_with "storeName" => (k_here; with_reducible show wpAny _ _ (storeName _ _ (Value.int _ (Shared.toks _))) _ _ _; k_dflt (refine storeX_Li (by k_asm) (by k_asm) (fun t_kw h_kw F_kw N_kw => ?_) rfl rfl; try k_sweep))
  k_with "storeName" => (k_here; with_reducible show wpAny _ _ (storeName _ _ (Value.str _ (Shared.toks _))) _ _ _; k_dflt (refine storeX_Ls (by k_asm) (by k_asm) (fun t_kw h_kw F_kw N_kw => ?_) rfl rfl; try k_sweep))
  k_with "eval Name" => (k_here; (with_reducible show wpAny _ _ (eval (Expr.Name _ _) (compEnvC _ _ _ _)) _ _ _); k_dflt (first | (refine' ldC_own ?kw_F ?kw_h ?_ ?kw_a ?kw_b; (case kw_a => rfl); (case kw_b => rfl); (case kw_F => k_asm); (case kw_h => rfl); k_whole) | (refine' ldC_cell ?kw_F ?kw_h ?kw_g ?_ ?kw_a ?kw_b; (case kw_a => rfl); (case kw_b => rfl); (case kw_F => k_asm); (case kw_h => rfl); (case kw_g => k_asm); k_whole) | (refine' ldC_free ?kw_F ?kw_h ?kw_g ?_ ?kw_a ?kw_b; (case kw_a => rfl); (case kw_b => rfl); (case kw_F => k_asm); (case kw_h => rfl); (case kw_g => k_asm); k_whole) | (refine' LCgL.ld_global ?kw_F ?kw_X ?kw_T ?kw_e ?_ ?kw_z ?kw_a ?kw_b; (case kw_z => rfl); (case kw_a => rfl); (case kw_b => rfl); (case kw_F => k_asm); (case kw_X => k_asm); (case kw_T => k_asm); (case kw_e => k_is); k_whole) | (refine' LCgL.ld_built ?kw_F ?kw_X ?kw_T ?kw_e ?kw_v ?kw_n ?_ ?kw_z ?kw_y ?kw_a ?kw_b; (case kw_z => rfl); (case kw_y => rfl); (case kw_a => rfl); (case kw_b => rfl); (case kw_F => k_asm); (case kw_X => k_asm); (case kw_T => k_asm); (case kw_e => k_is); (case kw_v => boot_fast); (case kw_n => decide); k_whole)))
  k_with "eval Name" => (k_here; (with_reducible show wpAny _ _ (eval (Expr.Name _ _) (envOfC _ lawSc _ _ _)) _ _ _); k_dflt (refine' ld_lawI ?kw_X ?kw_N ?kw_s ?kw_v ?_ ?kw_c ?kw_k ?kw_x ?kw_b; (case kw_c => rfl); (case kw_k => rfl); (case kw_x => rfl); (case kw_b => decide); (case kw_X => with_reducible assumption); (case kw_N => k_asm); (case kw_s => (intro p_kw hp'; repeat (first | exact hp' | apply List.Mem.tail))); (case kw_v => rfl); k_whole))
  trivial
theorem fillK_W28 : (fun (_ : OpenLaw) (_ : Params → Frag) => True) PySem.Challenge.rw_xe0047_01 KF := by
  k_fill
  trivial
/-- the number: each moment, times a power of two to the width, less 1 -/
noncomputable def numL (q : Int) (ms : List Int) : Int := ((List.range ms.length).map fun k => ms.getD k 0 * (q - 1) ^ k).sum
structure Moms (n : Nat) (ms : List Int) (al : Int) : Prop where
  len : ms.length ≤ 6
  fig : ∀ m ∈ ms, 0 ≤ m ∧ m < 2 ^ 20
  al0 : 1 ≤ al
  al1 : al < 2 ^ 20
theorem two_pow (n : Nat) : (2 : Int) ^ n = ((2 ^ n : Nat) : Int) := by rw [Int.natCast_pow]; rfl
set_option maxHeartbeats 4000000 in
theorem law_number {w : World} {A : Around} {s : Shared} {B : Heap} {L : Addr} {Q : Flow → Shared → Prop} {tl : List (Addr × Obj)} {m0 : Str → Option Value} {tw t0 t7 t8 : Tok} {wd n : Nat} {al : Int} {c1 c2 c3 c4 c5 : Value} {ms : List Int} {mo : Addr} {vs : List Value} {nn : Nat} (hw : wd ≤ 2509) (hn : n ≤ 5) (M : Moms n ms al)
    (G : Env0 w A B 29) (F : Fr B L s.heap (fun y => if y = Str.ofString "width" then some (.int wd tw) else m0 y)) (N : News B L s.heap tl)
    (X : Mine.LT B L tl [some (.int n t0), some c1, some c2, some c3, some c4, some c5, some (.ref mo), some (.int al t7), some (.int (2 ^ wd) t8)]) (hm : (mo, PySem.W.listOf (List.toArray vs) nn) ∈ tl) (hv : All2 IV vs ms)
    (K : Later (∀ h' tk' (m0 : Str → Option Value) t1 t2 t3, Fr B L h' (fun y => if y = Str.ofString "divisor" then some (.int (al * (2 ^ (wd * (n + 1)) - 1)) t1) else if y = Str.ofString "top" then some (.int (wd * (n + 1) : Nat) t2) else if y = Str.ofString "number" then some (.int (numL (2 ^ wd) ms) t3) else if y = Str.ofString "width" then some (.int wd tw) else m0 y) → News B L h' tl →
      wpAny (model pw w) A (execs (lawB 20) (lawE L)) Q (fun _ _ => False) { s with heap := h', toks := tk' })) :
    wpAny (model pw w) A (execs (lawB 17) (lawE L)) Q (fun _ _ => False) s := by
  obtain ⟨p, l9, me, mg, mb, T⟩ := G.T
  have XB := G.X
  have hh := G.hh
  have hvl := hv.length
  have hml := M.len
  show wpAny _ _ (execs (_ :: _) _) _ _ _
  iterate 6 walk1
  refine' listCompJ ?cl ?ce ?ki ?na ?xl ?body
  case cl => with_unfolding_all rfl
  case ce => decide
  case ki => rfl
  case na => decide
  case xl => rfl
  repeat walk1
  rename Fr _ _ _ _ => F1
  rename News _ _ _ _ => N1
  refine len_at N1 hm (by omega) fun t6 k6 => ?_
  rw [hvl]
  repeat walk1
  rename IsRange _ _ _ _ _ _ _ _ => hR
  rename Fr _ _ _ _ => F3
  rename News _ _ _ _ => N3
  have cM : Heap.IsCell _ (cellA L 6) (some (.ref mo)) := let ⟨o, hm, hd⟩ := X.cells 6 _ rfl; ⟨o, (N3 _ hm).1, hd⟩
  have cP : Heap.IsCell _ (cellA L 8) (some (.int (2 ^ wd) t8)) := let ⟨o, hm, hd⟩ := X.cells 8 _ rfl; ⟨o, (N3 _ hm).1, hd⟩
  have lM := News.isList N3 hm
  have hq1 : (0 : Int) ≤ 2 ^ wd - 1 := by have : (0 : Int) < 2 ^ wd := Int.pow_pos (by decide); omega
  have hqb : Builtin.Int.intBits ((2 : Int) ^ wd - 1) ≤ wd := intBits_le_of hq1 (by omega)
  refine comp_rangeI (n := ms.length) hh hR (range_small (by omega) (by omega) (by omega) (by omega)) (range_size (by omega)) (fun k => ms.getD k 0 * (2 ^ wd - 1) ^ k) (by rw [sizeLine_eq]; omega) ?turn ?done
  case turn =>
    intro C i t m1 nx h tk E' hi' F4 N4
    have lH4 : Heap.IsList h mo vs.toArray := lM.at fun o e => F4.keep _ _ e
    have hmi := M.fig _ (List.getElem_mem hi')
    have hmb : Builtin.Int.intBits ms[i] ≤ 20 := intBits_le_of hmi.1 hmi.2
    repeat walk1
    refine item_intsL lH4 hv (j := i) (by omega) (by omega) (List.getElem?_eq_getElem hi') fun t9 => ?_
    iterate 6 walk1
    have hz : (Builtin.Int.intBits ((2 : Int) ^ wd - 1) : Int) * (0 + (i : Nat)) ≤ 2509 * 6 := Int.mul_le_mul (by omega) (by omega) (by omega) (by decide)
    refine pow_int (by omega) (Int.le_trans hz (by decide)) ?_
    rw [show (0 + (i : Int)).toNat = i by omega, show ms[i] = ms.getD i 0 by rw [List.getD_eq_getElem?_getD, List.getElem?_eq_getElem hi']; rfl]
    rw [show ms[i] = ms.getD i 0 by rw [List.getD_eq_getElem?_getD, List.getElem?_eq_getElem hi']; rfl] at hmb
    refine mul_int ?_ (IntMulOk.of_left (by omega))
    exact ⟨⟨_, rfl⟩, _, _, _, rfl, F4, N4⟩
  case done =>
    intro D C m1 vs' nn' h tk hv' F4 N4
    refine compDone F4 N4 fun h5 N5 k5 => ?_
    have F12 := Fr.stay F3 k5
    have N12 := News.join F3 N3 N5 k5
    clear F4 N4 k5 N5
    repeat walk1
    refine sumK hh F12 N12 (News.isList N12 (.head _)) (ints_all2 hv') ?_
    intro h6 tk6 t6 F6 N6
    replace N6 := News.sub N6 fun p hp => List.mem_append_right _ hp
    clear F12 N12
    iterate 11 walk1
    rw [show (wd : Int) * ((n : Int) + 1) = ((wd * (n + 1) : Nat) : Int) by rw [Int.natCast_mul]; rfl]
    have htp : wd * (n + 1) ≤ 2509 * 6 := Nat.mul_le_mul hw (by omega)
    have hal := intBits_le_of (Int.le_trans (by decide) M.al0) M.al1
    have hnum : ((List.range ms.length).map fun k => ms.getD k 0 * (2 ^ wd - 1) ^ k).sum = numL (2 ^ wd) ms := rfl
    generalize wd * (n + 1) = tp at *
    repeat walk1
    rw [Int.one_mul, Int.toNat_natCast]
    refine mul_int ?_ (IntMulOk.of_left (by omega))
    iterate 1 walk1
    rename Fr _ _ _ _ => F9
    rename News _ _ _ _ => N9
    exact K.go _ _ _ _ _ _ F9 N9
end Mine
end
end
end
section
open PySem PySem.W PyProof.Rows PySem.Calls PySem.Spec
set_option Elab.async false
set_option maxRecDepth 100000
noncomputable section
namespace Mine
theorem rules_W29 : True := by
  k_with_none
  w_top off
  k_with "storeName" => (k_here; with_reducible show wpAny _ _ (storeName _ _ (Value.int _ (Shared.toks _))) _ _ _; k_dflt (refine storeX_Li (by k_asm) (by k_asm) (fun t_kw h_kw F_kw N_kw => ?_) rfl rfl; try k_sweep))
  k_with "storeName" => (k_here; with_reducible show wpAny _ _ (storeName _ _ (Value.str _ (Shared.toks _))) _ _ _; k_dflt (refine storeX_Ls (by k_asm) (by k_asm) (fun t_kw h_kw F_kw N_kw => ?_) rfl rfl; try k_sweep))
  k_with "eval Name" => (k_here; (with_reducible show wpAny _ _ (eval (Expr.Name _ _) (compEnvC _ _ _ _)) _ _ _); k_dflt (first | (refine' ldC_own ?kw_F ?kw_h ?_ ?kw_a ?kw_b; (case kw_a => rfl); (case kw_b => rfl); (case kw_F => k_asm); (case kw_h => rfl); k_whole) | (refine' ldC_cell ?kw_F ?kw_h ?kw_g ?_ ?kw_a ?kw_b; (case kw_a => rfl); (case kw_b => rfl); (case kw_F => k_asm); (case kw_h => rfl); (case kw_g => k_asm); k_whole) | (refine' ldC_free ?kw_F ?kw_h ?kw_g ?_ ?kw_a ?kw_b; (case kw_a => rfl); (case kw_b => rfl); (case kw_F => k_asm); (case kw_h => rfl); (case kw_g => k_asm); k_whole) | (refine' LCgL.ld_global ?kw_F ?kw_X ?kw_T ?kw_e ?_ ?kw_z ?kw_a ?kw_b; (case kw_z => rfl); (case kw_a => rfl); (case kw_b => rfl); (case kw_F => k_asm); (case kw_X => k_asm); (case kw_T => k_asm); (case kw_e => k_is); k_whole) | (refine' LCgL.ld_built ?kw_F ?kw_X ?kw_T ?kw_e ?kw_v ?kw_n ?_ ?kw_z ?kw_y ?kw_a ?kw_b; (case kw_z => rfl); (case kw_y => rfl); (case kw_a => rfl); (case kw_b => rfl); (case kw_F => k_asm); (case kw_X => k_asm); (case kw_T => k_asm); (case kw_e => k_is); (case kw_v => boot_fast); (case kw_n => decide); k_whole)))
  k_with "eval Name" => (k_here; (with_reducible show wpAny _ _ (eval (Expr.Name _ _) (envOfC _ lawSc _ _ _)) _ _ _); k_dflt (refine' ld_lawI ?kw_X ?kw_N ?kw_s ?kw_v ?_ ?kw_c ?kw_k ?kw_x ?kw_b; (case kw_c => rfl); (case kw_k => rfl); (case kw_x => rfl); (case kw_b => decide); (case kw_X => with_reducible assumption); (case kw_N => k_asm); (case kw_s => (intro p_kw hp'; repeat (first | exact hp' | apply List.Mem.tail))); (case kw_v => rfl); k_whole))
  k_with "assign Tuple" => (k_here; (with_reducible show wpAny _ _ (assign (Expr.Tuple _ _ _) _ (Value.ref _)) _ _ _); k_dflt (refine' unpackN_ ?kw_F ?kw_N ?kw_T ?kw_k1 ?kw_k2 ?kw_k3 ?_; (case kw_F => k_asm); (case kw_N => k_asm); (case kw_T => first | k_asm | (refine News.isTup (by k_asm) (by k_mem)) | exact tup_at (by k_asm) (by k_asm)); (case kw_k1 => first | exact rfl | k_asm); (case kw_k2 => exact rfl); (case kw_k3 => exact rfl)); intro h_kw F_kw N_kw; (try k_sweep))
  trivial
theorem fillK_W29 : (fun (_ : OpenLaw) (_ : Params → Frag) => True) PySem.Challenge.rw_xe0047_01 KF := by
  k_fill
  trivial
/-- what one division tells -/
structure Divi (wd tp N0 Dv : Nat) (due : List Int) : Prop where
  n0 : N0 < 2 ^ 20000
  t0 : tp ≤ 20000
  bl : ∃ b, 2 ^ b ≤ Dv ∧ Dv < 2 ^ (b + 1) ∧ b + 1 ≤ 16000 ∧ N0 * 2 ^ tp < Dv * 2 ^ (b + 1)
  rest : N0 * 2 ^ tp % Dv = N0
  quot : ((N0 * 2 ^ tp / Dv : Nat) : Int) = valL wd due
  len : due.length ≤ 6
  fig : ∀ x ∈ due, 0 ≤ x ∧ x < 1024
  top : ∃ l y, due = l ++ [y] ∧ 0 < y
set_option maxHeartbeats 4000000 in
theorem law_div {w : World} {A : Around} {s : Shared} {B : Heap} {L : Addr} {Q : Flow → Shared → Prop} {tl : List (Addr × Obj)} {m0 : Str → Option Value} {tw t1 t2 t3 : Tok} {wd tp N0 Dv : Nat} {c0 c1 c2 c3 c5 c6 c7 c8 : Value} {du : Addr} {due : List Int} {vs : List Value} {nn : Nat} (hw : 10 ≤ wd ∧ wd ≤ 2509) (D : Divi wd tp N0 Dv due)
    (hPL : @LT.lt Nat _ 51 L) (hB37 : B.get? 37 = none) (hB30 : B.get? 30 = none) (hB51 : B.get? 51 = none)
    (G : Env0 w A B 29) (F : Fr B L s.heap (fun y => if y = Str.ofString "divisor" then some (.int Dv t1) else if y = Str.ofString "top" then some (.int tp t2) else if y = Str.ofString "number" then some (.int N0 t3) else if y = Str.ofString "width" then some (.int wd tw) else m0 y)) (N : News B L s.heap tl)
    (X : Mine.LT B L tl [some c0, some c1, some c2, some c3, some (.ref du), some c5, some c6, some c7, some c8]) (hm : (du, PySem.W.listOf (List.toArray vs) nn) ∈ tl) (hv : All2 IV vs due)
    (K : Later (∀ h' tk' tl' (m : Str → Option Value), Fr B L h' m → News B L h' tl' →
      Mine.LT B L tl' [some c0, some c1, some c2, some c3, some (.ref du), some c5, some c6, some c7, some c8] → (∀ p ∈ tl, Held p.2 → p ∈ tl') →
      wpAny (model pw w) A (execs (lawB 22) (lawE L)) Q (fun _ _ => False) { s with heap := h', toks := tk' })) :
    wpAny (model pw w) A (execs (lawB 20) (lawE L)) Q (fun _ _ => False) s := by
  obtain ⟨p, l9, me, mg, mb, T⟩ := G.T
  have XB := G.X
  have hh := G.hh
  obtain ⟨bl, b1, b2, b3, b4⟩ := D.bl
  have hbits := bits_eq b1 b2
  have hN : Builtin.Int.intBits (N0 : Int) ≤ 20000 := bits_le D.n0
  have ht := D.t0
  show wpAny _ _ (execs (_ :: _) _) _ _ _
  repeat walk1
  refine lshift_int (by lia) (by lia) ?_
  rw [Int.toNat_natCast, two_pow tp, ← Int.natCast_mul]
  repeat walk1
  rename Fr _ _ _ _ => F1
  rename News _ _ _ _ => N1
  rw [hbits]
  refine div_spec 24 (N0 * 2 ^ tp) Dv bl _ _ _ _ _ _ rfl rfl rfl b3 b1 b2 b4 G F1 ?_
  intro h2 tk2 T9 tq tr k2 nT gT
  rw [D.rest, D.quot] at gT
  have F2 := Fr.stay F1 k2
  have N2 : News B L h2 ((T9, tupOf #[.int (valL wd due) tq, .int (N0 : Nat) tr]) :: tl) := fun p hp => by
    rcases List.mem_cons.mp hp with rfl | hp
    · exact ⟨gT, Fr.neL F1 nT, Fr.noB F1 nT⟩
    · exact News.stay N1 k2 p hp
  clear F1 N1 k2 nT gT
  have hlt : (1024 : Int) ≤ 2 ^ wd := by
    have h1 : 2 ^ 10 ≤ 2 ^ wd := Nat.pow_le_pow_right (by decide) hw.1
    rw [two_pow]
    exact Int.ofNat_le.mpr h1
  repeat walk1
  · exact absurd rfl (by assumption)
  repeat walk1
  rename Fr _ _ _ _ => F3
  rename News _ _ _ _ => N3
  replace N3 := News.sub N3 fun p hp => .tail _ hp
  have k37 := X.t37.tab N3 F3.keep
  have k30 := X.t30.tab N3 F3.keep
  obtain ⟨ps, h51, hps⟩ := X.t51
  refine i2d_spec (dd := 21) wd due ⟨by lia, hw.2⟩ D.len (fun x hx => ⟨(D.fig x hx).1, Int.lt_of_lt_of_le (D.fig x hx).2 hlt⟩) D.top _ _ G F3.keep hB30 k30 ?_
  intro h4 tk4 E9 vs9 nn9 k4 n4 nE gE hv9
  have F4 := Fr.but F3 (Ps := [30]) (fun P hP => by rw [List.mem_singleton.mp hP]; exact hB30) (fun q => by rw [List.mem_singleton.mp q] at hPL; exact absurd hPL (by decide)) k4
  obtain ⟨p30, h30, hp30⟩ := X.t30
  have j37 := tab_but (show @Ne Nat 37 30 by decide) k37 (N3 _ h30).1 (hp30.imp id fun ⟨c', e, _⟩ => ⟨_, _, c', e⟩) k4
  have t51 : TabG h4 51 66 42 := ⟨ps, k4 _ _ (by decide) (N3 _ h51).1, hps⟩
  obtain ⟨tl2, N4, X4, kp⟩ := LT.refresh F4 hPL hB37 hB30 hB51 N3 X (StayBut.sub k4 fun b hb => by rw [List.mem_singleton.mp hb]; decide) j37 n4.tab t51
  have kp' : ∀ p ∈ tl, Held p.2 → p ∈ tl2 := fun p hp hh => kp p hp (X.off N3 hp hh.nt)
  have Nd : News B L h4 [(E9, PySem.W.listOf (List.toArray vs9) nn9)] := fun p hp => by rw [List.mem_singleton.mp hp]; exact ⟨gE, Fr.neL F3 nE, Fr.noB F3 nE⟩
  have N5 := Nd.append N4
  have lE := News.isList N5 (.head _)
  have lD := News.isList N5 (List.mem_append_right _ (kp' _ hm (listOf_held _ _)))
  obtain ⟨m9, F5⟩ : ∃ m9, Fr B L h4 m9 := ⟨_, F4⟩
  have hu : A.units + 64 < cLine := by have := G.hu; show _ < 9900; lia
  clear F3 N3 k4 j37 k37 k30 h51 h30 Nd F4
  iterate 1 walk1
  refine ke_ne_ints lE lD (ints_all2 hv9) (ints_all2 hv) hu ?_
  rw [decide_eq_true rfl]
  iterate 5 walk1
  exact K.go _ _ tl2 m9 F5 N4 X4 kp'
end Mine
end
end
section
local macro_rules | `(tactic| omega) => `(tactic| lia)
section
open PySem PySem.W PyProof.Rows PySem.Calls PySem.Spec
set_option Elab.async false
set_option maxRecDepth 100000
noncomputable section
namespace Mine
section
variable {prog : Program} {w : World} {A : Around} {E : Value → Shared → Prop} {s : Shared} {env : Env}
theorem comp_tuple {elt : Expr} {x : Str} {ifs : List Expr} {scope : Scope} {cl : List (Str × Addr)} {R : Addr → Addr → Shared → Prop} {l : Addr} {items : Array Value} (hh : A.handled = none) (hl : s.heap.IsTuple l items)
    (J : Addr → Nat → (Str → Option Value) → List (Addr × Obj) → Prop) (h0 : ∀ D, J D 0 (fun _ => none) [(D, PySem.W.listOf #[] 0)])
    (turn : ∀ D C I i v m₁ nx h tk oI (K : Shared → Prop) E', i < items.size → items[i]? = some v → (@Ne Nat D I) → (∀ p ∈ nx, @Ne Nat p.1 I) → J D i m₁ nx → Fr s.heap C h (fun y => if y = x then some v else m₁ y) → News s.heap C h (nx ++ [(I, oI)]) →
        (∀ h' tk' m' nx', Fr s.heap C h' m' → News s.heap C h' (nx' ++ [(I, oI)]) → (∀ p ∈ nx', @Ne Nat p.1 I) → J D (i + 1) m' nx' → K { s with heap := h', toks := tk' }) → compEnd prog w A D elt ifs (compEnvC scope cl C env) E' K { s with heap := h, toks := tk })
    (done : ∀ D C m₁ nx h tk, J D items.size m₁ nx → Fr s.heap C h m₁ → News s.heap C h nx → R D C { s with heap := h, toks := tk }) :
    wpAny (model prog w) A (pyIter (.ref l)) (fun it s₂ => CompJ prog w A s.heap elt x ifs scope cl env R it s₂) E s := by
  have hlt : l < s.heap.objs.size := by obtain ⟨_, e, _⟩ := hl; exact Heap.lt_size e
  refine wpAny_pyIter_tuple hl ?_
  refine comp_src rfl (Walks.tuple hh s.heap.objs.size l (Nat.ne_of_lt hlt) items) (fun b hb => ?_) (fun i h st => by obtain ⟨o, e, _⟩ := st.1; exact ⟨o, e⟩) ⟨⟨_, Heap.get?_push_size _ rfl, rfl, rfl⟩, hl.at fun o e => Heap.get?_push_of_some _ e⟩ J h0 turn done
  rcases List.mem_cons.mp hb with e | hb
  · exact .inl e
  · rw [List.mem_singleton.mp hb]; obtain ⟨o, e, _⟩ := hl; exact .inr (by rw [e]; rfl)
theorem comp_tupleI {elt : Expr} {x : Str} {scope : Scope} {cl : List (Str × Addr)} {R : Addr → Addr → Shared → Prop} {l : Addr} {us : List Value} {xs : List Int} (hh : A.handled = none) (hl : s.heap.IsTuple l us.toArray) (hu : All2 IV us xs)
    (g : Int → Int) (hz : xs.length ≤ sizeLine)
    (turn : ∀ C (i : Nat) y t (m₁ : Str → Option Value) nx h tk E', xs[i]? = some y → Fr s.heap C h (fun z => if z = x then some (.int y t) else m₁ z) → News s.heap C h nx →
        wpAny (model prog w) A (eval elt (compEnvC scope cl C env)) (IntEnd s.heap C nx s (g y)) E' { s with heap := h, toks := tk })
    (done : ∀ D C m₁ vs nn h tk, All2 IV vs (xs.map g) → Fr s.heap C h m₁ → News s.heap C h [(D, PySem.W.listOf (List.toArray vs) nn)] → R D C { s with heap := h, toks := tk }) :
    wpAny (model prog w) A (pyIter (.ref l)) (fun it s₂ => CompJ prog w A s.heap elt x [] scope cl env R it s₂) E s := by
  have hlen := hu.length
  refine comp_tuple hh hl (fun Dc i m nx => ∃ vs nn, nx = [(Dc, PySem.W.listOf (List.toArray vs) nn)] ∧ All2 IV vs ((xs.take i).map g)) (fun Dc => ⟨[], 0, rfl, .nil⟩) ?_ ?_
  · rintro Dc C I i v m1 nx h tk oI K E' hi hiv hDI hnI ⟨vs, nn, rfl, hv⟩ F N hK
    obtain ⟨y, hy, t, rfl⟩ := all2_ix hu (show us[i]? = some v by simpa using hiv)
    unfold compEnd
    refine wpAny_tests_nil ?_
    rw [if_pos rfl]
    refine wpAny_mono (turn C i y t m1 _ h tk E' hy F N) (fun v s' hp => ?_) fun _ _ e => e
    obtain ⟨⟨t', rfl⟩, h', tk', m', rfl, F2, N2⟩ := hp
    have hl := hv.length
    rw [List.length_map, List.length_take] at hl
    refine append_K F2 N2 (.head fun p hp => ?_) (fun h3 F3 N3 => ?_) ?_
    · rw [List.mem_singleton.mp hp]; exact hDI.symm
    · rw [List.push_toArray] at N3
      refine hK _ _ _ [(Dc, _)] F3 N3 (fun p hp => by rw [List.mem_singleton.mp hp]; exact hDI) ⟨_, _, rfl, ?_⟩
      rw [List.take_add_one, hy, List.map_append]
      exact hv.app (.cons ⟨_, rfl⟩ .nil)
    · rw [List.size_toArray]; omega
  · rintro Dc C m1 nx h tk ⟨vs, nn, rfl, hv⟩ F N
    rw [List.size_toArray, hlen, List.take_length] at hv
    exact done _ _ _ _ _ _ _ hv F N
theorem sliceApplied_to4 {sl : Addr} {u : Tok} {Q : Int × Int × Nat → Shared → Prop} (hs : s.heap.IsSliceOf sl .none (.int 4 u) .none) (h : Q (0, 1, 4) s) :
    wpAny (model prog w) A (Builtin.Slice.sliceApplied (.ref sl) (pure (5 : Int))) Q E s := by
  obtain ⟨os, hos, hcs, hds⟩ := id hs
  unfold Builtin.Slice.sliceApplied Builtin.Slice.sliceFields
  refine wpAny_bind (wpAny_bind (wpAny_field hos hds (x := .none) rfl (wpAny_bind (wpAny_field hos hds (x := .int 4 u) rfl (wpAny_bind (wpAny_field hos hds (x := .none) rfl (wpAny_pure ?_)))))))
  refine wpAny_bind (slicePart_none ?_)
  show wpAny _ _ (if ((1 : Int) == 0) = true then _ else _) _ _ s
  rw [if_neg (by decide)]
  refine wpAny_bind (slicePart_none (wpAny_bind (slicePart_int (wpAny_bind (wpAny_pure ?_)))))
  exact wpAny_pure h
theorem getItem_tuple_to4 {t sl : Addr} {v1 v2 v3 v4 v5 : Value} {u : Tok} {Q : Value → Shared → Prop} (ht : IsTup s.heap t #[v1, v2, v3, v4, v5]) (hs : s.heap.IsSliceOf sl .none (.int 4 u) .none)
    (h : Q (.ref s.heap.objs.size) { s with heap := s.heap.push { cls := .type "tuple", data := .seq #[v1, v2, v3, v4] } }) : wpAny (model prog w) A (getItem (.ref t) (.ref sl)) Q E s := by
  have hdrop : sizeOk (.seq #[v1, v2, v3, v4]) := by
    show (4 : Nat) ≤ sizeLine
    rw [sizeLine_eq]; omega
  obtain ⟨os, hos, hcs, hds⟩ := id hs
  have hTs : s.TypeIs (.ref sl) "slice" := ⟨os, hos, hcs⟩
  unfold getItem
  try with_reducible refine wpAny_holding ?_
  first | refine wpAny_bind (wpAny_pure ?_) | skip
  refine wpAny_bind (wpAny_sequenceKey ht.typeIs (by decide) ?_)
  refine wpAny_bind (wpAny_callSpecial?_slot (name := Str.ofString "__getitem__") ht.typeIs slot_tuple_getitem
    (wpAny_call_entry slot_tuple_getitem ht.typeIs entry_tuple_getitem ?_ (args_tuple_getitem _ _)))
  show wpAny _ _ (Builtin.Tuple.tupleItemsOf (.ref t) >>= _) _ _ s
  refine wpAny_bind (tupleItemsOf_ ht ?_)
  refine wpAny_bind (wpAny_typeOf hTs ?_)
  rw [if_pos (by decide)]
  refine wpAny_bind (sliceApplied_to4 hs ?_)
  show wpAny _ _ (if ((0 : Int) == 0 && (1 : Int) == 1 && (4 : Nat) == 5) = true then _ else _) _ _ s
  rw [if_neg (by decide)]
  have ep : ((List.range 4).filterMap fun (k : Nat) => (#[v1, v2, v3, v4, v5] : Array Value)[((0 : Int) + (k : Int) * 1).toNat]?).toArray = #[v1, v2, v3, v4] := by rfl
  rw [ep]
  first
    | exact wpAny_bind (m := Builtin.Tuple.tupleExact _) (wpAny_newObj_type (wpAny_pure ⟨_, rfl, wpAny_pure h⟩) hdrop)
    | exact wpAny_bind (m := Builtin.Tuple.tupleExact _) (wpAny_newObj_type (wpAny_bind (wpAny_pure (wpAny_pure ⟨_, rfl, wpAny_pure h⟩))) hdrop)
    | exact wpAny_bind (wpAny_bind (m := Builtin.Tuple.tupleExact _) (wpAny_newObj_type (wpAny_pure (wpAny_pure ⟨_, rfl, wpAny_pure h⟩)) hdrop))
    | exact wpAny_bind (wpAny_bind (m := Builtin.Tuple.tupleExact _) (wpAny_newObj_type (wpAny_pure ⟨_, rfl, wpAny_pure h⟩) hdrop))
theorem slice_tuple_to4 {h₀ : Heap} {L : Addr} {m : Str → Option Value} {news : List (Addr × Obj)} {value slice : Expr} {t : Addr} {v1 v2 v3 v4 v5 : Value} {u : Tok} {Q : Value → Shared → Prop}
    (F : Fr h₀ L s.heap m) (N : News h₀ L s.heap news) (ht : IsTup s.heap t #[v1, v2, v3, v4, v5])
    (h : ∀ D h', Fr h₀ L h' m → News h₀ L h' ((D, tupOf #[v1, v2, v3, v4]) :: news) → Q (.ref D) { s with heap := h' })
    (hs : subscripted slice false (.ref t) (.ref s.heap.objs.size) = operate [.ref s.heap.objs.size, .ref t] (getItem (.ref t) (.ref s.heap.objs.size)) := by with_unfolding_all rfl)
    (hg : ∀ r, letTemporaryGo value (.ref t) r = pure () := by intro _; with_unfolding_all rfl) :
    wpAny (model prog w) A (subscriptTail value slice (.ref t) (.ref s.heap.objs.size)) Q E { s with heap := s.heap.push { cls := .type "slice", data := .fields #[.none, .int 4 u, .none] } } := by
  have ht' : IsTup (s.heap.push { cls := .type "slice", data := .fields #[.none, .int 4 u, .none] }) t #[v1, v2, v3, v4, v5] := ht.keeps fun _ _ e => Heap.get?_push_of_some _ e
  refine subscriptTail_ops (s := { s with heap := s.heap.push { cls := .type "slice", data := .fields #[.none, .int 4 u, .none] } }) ht'.typeIs slot_tuple_getitem.lookup
    (getItem_tuple_to4 ht' (Heap.IsSliceOf.new ..) ?_) hs hg
  have N1 := News.push (F.push { cls := .type "slice", data := .fields #[.none, .int 4 u, .none] }) (N.grown fun _ _ e => Heap.get?_push_of_some _ e) (tupOf #[v1, v2, v3, v4])
  rw [Heap.size_push] at N1
  show Q (.ref (s.heap.push _).objs.size) _
  rw [Heap.size_push]
  exact h _ _ ((F.push _).push _) N1
end
end Mine
end
end
section
open PySem PySem.W PyProof.Rows PySem.Calls PySem.Spec
set_option Elab.async false
set_option maxRecDepth 100000
noncomputable section
namespace Mine
theorem rules_W30 : True := by
  k_with_none
  w_top off
  k_with "storeName" => (k_here; with_reducible show wpAny _ _ (storeName _ _ (Value.int _ (Shared.toks _))) _ _ _; k_dflt (refine storeX_Li (by k_asm) (by k_asm) (fun t_kw h_kw F_kw N_kw => ?_) rfl rfl; try k_sweep))
  k_with "storeName" => (k_here; with_reducible show wpAny _ _ (storeName _ _ (Value.str _ (Shared.toks _))) _ _ _; k_dflt (refine storeX_Ls (by k_asm) (by k_asm) (fun t_kw h_kw F_kw N_kw => ?_) rfl rfl; try k_sweep))
  k_with "eval Name" => (k_here; (with_reducible show wpAny _ _ (eval (Expr.Name _ _) (compEnvC _ _ _ _)) _ _ _); k_dflt (first | (refine' ldC_own ?kw_F ?kw_h ?_ ?kw_a ?kw_b; (case kw_a => rfl); (case kw_b => rfl); (case kw_F => k_asm); (case kw_h => rfl); k_whole) | (refine' ldC_cell ?kw_F ?kw_h ?kw_g ?_ ?kw_a ?kw_b; (case kw_a => rfl); (case kw_b => rfl); (case kw_F => k_asm); (case kw_h => rfl); (case kw_g => k_asm); k_whole) | (refine' ldC_free ?kw_F ?kw_h ?kw_g ?_ ?kw_a ?kw_b; (case kw_a => rfl); (case kw_b => rfl); (case kw_F => k_asm); (case kw_h => rfl); (case kw_g => k_asm); k_whole) | (refine' LCgL.ld_global ?kw_F ?kw_X ?kw_T ?kw_e ?_ ?kw_z ?kw_a ?kw_b; (case kw_z => rfl); (case kw_a => rfl); (case kw_b => rfl); (case kw_F => k_asm); (case kw_X => k_asm); (case kw_T => k_asm); (case kw_e => k_is); k_whole) | (refine' LCgL.ld_built ?kw_F ?kw_X ?kw_T ?kw_e ?kw_v ?kw_n ?_ ?kw_z ?kw_y ?kw_a ?kw_b; (case kw_z => rfl); (case kw_y => rfl); (case kw_a => rfl); (case kw_b => rfl); (case kw_F => k_asm); (case kw_X => k_asm); (case kw_T => k_asm); (case kw_e => k_is); (case kw_v => boot_fast); (case kw_n => decide); k_whole)))
  k_with "eval Name" => (k_here; (with_reducible show wpAny _ _ (eval (Expr.Name _ _) (envOfC _ lawSc _ _ _)) _ _ _); k_dflt (refine' ld_lawI ?kw_X ?kw_N ?kw_s ?kw_v ?_ ?kw_c ?kw_k ?kw_x ?kw_b; (case kw_c => rfl); (case kw_k => rfl); (case kw_x => rfl); (case kw_b => decide); (case kw_X => with_reducible assumption); (case kw_N => k_asm); (case kw_s => (intro p_kw hp'; repeat (first | exact hp' | apply List.Mem.tail))); (case kw_v => rfl); k_whole))
  k_with "assign Tuple" => (k_here; (with_reducible show wpAny _ _ (assign (Expr.Tuple _ _ _) _ (Value.ref _)) _ _ _); k_dflt (refine' unpackN_ ?kw_F ?kw_N ?kw_T ?kw_k1 ?kw_k2 ?kw_k3 ?_; (case kw_F => k_asm); (case kw_N => k_asm); (case kw_T => first | k_asm | (refine News.isTup (by k_asm) (by k_mem)) | exact tup_at (by k_asm) (by k_asm)); (case kw_k1 => first | exact rfl | k_asm); (case kw_k2 => exact rfl); (case kw_k3 => exact rfl)); intro h_kw F_kw N_kw; (try k_sweep))
  trivial
theorem fillK_W30 : (fun (_ : OpenLaw) (_ : Params → Frag) => True) PySem.Challenge.rw_xe0047_01 KF := by
  k_fill
  trivial
set_option maxHeartbeats 4000000 in
theorem law_entry {w : World} {A : Around} {s : Shared} {B : Heap} {L : Addr} {Q : Flow → Shared → Prop} {tl : List (Addr × Obj)} {m : Str → Option Value} {c0 c1 c2 c4 c5 c6 c7 c8 : Value} {hi : Addr} {hs : List Nat} {n : Nat} {vs : List Value} {nn : Nat} (H : Hits n hs) (hn : n ≤ 5)
    (G : Env0 w A B 29) (F : Fr B L s.heap m) (N : News B L s.heap tl)
    (X : Mine.LT B L tl [some c0, some c1, some c2, some (.ref hi), some c4, some c5, some c6, some c7, some c8]) (hm : (hi, PySem.W.listOf (List.toArray vs) nn) ∈ tl) (hv : All2 IV vs (toI hs))
    (K : Later (∀ h' tk' (m : Str → Option Value) (a d : Addr) o kvs t1 t2 t3 t4, Fr B L h' (fun y => if y = Str.ofString "entry" then some (.ref a) else m y) → News B L h' ((a, tupOf #[.int (entL (toI hs)).c1 t1, .int (entL (toI hs)).c2 t2, .int (entL (toI hs)).c3 t3, .int (entL (toI hs)).c4 t4, .ref d]) :: (d, o) :: tl) →
      (d == sysModules) = false → o.IsDictOf (intKind pw w) kvs → DI kvs (entL (toI hs)).t →
      wpAny (model pw w) A (execs (lawB 23) (lawE L)) Q (fun _ _ => False) { s with heap := h', toks := tk' })) :
    wpAny (model pw w) A (execs (lawB 22) (lawE L)) Q (fun _ _ => False) s := by
  obtain ⟨p, l9, me, mg, mb, T⟩ := G.T
  have XB := G.X
  have hh := G.hh
  have hfew := H.few
  show wpAny _ _ (execs (_ :: _) _) _ _ _
  repeat walk1
  rename Fr _ _ _ _ => F1
  rename News _ _ _ _ => N1
  refine entry_spec (dd := 26) hi vs (toI hs) (News.isList N1 hm) hv (fun x hx => by
    obtain ⟨h, hm, rfl⟩ := List.mem_map.mp hx
    have := H.le h hm
    omega) (by rw [List.length_map]; omega) G F1 ?_
  intro h2 tk2 a d na nd k2 S
  obtain ⟨t1, t2, t3, t4, gT⟩ := S.tup
  obtain ⟨o, kvs, gd, ho, hdi⟩ := S.dict
  have F2 := Fr.stay F1 k2
  have N2 : News B L h2 ((a, tupOf #[.int (entL (toI hs)).c1 t1, .int (entL (toI hs)).c2 t2, .int (entL (toI hs)).c3 t3, .int (entL (toI hs)).c4 t4, .ref d]) :: (d, o) :: tl) := fun p hp => by
    rcases List.mem_cons.mp hp with rfl | hp
    · exact ⟨gT, Fr.neL F1 na, Fr.noB F1 na⟩
    rcases List.mem_cons.mp hp with rfl | hp
    · exact ⟨gd, Fr.neL F1 nd, Fr.noB F1 nd⟩
    · exact News.stay N1 k2 p hp
  clear F1 N1 k2
  iterate 1 walk1
  rename Fr _ _ _ _ => F3
  rename News _ _ _ _ => N3
  exact K.go _ _ _ a d o kvs _ _ _ _ F3 N3 S.lo ho hdi
set_option maxHeartbeats 4000000 in
theorem law_columns {w : World} {A : Around} {s : Shared} {B : Heap} {L : Addr} {Q : Flow → Shared → Prop} {tl : List (Addr × Obj)} {m : Str → Option Value} {c0 c1 c2 c3 c4 c5 c8 : Value} {al e1 e2 e3 e4 : Int} {t7 t1 t2 t3 t4 : Tok} {mo a d : Addr} {o : Obj} {ms : List Int} {n : Nat} {vs : List Value} {nn : Nat} (M : Moms n ms al)
    (hcol : [al * e1, al * e2, al * e3, al * e4] = (ms ++ [0, 0, 0, 0]).take 4)
    (G : Env0 w A B 29) (F : Fr B L s.heap (fun y => if y = Str.ofString "entry" then some (.ref a) else m y)) (N : News B L s.heap ((a, tupOf #[.int e1 t1, .int e2 t2, .int e3 t3, .int e4 t4, .ref d]) :: (d, o) :: tl))
    (X : Mine.LT B L tl [some c0, some c1, some c2, some c3, some c4, some c5, some (.ref mo), some (.int al t7), some c8]) (hm : (mo, PySem.W.listOf (List.toArray vs) nn) ∈ tl) (hv : All2 IV vs ms)
    (K : Later (∀ h' tk', Fr B L h' (fun y => if y = Str.ofString "entry" then some (.ref a) else m y) → News B L h' ((a, tupOf #[.int e1 t1, .int e2 t2, .int e3 t3, .int e4 t4, .ref d]) :: (d, o) :: tl) →
      wpAny (model pw w) A (execs (lawB 24) (lawE L)) Q (fun _ _ => False) { s with heap := h', toks := tk' })) :
    wpAny (model pw w) A (execs (lawB 23) (lawE L)) Q (fun _ _ => False) s := by
  obtain ⟨p, l9, me, mg, mb, T⟩ := G.T
  have XB := G.X
  have hh := G.hh
  show wpAny _ _ (execs (_ :: _) _) _ _ _
  iterate 3 walk1
  refine' listCompJ ?cl ?ce ?ki ?na ?xl ?body
  case cl => with_unfolding_all rfl
  case ce => decide
  case ki => rfl
  case na => decide
  case xl => rfl
  iterate 7 walk1
  rename Fr _ _ _ _ => F1
  rename News _ _ _ _ => N1
  have tA : IsTup s.heap a #[.int e1 t1, .int e2 t2, .int e3 t3, .int e4 t4, .ref d] := News.isTup N1 (.head _)
  refine slice_tuple_to4 F1 N1 tA ?_
  intro D5 h5 F5 N5
  clear F1 N1
  have tD : Heap.IsTuple h5 D5 #[.int e1 t1, .int e2 t2, .int e3 t3, .int e4 t4] := News.isTup N5 (.head _)
  have cA : Heap.IsCell _ (cellA L 7) (some (.int al t7)) := let ⟨o, hm, hd⟩ := X.cells 7 _ rfl; ⟨o, (N5 _ (.tail _ (.tail _ (.tail _ hm)))).1, hd⟩
  have hal := intBits_le_of (Int.le_trans (by decide) M.al0) M.al1
  refine comp_tupleI (us := [.int e1 t1, .int e2 t2, .int e3 t3, .int e4 t4]) (xs := [e1, e2, e3, e4]) hh tD (.cons ⟨_, rfl⟩ (.cons ⟨_, rfl⟩ (.cons ⟨_, rfl⟩ (.cons ⟨_, rfl⟩ .nil)))) (fun x => al * x) (by rw [sizeLine_eq]; exact (by decide : (4 : Nat) ≤ 16777216)) ?turn ?done
  case turn =>
    intro C i y t m1 nx h tk E' hy F4 N4
    repeat walk1
    refine mul_int ?_ (IntMulOk.of_left (by omega))
    exact ⟨⟨_, rfl⟩, _, _, _, rfl, F4, N4⟩
  case done =>
    intro D C m1 vs' nn' h tk hv' F4 N4
    refine compDone F4 N4 fun h6 N6 k6 => ?_
    have F12 := Fr.stay F5 k6
    have N12 := News.join F5 N5 N6 k6
    clear F4 N4 k6 N6 F5 N5
    iterate 3 walk1
    refine ints_display (qs := [0, 0, 0, 0]) (ints_of rfl) F12 N12 ?_ (by rw [sizeLine_eq]; decide)
    intro Z h7 tk7 zs F7 N7 _ hz
    have hml := M.len
    refine add_lists_ints F7 N7 (News.isList N7 (.tail _ (.tail _ (.tail _ (.tail _ (.tail _ hm)))))) (News.isList N7 (.head _)) (ints_all2 hv) (ints_all2 hz) ?_ (by rw [sizeLine_eq, List.length_cons, List.length_cons, List.length_cons, List.length_cons, List.length_nil]; omega)
    intro h8 F8 N8 hi8
    clear F7 N7 F12 N12
    iterate 5 walk1
    rename Fr _ _ _ _ => F9
    rename News _ _ _ _ => N9
    have l9 : Heap.IsList _ _ (vs ++ zs).toArray := ⟨_, (N9 _ (.head _)).1, rfl, _, rfl⟩
    have h9l := hi8.length
    refine kba_turn (value' := PySem.Expr.Name (PySem.Str.ofString "_") ⟨0, 0, 0, 0⟩) (fun _ => rfl) ?_
    refine kmk_slice_lit F9 N9 l9 .none (.int 4 _) rfl ?_ (by with_unfolding_all rfl) (fun _ => rfl) (by rw [sizeLine_eq, List.size_toArray, h9l, List.length_append, List.length_cons, List.length_cons, List.length_cons, List.length_cons, List.length_nil]; omega)
    intro D9 h9 F10 N10 _
    have hi9 := slice_ints_uptoW hi8 (y := 4) (by decide)
    clear F9 N9
    have hu : A.units + 64 < cLine := by have := G.hu; show _ < 9900; omega
    refine ke_ne_ints (News.isList N10 (.tail _ (.tail _ (.tail _ (.head _))))) (News.isList N10 (.head _)) (ints_all2 hv') hi9 hu ?_
    have ec : (([e1, e2, e3, e4] : List Int).map fun x => al * x) = (ms ++ ([0, 0, 0, 0] : List Int)).take (Int.toNat 4) := hcol
    rw [decide_eq_true ec]
    iterate 4 walk1
    exact K.go _ _ F10 fun p hp => N10 p (.tail _ (.tail _ (.tail _ (.tail _ (.tail _ hp)))))
end Mine
end
end
section
open PySem PySem.W PyProof.Rows PySem.Calls PySem.Spec
set_option Elab.async false
set_option maxRecDepth 100000
noncomputable section
namespace Mine
theorem rules_W31 : True := by
  k_with_none
  w_top off
  k_with "storeName" => (k_here; with_reducible show wpAny _ _ (storeName _ _ (Value.int _ (Shared.toks _))) _ _ _; k_dflt (refine storeX_Li (by k_asm) (by k_asm) (fun t_kw h_kw F_kw N_kw => ?_) rfl rfl; try k_sweep))
  k_with "storeName" => (k_here; with_reducible show wpAny _ _ (storeName _ _ (Value.str _ (Shared.toks _))) _ _ _; k_dflt (refine storeX_Ls (by k_asm) (by k_asm) (fun t_kw h_kw F_kw N_kw => ?_) rfl rfl; try k_sweep))
  k_with "eval Name" => (k_here; (with_reducible show wpAny _ _ (eval (Expr.Name _ _) (compEnvC _ _ _ _)) _ _ _); k_dflt (first | (refine' ldC_own ?kw_F ?kw_h ?_ ?kw_a ?kw_b; (case kw_a => rfl); (case kw_b => rfl); (case kw_F => k_asm); (case kw_h => rfl); k_whole) | (refine' ldC_cell ?kw_F ?kw_h ?kw_g ?_ ?kw_a ?kw_b; (case kw_a => rfl); (case kw_b => rfl); (case kw_F => k_asm); (case kw_h => rfl); (case kw_g => k_asm); k_whole) | (refine' ldC_free ?kw_F ?kw_h ?kw_g ?_ ?kw_a ?kw_b; (case kw_a => rfl); (case kw_b => rfl); (case kw_F => k_asm); (case kw_h => rfl); (case kw_g => k_asm); k_whole) | (refine' LCgL.ld_global ?kw_F ?kw_X ?kw_T ?kw_e ?_ ?kw_z ?kw_a ?kw_b; (case kw_z => rfl); (case kw_a => rfl); (case kw_b => rfl); (case kw_F => k_asm); (case kw_X => k_asm); (case kw_T => k_asm); (case kw_e => k_is); k_whole) | (refine' LCgL.ld_built ?kw_F ?kw_X ?kw_T ?kw_e ?kw_v ?kw_n ?_ ?kw_z ?kw_y ?kw_a ?kw_b; (case kw_z => rfl); (case kw_y => rfl); (case kw_a => rfl); (case kw_b => rfl); (case kw_F => k_asm); (case kw_X => k_asm); (case kw_T => k_asm); (case kw_e => k_is); (case kw_v => boot_fast); (case kw_n => decide); k_whole)))
  k_with "eval Name" => (k_here; (with_reducible show wpAny _ _ (eval (Expr.Name _ _) (envOfC _ lawSc _ _ _)) _ _ _); k_dflt (refine' ld_lawI ?kw_X ?kw_N ?kw_s ?kw_v ?_ ?kw_c ?kw_k ?kw_x ?kw_b; (case kw_c => rfl); (case kw_k => rfl); (case kw_x => rfl); (case kw_b => decide); (case kw_X => with_reducible assumption); (case kw_N => k_asm); (case kw_s => (intro p_kw hp'; repeat (first | exact hp' | apply List.Mem.tail))); (case kw_v => rfl); k_whole))
  k_with "assign Tuple" => (k_here; (with_reducible show wpAny _ _ (assign (Expr.Tuple _ _ _) _ (Value.ref _)) _ _ _); k_dflt (refine' unpackN_ ?kw_F ?kw_N ?kw_T ?kw_k1 ?kw_k2 ?kw_k3 ?_; (case kw_F => k_asm); (case kw_N => k_asm); (case kw_T => first | k_asm | (refine News.isTup (by k_asm) (by k_mem)) | exact tup_at (by k_asm) (by k_asm)); (case kw_k1 => first | exact rfl | k_asm); (case kw_k2 => exact rfl); (case kw_k3 => exact rfl)); intro h_kw F_kw N_kw; (try k_sweep))
  trivial
theorem fillK_W31 : (fun (_ : OpenLaw) (_ : Params → Frag) => True) PySem.Challenge.rw_xe0047_01 KF := by
  k_fill
  trivial
/-- how often each, where at all -/
noncomputable def dueP (du : List Int) (j : Nat) : List (Int × Int) := ((List.range j).filter fun k => decide (0 < du.getD k 0)).map fun k => (((k : Nat) : Int), du.getD k 0)
theorem dueP_next {du : List Int} {j : Nat} (h : 0 < du.getD j 0) : dueP du (j + 1) = dueP du j ++ [(((j : Nat) : Int), du.getD j 0)] := by
  unfold dueP
  rw [List.range_succ, List.filter_append, List.map_append, show [j].filter (fun k => decide (0 < du.getD k 0)) = [j] by rw [List.filter_cons, if_pos (decide_eq_true h)]; rfl]
  rfl
theorem dueP_skip {du : List Int} {j : Nat} (h : ¬ 0 < du.getD j 0) : dueP du (j + 1) = dueP du j := by
  unfold dueP
  rw [List.range_succ, List.filter_append, List.map_append, show [j].filter (fun k => decide (0 < du.getD k 0)) = [] by rw [List.filter_cons, if_neg (fun q => h (of_decide_eq_true q))]; rfl]
  simp
theorem dueP_len (du : List Int) (j : Nat) : (dueP du j).length ≤ j := by
  unfold dueP
  rw [List.length_map]
  have := List.length_filter_le (fun k => decide (0 < du.getD k 0)) (List.range j)
  rwa [List.length_range] at this
theorem di_next {kvs : List (Int × Value)} {du : List Int} {j : Nat} (x : DI kvs (dueP du j)) (h : 0 < du.getD j 0) (t : Tok) : DI (stored kvs ((j : Nat) : Int) (.int (du.getD j 0) t)) (dueP du (j + 1)) := by
  have ha : kvs.any (fun kv => kv.1 = ((j : Nat) : Int)) = false := by
    rw [TabR.any ((j : Nat) : Int) x, List.any_eq_false]
    intro p hp
    unfold dueP at hp
    obtain ⟨k, hk, rfl⟩ := List.mem_map.mp hp
    have := List.mem_range.mp (List.mem_filter.mp hk).1
    simp; omega
  unfold stored
  rw [ha, if_neg Bool.false_ne_true, dueP_next h]
  exact All2.app x (.cons ⟨rfl, t, rfl⟩ .nil)
theorem valueAt_get {K : Type} [DecidableEq K] {kb : List (K × Value)} {p : K × Value} {i : Nat} (hp : kb[i]? = some p) (hn : (kb.map (·.1)).Nodup) : valueAt kb p.1 = some p.2 := by
  have hi' : (kb.map (·.1))[i]? = some p.1 := by rw [List.getElem?_map, hp]; rfl
  cases hv : valueAt kb p.1 with
  | none =>
    have := valueAt_none.mp hv
    rw [List.any_eq_false] at this
    exact absurd (decide_eq_true rfl) (this p (List.mem_of_getElem? hp))
  | some v =>
    unfold valueAt at hv
    obtain ⟨q', hq', e5⟩ := Option.map_eq_some_iff.mp hv
    have hm := List.mem_of_find?_eq_some hq'
    have he := List.find?_some hq'
    obtain ⟨j, hj⟩ := List.getElem?_of_mem hm
    have hj' : (kb.map (·.1))[j]? = some p.1 := by rw [List.getElem?_map, hj]; simpa using he
    have : i = j := (List.getElem?_inj (by have := (List.getElem?_eq_some_iff.mp hi').1; exact this) hn).mp (hi'.trans hj'.symm)
    subst this
    rw [hp] at hj; cases hj
    exact e5 ▸ rfl
theorem di_hits {A : Around} {s : Shared} {ka kb : List (Int × Value)} {xs ys : List (Int × Int)} (ha : DI ka xs) (hb : DI kb ys) (hn : (kb.map (·.1)).Nodup) (hs : ∀ x ∈ xs, x ∈ ys) : KeqHits A s kb ka true := by
  have key : ∀ q ∈ ka, ∃ y, valueAt kb q.1 = some y ∧ SeqAt.EqAt A s q.2 y true := fun q hq => by
    obtain ⟨x, hx, e1, t, e2⟩ := all2_left ha hq
    obtain ⟨i, hi⟩ := List.getElem?_of_mem (hs x hx)
    obtain ⟨p, hp, e3, t', e4⟩ := hb.get hi
    refine ⟨p.2, ?_, ?_⟩
    · rw [e1, ← e3]; exact valueAt_get hp hn
    · rw [e2, e4]
      have := SeqAt.EqAt.int_int (A := A) (s := s) x.2 t x.2 t'
      rwa [beq_self_eq_true] at this
  clear ha
  induction ka with
  | nil => exact .nil
  | cons q r ih =>
    obtain ⟨y, h1, h2⟩ := key q (.head _)
    exact .hit h1 h2 (ih fun q hq => key q (.tail _ hq))
theorem pairs_any {p p' : Program} {w w' : World} {es : List DictEntry} {kvs : List (Int × Value)} (x : Pairs (intKind p w) es kvs) : Pairs (intKind p' w') es kvs := by
  induction x with
  | nil => exact .nil
  | cons h1 h2 _ ih => exact .cons h1 h2 ih
theorem dictOf_any {p p' : Program} {w w' : World} {h : Heap} {a : Addr} {kvs : List (Int × Value)} (x : h.DictOf (intKind p w) a kvs) : h.DictOf (intKind p' w') a kvs := by
  obtain ⟨o, es, ep, h1, h2, h3, h4, h5, h6⟩ := x
  exact ⟨o, es, ep, h1, h2, h3, h4, pairs_any h5, h6⟩
set_option maxHeartbeats 4000000 in
theorem law_callers {w : World} {A : Around} {s : Shared} {B : Heap} {L : Addr} {Q : Flow → Shared → Prop} {tl : List (Addr × Obj)} {m : Str → Option Value} {c0 c1 c2 c3 c5 c6 c7 c8 : Value} {e1 e2 e3 e4 : Int} {t1 t2 t3 t4 : Tok} {a d du : Addr} {o : Obj} {kvs : List (Int × Value)} {xs : List (Int × Int)} {due : List Int} {vs : List Value} {nn : Nat}
    (lo : (d == sysModules) = false) (ho : o.IsDictOf (intKind pw w) kvs) (hdi : DI kvs xs) (hs : ∀ x ∈ xs, x ∈ dueP due due.length) (hlen : xs.length = (dueP due due.length).length) (hz : due.length ≤ 6)
    (G : Env0 w A B 29) (F : Fr B L s.heap (fun y => if y = Str.ofString "entry" then some (.ref a) else m y)) (N : News B L s.heap ((a, tupOf #[.int e1 t1, .int e2 t2, .int e3 t3, .int e4 t4, .ref d]) :: (d, o) :: tl))
    (X : Mine.LT B L tl [some c0, some c1, some c2, some c3, some (.ref du), some c5, some c6, some c7, some c8]) (hm : (du, PySem.W.listOf (List.toArray vs) nn) ∈ tl) (hv : All2 IV vs due)
    (K : Later (∀ h' tk', Fr B L h' (fun y => if y = Str.ofString "entry" then some (.ref a) else m y) → News B L h' ((a, tupOf #[.int e1 t1, .int e2 t2, .int e3 t3, .int e4 t4, .ref d]) :: (d, o) :: tl) →
      wpAny (model pw w) A (execs (lawB 25) (lawE L)) Q (fun _ _ => False) { s with heap := h', toks := tk' })) :
    wpAny (model pw w) A (execs (lawB 24) (lawE L)) Q (fun _ _ => False) s := by
  obtain ⟨p, l9, me, mg, mb, T⟩ := G.T
  have XB := G.X
  have hh := G.hh
  have hvl := hv.length
  show wpAny _ _ (execs (_ :: _) _) _ _ _
  repeat walk1
  rename Fr _ _ _ _ => F1
  rename News _ _ _ _ => N1
  have tA : IsTup s.heap a #[.int e1 t1, .int e2 t2, .int e3 t3, .int e4 t4, .ref d] := News.isTup N1 (.head _)
  refine slice_tuple_from (a := 4) F1 N1 tA (by decide) (show (4 : Nat) ≤ 5 by decide) ?_ (hsz := by rw [sizeLine_eq]; exact (by decide : (5 : Nat) ≤ 16777216))
  intro h5 F5 N5
  clear F1 N1
  repeat walk1
  rename Fr _ _ _ _ => F2
  rename News _ _ _ _ => N2
  refine' dictCompJ (knd := intKind pw w) ?cl ?ce ?ki ?na ?xl ?body
  case cl => with_unfolding_all rfl
  case ce => decide
  case ki => rfl
  case na => decide
  case xl => rfl
  repeat walk1
  rename Fr _ _ _ _ => F3
  rename News _ _ _ _ => N3
  refine len_at N3 (.tail _ (.tail _ (.tail _ hm))) (by omega) fun t6 k6 => ?_
  rw [hvl]
  repeat walk1
  rename IsRange _ _ _ _ _ _ _ _ => hR
  rename Fr _ _ _ _ => F4
  rename News _ _ _ _ => N4
  have hnl := T.nolimit.keeps F4.keep
  have cD : Heap.IsCell _ (cellA L 4) (some (.ref du)) := let ⟨o, hm, hd⟩ := X.cells 4 _ rfl; ⟨o, (N4 _ (.tail _ (.tail _ (.tail _ hm)))).1, hd⟩
  have lD := News.isList N4 (.tail _ (.tail _ (.tail _ hm)))
  refine wpAny_mono (dcomp_range (knd := intKind pw w) (n := due.length) hh hR (range_small (by omega) (by omega) (by omega) (by omega)) (range_size (by omega)) (fun Dc j m nx => ∃ o kv2, nx = [(Dc, o)] ∧ o.IsDictOf (intKind pw w) kv2 ∧ (Dc == sysModules) = false ∧ DI kv2 (dueP due j)) (fun Dc o h1 h2 => ⟨o, [], rfl, h1, h2, .nil⟩) ?turn ?done) (fun _ _ x => ⟨hnl, x⟩) fun _ _ e => e
  case turn =>
    rintro Dc C I j t9 m1 nx h9 tk9 oI K E' hj hDI hnI ⟨o2, kv2, rfl, ho2, hlo, hdt⟩ F9 N9 hK
    have lD9 : Heap.IsList h9 du vs.toArray := lD.at fun o e => F9.keep _ _ e
    have hDI2 := hDI.symm
    have hlk := hdt.length
    have hlp := dueP_len due j
    have eg : due[j] = due.getD j 0 := by rw [List.getD_eq_getElem?_getD, List.getElem?_eq_getElem hj]; rfl
    unfold compEndD
    refine wpAny_tests_one ?_
    repeat walk1
    refine item_intsL lD9 hv (j := j) (by omega) (by omega) (List.getElem?_eq_getElem hj) fun t7 => ?_
    rw [eg]
    repeat walk1
    · have hpos : 0 < due.getD j 0 := by omega
      refine item_intsL lD9 hv (j := j) (by omega) (by omega) (List.getElem?_eq_getElem hj) fun t8 => ?_
      rw [eg, Int.zero_add]
      refine dictSet_K (knd := intKind pw w) F9 N9 (.head fun p hp => ?_) ho2 (k := ((j : Nat) : Int)) (by simp [intKind, Value.isInt]) (by rw [sizeLine_eq]; omega) ?_
      · rw [List.mem_singleton.mp hp]; exact hDI2
      intro h11 o11 F11 N11 ho11
      exact hK _ _ _ [(Dc, o11)] F11 N11 (fun p hp => by rw [List.mem_singleton.mp hp]; exact hDI) ⟨o11, _, rfl, ho11, hlo, di_next hdt hpos t8⟩
    · have hpos : ¬ 0 < due.getD j 0 := by omega
      exact hK _ _ _ [(Dc, o2)] F9 N9 (fun p hp => by rw [List.mem_singleton.mp hp]; exact hDI) ⟨o2, kv2, rfl, ho2, hlo, by rw [dueP_skip hpos]; exact hdt⟩
  case done =>
    rintro Dc C m1 nx h9 tk9 ⟨o2, kv2, rfl, ho2, hlo, hdt⟩ F9 N9
    have hne : d ≠ Dc := fun e => by
      have z := (N9 _ (.head _)).2.2
      have z2 := (N4 (d, o) (.tail _ (.tail _ (.head _)))).1
      rw [← e] at z
      exact absurd (z2.symm.trans z) (fun q => nomatch q)
    refine compDone F9 N9 fun h10 N10 k10 => ?_
    have F12 := Fr.stay F4 k10
    have N12 := News.join F4 N4 N10 k10
    clear F9 N9 k10 N10
    repeat walk1
    rename Fr _ _ _ _ => F13
    rename News _ _ _ _ => N13
    have hu0 : A.units < cLine := by have := G.hu; show _ < 9900; omega
    have hu1 : A.in1.units < cLine := by have := G.hu; show A.units + 1 < 9900; omega
    have hT1 : Heap.IsTuple _ (s.heap.objs.size + 1) #[.ref d] := ⟨_, (N13 _ (.tail _ (List.mem_append_right _ (.head _)))).1, rfl, _, rfl⟩
    have hT2 := News.isTup N13 (.head _)
    have zd := N13 (d, o) (.tail _ (List.mem_append_right _ (.tail _ (.tail _ (.head _)))))
    have zD := N13 (Dc, o2) (.tail _ (List.mem_append_left _ (.head _)))
    have d1 := Heap.dictOf_iff.mpr ⟨_, zd.1, ho⟩
    have d2 := Heap.dictOf_iff.mpr ⟨_, zD.1, ho2⟩
    have hl1 := hdi.length
    have hl2 := hdt.length
    have hc : (!((List.range (min (#[Value.ref d] : Array Value).size (#[Value.ref Dc] : Array Value).size)).all (fun _ => true) && (#[Value.ref d] : Array Value).size == (#[Value.ref Dc] : Array Value).size)) = false := rfl
    refine SeqAt.RcNeAt.tuples (items := #[.ref d]) (items2 := #[.ref Dc]) (e := fun _ => true) ?rt1 ?rt2 hu0 ?rhe pw w _ _ ?rq
    case rt1 => exact hT1
    case rt2 => exact hT2
    case rhe =>
      intro j h1 h2
      obtain rfl : j = 0 := by have h1 : j < 1 := h1; omega
      refine SeqAt.EqAt.of_refs (l := d) (b := Dc) ?_ fun prog w' E Q hq => keq_eq (knd := intKind prog w') lo hlo (dictOf_any d1) (dictOf_any d2) hu1 (fun _ => di_hits hdi hdt (keysNodup_of_isDictOf ho2) hs) ?_
      · exact hne
      · have el : (kvs.length == kv2.length && true) = true := by rw [hl1, hl2, hlen]; simp
        rw [el]; exact hq
    rw [hc]
    iterate 4 walk1
    exact K.go _ _ F13 fun p hp => N13 p (.tail _ (List.mem_append_right _ (.tail _ hp)))
end Mine
end
end
section
open PySem PySem.W PyProof.Rows PySem.Calls PySem.Spec
set_option Elab.async false
set_option maxRecDepth 100000
noncomputable section
namespace Mine
theorem rules_W32 : True := by
  k_with_none
  w_top off
  k_with "storeName" => (k_here; with_reducible show wpAny _ _ (storeName _ _ (Value.int _ (Shared.toks _))) _ _ _; k_dflt (refine storeX_Li (by k_asm) (by k_asm) (fun t_kw h_kw F_kw N_kw => ?_) rfl rfl; try k_sweep))
  k_with "storeName" => (k_here; with_reducible show wpAny _ _ (storeName _ _ (Value.str _ (Shared.toks _))) _ _ _; k_dflt (refine storeX_Ls (by k_asm) (by k_asm) (fun t_kw h_kw F_kw N_kw => ?_) rfl rfl; try k_sweep))
  k_with "eval Name" => (k_here; (with_reducible show wpAny _ _ (eval (Expr.Name _ _) (compEnvC _ _ _ _)) _ _ _); k_dflt (first | (refine' ldC_own ?kw_F ?kw_h ?_ ?kw_a ?kw_b; (case kw_a => rfl); (case kw_b => rfl); (case kw_F => k_asm); (case kw_h => rfl); k_whole) | (refine' ldC_cell ?kw_F ?kw_h ?kw_g ?_ ?kw_a ?kw_b; (case kw_a => rfl); (case kw_b => rfl); (case kw_F => k_asm); (case kw_h => rfl); (case kw_g => k_asm); k_whole) | (refine' ldC_free ?kw_F ?kw_h ?kw_g ?_ ?kw_a ?kw_b; (case kw_a => rfl); (case kw_b => rfl); (case kw_F => k_asm); (case kw_h => rfl); (case kw_g => k_asm); k_whole) | (refine' LCgL.ld_global ?kw_F ?kw_X ?kw_T ?kw_e ?_ ?kw_z ?kw_a ?kw_b; (case kw_z => rfl); (case kw_a => rfl); (case kw_b => rfl); (case kw_F => k_asm); (case kw_X => k_asm); (case kw_T => k_asm); (case kw_e => k_is); k_whole) | (refine' LCgL.ld_built ?kw_F ?kw_X ?kw_T ?kw_e ?kw_v ?kw_n ?_ ?kw_z ?kw_y ?kw_a ?kw_b; (case kw_z => rfl); (case kw_y => rfl); (case kw_a => rfl); (case kw_b => rfl); (case kw_F => k_asm); (case kw_X => k_asm); (case kw_T => k_asm); (case kw_e => k_is); (case kw_v => boot_fast); (case kw_n => decide); k_whole)))
  k_with "eval Name" => (k_here; (with_reducible show wpAny _ _ (eval (Expr.Name _ _) (envOfC _ lawSc _ _ _)) _ _ _); k_dflt (refine' ld_lawI ?kw_X ?kw_N ?kw_s ?kw_v ?_ ?kw_c ?kw_k ?kw_x ?kw_b; (case kw_c => rfl); (case kw_k => rfl); (case kw_x => rfl); (case kw_b => decide); (case kw_X => with_reducible assumption); (case kw_N => k_asm); (case kw_s => (intro p_kw hp'; repeat (first | exact hp' | apply List.Mem.tail))); (case kw_v => rfl); k_whole))
  k_with "assign Tuple" => (k_here; (with_reducible show wpAny _ _ (assign (Expr.Tuple _ _ _) _ (Value.ref _)) _ _ _); k_dflt (refine' unpackN_ ?kw_F ?kw_N ?kw_T ?kw_k1 ?kw_k2 ?kw_k3 ?_; (case kw_F => k_asm); (case kw_N => k_asm); (case kw_T => first | k_asm | (refine News.isTup (by k_asm) (by k_mem)) | exact tup_at (by k_asm) (by k_asm)); (case kw_k1 => first | exact rfl | k_asm); (case kw_k2 => exact rfl); (case kw_k3 => exact rfl)); intro h_kw F_kw N_kw; (try k_sweep))
  trivial
theorem fillK_W32 : (fun (_ : OpenLaw) (_ : Params → Frag) => True) PySem.Challenge.rw_xe0047_01 KF := by
  k_fill
  trivial
theorem tab_vals {kvs : List (Int × Value)} {xs : List (Int × Int)} (x : DI kvs xs) : All2 (fun p y => IV p.2 y) kvs (xs.map (·.2)) := by
  induction x with
  | nil => exact .nil
  | cons h _ ih => exact .cons h.2 ih
set_option maxHeartbeats 4000000 in
theorem law_return {w : World} {A : Around} {s : Shared} {B : Heap} {L : Addr} {Q : Flow → Shared → Prop} {tl : List (Addr × Obj)} {m : Str → Option Value} {c0 c1 c2 c4 c5 c6 c7 c8 : Value} {e1 e2 e3 e4 : Int} {t1 t2 t3 t4 : Tok} {a d hi : Addr} {o : Obj} {kvs : List (Int × Value)} {xs : List (Int × Int)} {hs : List Nat} {n : Nat} {vs : List Value} {nn : Nat} (H : Hits n hs)
    (lo : (d == sysModules) = false) (ho : o.IsDictOf (intKind pw w) kvs) (hdi : DI kvs xs) (hsum : (xs.map (·.2)).sum = ((hs.length : Nat) : Int))
    (G : Env0 w A B 29) (F : Fr B L s.heap (fun y => if y = Str.ofString "entry" then some (.ref a) else m y)) (N : News B L s.heap ((a, tupOf #[.int e1 t1, .int e2 t2, .int e3 t3, .int e4 t4, .ref d]) :: (d, o) :: tl))
    (X : Mine.LT B L tl [some c0, some c1, some c2, some (.ref hi), some c4, some c5, some c6, some c7, some c8]) (hm : (hi, PySem.W.listOf (List.toArray vs) nn) ∈ tl) (hv : All2 IV vs (toI hs))
    (K : Later (∀ h' tk' (m : Str → Option Value), Fr B L h' m → News B L h' tl → Q (.ret (.bool true)) { s with heap := h', toks := tk' })) :
    wpAny (model pw w) A (execs (lawB 25) (lawE L)) Q (fun _ _ => False) s := by
  obtain ⟨p, l9, me, mg, mb, T⟩ := G.T
  have XB := G.X
  have hh := G.hh
  have hvl := hv.length
  have hfew := H.few
  rw [List.length_map] at hvl
  show wpAny _ _ (execs (_ :: _) _) _ _ _
  repeat walk1
  rename Fr _ _ _ _ => F1
  rename News _ _ _ _ => N1
  refine calls_spec (dd := 28) d kvs (xs.map (·.2)) (Heap.dictOf_iff.mpr ⟨_, (N1 _ (.tail _ (.head _))).1, ho⟩) (tab_vals hdi) lo G F1 ?_
  intro h2 tk2 t5 k2
  have F2 := Fr.stay F1 k2
  have N2 := News.sub (News.stay N1 k2) fun p hp => List.Mem.tail _ (List.Mem.tail _ hp)
  clear F1 N1 k2
  rw [hsum]
  repeat walk1
  rename Fr _ _ _ _ => F3
  rename News _ _ _ _ => N3
  refine len_at N3 hm (by omega) fun t6 k6 => ?_
  rw [hvl]
  iterate 1 walk1
  rw [show (((hs.length : Nat) : Int) == ((hs.length : Nat) : Int)) = true from beq_self_eq_true _]
  exact K.go _ _ _ F3 N3
end Mine
end
end
section
set_option Elab.async false
set_option maxRecDepth 100000
open PySem
noncomputable section
namespace Mine
/-- a row of numbers at q, the lowest first -/
noncomputable def evL (q : Int) : List Int → Int
  | [] => 0
  | x :: r => x + q * evL q r
theorem valL_ev (n : Nat) : ∀ l : List Int, valL n l = evL (2 ^ n) l
  | [] => rfl
  | x :: r => by show x + 2 ^ n * valL n r = x + 2 ^ n * evL (2 ^ n) r; rw [valL_ev n r]
noncomputable def addL : List Int → List Int → List Int
  | [], q => q
  | x :: p, [] => x :: p
  | x :: p, y :: q => (x + y) :: addL p q
theorem ev_add (q : Int) : ∀ a b : List Int, evL q (addL a b) = evL q a + evL q b
  | [], b => by simp [addL, evL]
  | x :: p, [] => by simp [addL, evL]
  | x :: p, y :: r => by
    show x + y + q * evL q (addL p r) = x + q * evL q p + (y + q * evL q r)
    rw [ev_add q p r, Int.mul_add]; omega
theorem ev_map (q k : Int) : ∀ a : List Int, evL q (a.map (k * ·)) = k * evL q a
  | [] => by simp [evL]
  | x :: p => by
    show k * x + q * evL q (p.map (k * ·)) = k * (x + q * evL q p)
    rw [ev_map q k p, Int.mul_add, ← Int.mul_assoc, ← Int.mul_assoc, Int.mul_comm q k]
noncomputable def mulL : List Int → List Int → List Int
  | [], _ => []
  | x :: p, q => addL (q.map (x * ·)) (0 :: mulL p q)
theorem ev_mul (q : Int) : ∀ a b : List Int, evL q (mulL a b) = evL q a * evL q b
  | [], b => by simp [mulL, evL]
  | x :: p, b => by
    show evL q (addL _ _) = (x + q * evL q p) * evL q b
    rw [ev_add, ev_map]
    show _ + (0 + q * evL q (mulL p b)) = _
    rw [ev_mul q p b, Int.add_mul, Int.mul_assoc, Int.zero_add]
theorem ev_zeros (q : Int) : ∀ (l : List Int) (k : Nat), evL q (l ++ List.replicate k 0) = evL q l
  | [], 0 => rfl
  | [], k + 1 => by
    show 0 + q * evL q ([] ++ List.replicate k 0) = 0
    rw [ev_zeros q [] k]; simp [evL]
  | x :: r, k => by show x + q * evL q (r ++ _) = x + q * evL q r; rw [ev_zeros q r k]
/-- three counts: of f, of i, of l -/
noncomputable abbrev C3 := Nat × Nat × Nat
noncomputable def getC (c : C3) (y : Nat) : Nat := if y = 102 then c.1 else if y = 105 then c.2.1 else if y = 108 then c.2.2 else 0
noncomputable def decC (c : C3) (y : Nat) : C3 := (if y = 102 then c.1 - 1 else c.1, if y = 105 then c.2.1 - 1 else c.2.1, if y = 108 then c.2.2 - 1 else c.2.2)
noncomputable def incC (c : C3) (y : Nat) : C3 := (if y = 102 then c.1 + 1 else c.1, if y = 105 then c.2.1 + 1 else c.2.1, if y = 108 then c.2.2 + 1 else c.2.2)
noncomputable def cnts (l : List Nat) : C3 := (l.count 102, l.count 105, l.count 108)
noncomputable def sumC (c : C3) : Nat := c.1 + c.2.1 + c.2.2
theorem cnts_cons (x : Nat) (l : List Nat) (hx : x ∈ filL) : cnts (x :: l) = incC (cnts l) x := by
  simp only [List.mem_cons, List.not_mem_nil, or_false] at hx
  rcases hx with rfl | rfl | rfl <;> simp [cnts, incC]
theorem cnts_sum : ∀ (l : List Nat), (∀ c ∈ l, c ∈ filL) → sumC (cnts l) = l.length
  | [], _ => rfl
  | x :: r, h => by
    have := cnts_sum r fun c hc => h c (.tail _ hc)
    rw [cnts_cons x r (h x (.head _)), List.length_cons, ← this]
    have hx := h x (.head _)
    simp only [List.mem_cons, List.not_mem_nil, or_false] at hx
    rcases hx with rfl | rfl | rfl <;> simp [incC, sumC] <;> omega
/-- the ways for the rows, and the moments -/
noncomputable def figC (a b : Nat) : List Int := figL a b (min a b + 1)
noncomputable def waysC (a c : C3) : List Int := mulL (mulL (figC a.1 c.1) (figC a.2.1 c.2.1)) (figC a.2.2 c.2.2)
noncomputable def momC (a c : C3) (j : Nat) : Int := (waysC a c).getD j 0 * facN (sumC c - j)
noncomputable def alC (c : C3) : Int := facN c.1 * facN c.2.1 * facN c.2.2
noncomputable def c3s (n : Nat) : List C3 := (List.range (n + 1)).flatMap fun a => (List.range (n + 1 - a)).map fun b => (a, b, n - a - b)
theorem mem_c3s {c : C3} {n : Nat} (h : sumC c = n) : c ∈ c3s n := by
  obtain ⟨a, b, d⟩ := c
  have h : a + b + d = n := h
  refine List.mem_flatMap.mpr ⟨a, List.mem_range.mpr (by omega), List.mem_map.mpr ⟨b, List.mem_range.mpr (by omega), ?_⟩⟩
  rw [show n - a - b = d by omega]
/-- the value before -/
noncomputable def prevM (f : Nat → Int) : Nat → Int
  | 0 => 0
  | j + 1 => f j
noncomputable def stepOk (n : Nat) : Bool := (c3s n).all fun a => (c3s (n + 1)).all fun c => filL.all fun x => (List.range 6).all fun j =>
  (filL.map fun y => (getC c y : Int) * momC a (decC c y) j).sum + prevM (fun j => (getC c x : Int) * momC a (decC c x) j) j == momC (incC a x) c j
end Mine
namespace Mine
theorem step_all : (List.range 5).all stepOk = true := by decide +kernel
theorem step_mom {a c : C3} {x j n : Nat} (ha : sumC a = n) (hc : sumC c = n + 1) (hn : n ≤ 4) (hx : x ∈ filL) (hj : j < 6) :
    (filL.map fun y => (getC c y : Int) * momC a (decC c y) j).sum + prevM (fun j => (getC c x : Int) * momC a (decC c x) j) j = momC (incC a x) c j := by
  have h1 := List.all_eq_true.mp step_all n (List.mem_range.mpr (by omega))
  have h2 := List.all_eq_true.mp (List.all_eq_true.mp (List.all_eq_true.mp (List.all_eq_true.mp h1 a (mem_c3s ha)) c (mem_c3s hc)) x hx) j (List.mem_range.mpr hj)
  exact eq_of_beq h2
noncomputable def baseOk : Bool := (List.range 6).all fun j => momC (0, 0, 0) (0, 0, 0) j == if j = 0 then 1 else 0
theorem base_ok : baseOk = true := by decide +kernel
noncomputable def alOk (n : Nat) : Bool := (c3s (n + 1)).all fun c => filL.all fun y => getC c y == 0 || alC c == (getC c y : Int) * alC (decC c y)
theorem al_all : (List.range 5).all alOk = true := by decide +kernel
theorem al_dec {c : C3} {n y : Nat} (hc : sumC c = n + 1) (hn : n ≤ 4) (hy : y ∈ filL) (h0 : getC c y ≠ 0) : alC c = (getC c y : Int) * alC (decC c y) := by
  have h := List.all_eq_true.mp (List.all_eq_true.mp (List.all_eq_true.mp al_all n (List.mem_range.mpr (by omega))) c (mem_c3s hc)) y hy
  rcases Bool.or_eq_true_iff.mp h with h | h
  · exact absurd (eq_of_beq h) h0
  · exact eq_of_beq h
theorem dec_sum {c : C3} {n y : Nat} (hc : sumC c = n + 1) (hy : y ∈ filL) (h0 : getC c y ≠ 0) : sumC (decC c y) = n := by
  obtain ⟨a, b, d⟩ := c
  simp only [List.mem_cons, List.not_mem_nil, or_false] at hy
  have hc : a + b + d = n + 1 := hc
  rcases hy with rfl | rfl | rfl <;> simp [getC] at h0 <;> simp [decC, sumC] <;> omega
/-- the rows that are left -/
noncomputable def sfx (c : C3) : Nat → List (List Nat)
  | 0 => [[]]
  | k + 1 => filL.flatMap fun y => if getC c y = 0 then [] else (sfx (decC c y) k).map (y :: ·)
/-- the places where two rows agree -/
noncomputable def hitL : List Nat → List Nat → Nat
  | x :: u, y :: v => (if x = y then 1 else 0) + hitL u v
  | _, _ => 0
noncomputable def chs : Nat → Nat → Int
  | _, 0 => 1
  | 0, _ + 1 => 0
  | h + 1, j + 1 => chs h (j + 1) + chs h j
noncomputable def EL (hs : List Nat) (j : Nat) : Int := (hs.map (chs · j)).sum
theorem EL_nil (j : Nat) : EL [] j = 0 := rfl
theorem EL_app (a b : List Nat) (j : Nat) : EL (a ++ b) j = EL a j + EL b j := by simp [EL]
theorem chs_zero (h : Nat) : chs h 0 = 1 := by cases h <;> rfl
theorem EL_up (hs : List Nat) (j : Nat) : EL (hs.map (1 + ·)) j = EL hs j + prevM (EL hs) j := by
  induction hs with
  | nil => cases j <;> rfl
  | cons h r ih =>
    have e : EL ((h :: r).map (1 + ·)) j = chs (1 + h) j + EL (r.map (1 + ·)) j := rfl
    have e2 : ∀ j, EL (h :: r) j = chs h j + EL r j := fun _ => rfl
    rw [e, ih, e2 j, Nat.add_comm 1 h]
    cases j with
    | zero => simp only [chs_zero, prevM]; omega
    | succ j =>
      show chs h (j + 1) + chs h j + (EL r (j + 1) + EL r j) = chs h (j + 1) + EL r (j + 1) + EL (h :: r) j
      rw [e2 j]; omega
theorem EL_flat {α : Type} (f : α → List Nat) (j : Nat) : ∀ l : List α, EL (l.flatMap f) j = (l.map fun x => EL (f x) j).sum
  | [] => rfl
  | x :: r => by rw [List.flatMap_cons, EL_app, EL_flat f j r, List.map_cons, List.sum_cons]
theorem sum_mul (k : Int) {α : Type} (f : α → Int) : ∀ l : List α, k * (l.map f).sum = (l.map fun x => k * f x).sum
  | [] => by simp
  | x :: r => by rw [List.map_cons, List.sum_cons, Int.mul_add, sum_mul k f r]; rfl
noncomputable def hitsC (u : List Nat) (c : C3) : List Nat := (sfx c u.length).map (hitL u)
theorem hits_cons (x : Nat) (u : List Nat) (c : C3) : hitsC (x :: u) c = filL.flatMap fun y => if getC c y = 0 then [] else (hitsC u (decC c y)).map ((if x = y then 1 else 0) + ·) := by
  show ((filL.flatMap _).map (hitL (x :: u))) = _
  rw [List.map_flatMap]
  congr 1
  funext y
  by_cases h : getC c y = 0
  · rw [if_pos h, if_pos h]; rfl
  · rw [if_neg h, if_neg h, List.map_map, hitsC, List.map_map]; rfl
/-- Kaplansky and Riordan: the ways for the rows, times the ways to lay the rest -/
theorem moments_are : ∀ (u : List Nat) (c : C3), (∀ x ∈ u, x ∈ filL) → sumC c = u.length → u.length ≤ 5 → ∀ j, j < 6 → alC c * EL (hitsC u c) j = momC (cnts u) c j
  | [], c, _, hc, _, j, hj => by
    obtain ⟨a, b, d⟩ := c
    have hc : a + b + d = 0 := hc
    obtain ⟨rfl, rfl, rfl⟩ : a = 0 ∧ b = 0 ∧ d = 0 := by omega
    have h := eq_of_beq (List.all_eq_true.mp base_ok j (List.mem_range.mpr hj))
    show _ = momC (0, 0, 0) (0, 0, 0) j
    rw [h]
    show alC (0, 0, 0) * (chs 0 j + 0) = _
    cases j with
    | zero => decide
    | succ j => rw [if_neg (by omega)]; show _ * (0 + 0) = _; simp
  | x :: u, c, hu, hc, hl, j, hj => by
    have hx := hu x (.head _)
    have hu' : ∀ y ∈ u, y ∈ filL := fun y hy => hu y (.tail _ hy)
    rw [List.length_cons] at hc hl
    rw [hits_cons, EL_flat, sum_mul, cnts_cons x u hx, ← step_mom (cnts_sum u hu') hc (by omega) hx hj]
    have key : ∀ y ∈ filL, ∀ j < 6, alC c * EL (if getC c y = 0 then [] else (hitsC u (decC c y)).map ((if x = y then 1 else 0) + ·)) j =
        (getC c y : Int) * momC (cnts u) (decC c y) j + (if x = y then prevM (fun j => (getC c y : Int) * momC (cnts u) (decC c y) j) j else 0) := by
      intro y hy j hj
      by_cases h0 : getC c y = 0
      · rw [if_pos h0, h0, EL_nil]
        cases j <;> simp [prevM]
      · have ih := moments_are u (decC c y) hu' (dec_sum hc hy h0) (by omega)
        rw [if_neg h0, al_dec hc (by omega) hy h0]
        by_cases hxy : x = y
        · rw [if_pos hxy, if_pos hxy, EL_up, Int.mul_add, Int.mul_assoc, ih j hj]
          cases j with
          | zero => simp [prevM]
          | succ j => show _ + _ * EL (hitsC u (decC c y)) j = _; rw [Int.mul_assoc, ih j (by omega)]; rfl
        · rw [if_neg hxy, if_neg hxy, show (fun z : Nat => 0 + z) = id from funext fun z => Nat.zero_add z, List.map_id, Int.mul_assoc, ih j hj, Int.add_zero]
    have k1 := key 102 (by decide) j hj
    have k2 := key 105 (by decide) j hj
    have k3 := key 108 (by decide) j hj
    simp only [List.map_cons, List.map_nil, List.sum_cons, List.sum_nil]
    rw [k1, k2, k3]
    simp only [List.mem_cons, List.not_mem_nil, or_false] at hx
    rcases hx with rfl | rfl | rfl
    · rw [if_pos rfl, if_neg (by decide), if_neg (by decide)]; omega
    · rw [if_neg (by decide), if_pos rfl, if_neg (by decide)]; omega
    · rw [if_neg (by decide), if_neg (by decide), if_pos rfl]; omega
end Mine
end
end
section
set_option Elab.async false
set_option maxRecDepth 100000
open PySem
noncomputable section
namespace Mine
noncomputable def pairOk (n : Nat) (a c : C3) : Bool :=
  let w := waysC a c
  decide (w.length ≤ n + 1) && w.all (fun y => decide (0 ≤ y) && decide (y < 1024)) && (match w.reverse with | [] => false | y :: _ => decide (0 < y)) &&
    (List.range w.length).all (fun k => decide (0 ≤ w.getD k 0 * facN (n - k)) && decide (w.getD k 0 * facN (n - k) < 2 ^ 20)) && decide (0 < momC a c 0) && decide (1 ≤ alC c) && decide (alC c ≤ 120)
noncomputable def finOk (n : Nat) : Bool := (c3s n).all fun a => (c3s n).all fun c => pairOk n a c
theorem fin_all : (List.range 6).all finOk = true := by decide +kernel
theorem pair_ok {n : Nat} {a c : C3} (hn : n ≤ 5) (ha : sumC a = n) (hc : sumC c = n) : pairOk n a c = true :=
  List.all_eq_true.mp (List.all_eq_true.mp (List.all_eq_true.mp fin_all n (List.mem_range.mpr (by omega))) a (mem_c3s ha)) c (mem_c3s hc)
theorem top_of {w : List Int} (h : (match w.reverse with | [] => false | y :: _ => decide (0 < y)) = true) : ∃ l y, w = l ++ [y] ∧ 0 < y := by
  cases e : w.reverse with
  | nil => rw [e] at h; cases h
  | cons y r =>
    rw [e] at h
    refine ⟨r.reverse, y, ?_, of_decide_eq_true h⟩
    rw [← List.reverse_reverse w, e, List.reverse_cons]
/-- a product over letters, each once -/
theorem prod_dd (G : Nat → Int) : ∀ (ds : List Nat), ds.Nodup → (∀ c ∈ ds, c ∈ filL) → (∀ c ∈ filL, c ∉ ds → G c = 1) → ds.foldl (fun p c => p * G c) 1 = G 102 * G 105 * G 108
  | [], _, _, h => by
    have h1 := h 102 (by decide) (by simp)
    have h2 := h 105 (by decide) (by simp)
    have h3 := h 108 (by decide) (by simp)
    rw [h1, h2, h3]; rfl
  | [a], hn, hs, h => by
    have ha := hs a (by simp)
    simp only [List.mem_cons, List.not_mem_nil, or_false] at ha
    rcases ha with rfl | rfl | rfl
    · have h2 := h 105 (by decide) (by simp)
      have h3 := h 108 (by decide) (by simp)
      simp [h2, h3]
    · have h2 := h 102 (by decide) (by simp)
      have h3 := h 108 (by decide) (by simp)
      simp [h2, h3]
    · have h2 := h 102 (by decide) (by simp)
      have h3 := h 105 (by decide) (by simp)
      simp [h2, h3]
  | [a, b], hn, hs, h => by
    have ha := hs a (by simp)
    have hb := hs b (by simp)
    simp only [List.mem_cons, List.not_mem_nil, or_false] at ha hb
    rcases ha with rfl | rfl | rfl <;> rcases hb with rfl | rfl | rfl <;> first
      | (exfalso; revert hn; decide)
      | (have h2 := h 102 (by decide) (by simp); simp [h2, Int.mul_comm, Int.mul_left_comm, Int.mul_assoc]; done)
      | (have h2 := h 105 (by decide) (by simp); simp [h2, Int.mul_comm, Int.mul_left_comm, Int.mul_assoc]; done)
      | (have h2 := h 108 (by decide) (by simp); simp [h2, Int.mul_comm, Int.mul_left_comm, Int.mul_assoc]; done)
  | [a, b, c], hn, hs, h => by
    have ha := hs a (by simp)
    have hb := hs b (by simp)
    have hc := hs c (by simp)
    simp only [List.mem_cons, List.not_mem_nil, or_false] at ha hb hc
    rcases ha with rfl | rfl | rfl <;> rcases hb with rfl | rfl | rfl <;> rcases hc with rfl | rfl | rfl <;> first
      | (exfalso; revert hn; decide)
      | (simp [Int.mul_comm, Int.mul_left_comm, Int.mul_assoc]; done)
  | a :: b :: c :: d :: r, hn, hs, h => by
    exfalso
    have ha := hs a (by simp)
    have hb := hs b (by simp)
    have hc := hs c (by simp)
    have hd := hs d (by simp)
    simp only [List.mem_cons, List.not_mem_nil, or_false] at ha hb hc hd
    simp only [List.nodup_cons, List.mem_cons, not_or] at hn
    omega
theorem foldl_map_mul {α : Type} (F : α → Int) (g : Nat → α) : ∀ (ds : List Nat) (p : Int), (ds.map g).foldl (fun p q => p * F q) p = ds.foldl (fun p c => p * F (g c)) p
  | [], _ => rfl
  | x :: r, p => by rw [List.map_cons, List.foldl_cons, List.foldl_cons, foldl_map_mul F g r]
theorem count_absent {f u : List Nat} {c : Nat} (h : c ∉ dd (f ++ u)) : f.count c = 0 ∧ u.count c = 0 := by
  have h1 : c ∉ f ++ u := fun q => h ((dd_mem c _).mpr q)
  rw [List.mem_append, not_or] at h1
  exact ⟨List.count_eq_zero.mpr h1.1, List.count_eq_zero.mpr h1.2⟩
theorem prod_TT {wd : Nat} {f u : List Nat} (hf : ∀ c ∈ f, c ∈ filL) (hu : ∀ c ∈ u, c ∈ filL) : prodL wd (TT f u) = valL wd (waysC (cnts f) (cnts u)) := by
  have hs : ∀ c ∈ dd (f ++ u), c ∈ filL := fun c hc => (List.mem_append.mp ((dd_mem c _).mp hc)).elim (hf c) (hu c)
  have e := prod_dd (fun c => valL wd (figC (f.count c) (u.count c))) (dd (f ++ u)) (dd_nodup _) hs (fun c _ hn => by
    obtain ⟨h1, h2⟩ := count_absent hn
    rw [h1, h2]
    show (1 : Int) + 2 ^ wd * 0 = 1
    simp)
  unfold prodL TT asT
  rw [foldl_map_mul (ltrL wd)]
  refine Eq.trans ?_ (e.trans ?_)
  · rfl
  · rw [valL_ev, valL_ev, valL_ev, valL_ev]
    unfold waysC
    rw [ev_mul, ev_mul]
    rfl
theorem alike_TT {f u : List Nat} (hf : ∀ c ∈ f, c ∈ filL) (hu : ∀ c ∈ u, c ∈ filL) : alikeL (TT f u) = alC (cnts u) := by
  have hs : ∀ c ∈ dd (f ++ u), c ∈ filL := fun c hc => (List.mem_append.mp ((dd_mem c _).mp hc)).elim (hf c) (hu c)
  have e := prod_dd (fun c => facN (u.count c)) (dd (f ++ u)) (dd_nodup _) hs (fun c _ hn => by
    obtain ⟨h1, h2⟩ := count_absent hn
    rw [h2]; rfl)
  unfold alikeL TT asT
  rw [foldl_map_mul (fun q : Str × (Int × Int) => facN q.2.2.toNat)]
  exact e
theorem small_TT {f u : List Nat} (lf : f.length ≤ 5) (lu : u.length ≤ 5) : Small (TT f u) := ⟨fun q hq => by
  unfold TT asT at hq
  obtain ⟨c, _, rfl⟩ := List.mem_map.mp hq
  have h1 := List.count_le_length (a := c) (l := f)
  have h2 := List.count_le_length (a := c) (l := u)
  dsimp only
  omega⟩
end Mine
end
end
section
set_option Elab.async false
set_option maxRecDepth 100000
open PySem
noncomputable section
namespace Mine
section
variable {n : Nat} {f u : List Nat}
theorem Words.pair (W : Words n f u) : pairOk n (cnts f) (cnts u) = true :=
  pair_ok W.n5 ((cnts_sum f W.hf).trans W.lf) ((cnts_sum u W.hu).trans W.lu)
theorem prod_ok (W : Words n f u) {wd : Nat} (h1 : 10 ≤ wd) (h2 : wd ≤ 2509) : Prod n wd (TT f u) (waysC (cnts f) (cnts u)) := by
  have h := W.pair
  unfold pairOk at h
  simp only [Bool.and_eq_true] at h
  obtain ⟨⟨⟨⟨⟨⟨a1, a2⟩, a3⟩, a4⟩, a5⟩, a6⟩, a7⟩ := h
  have n5 := W.n5
  have lf := W.lf
  have lu := W.lu
  refine ⟨h1, h2, small_TT (by omega) (by omega), ?_, prod_TT W.hf W.hu, of_decide_eq_true a1, fun y hy => ?_, top_of a3⟩
  · have e := tab_set (fun c => (((f.count c : Nat) : Int), ((u.count c : Nat) : Int))) (f ++ u)
    have hl := set_len (fun c => (((f.count c : Nat) : Int), ((u.count c : Nat) : Int))) (f ++ u) []
    rw [e, List.length_nil, List.length_append] at hl
    have : (TT f u).length ≤ 0 + (f.length + u.length) := hl
    omega
  · have := List.all_eq_true.mp a2 y hy
    rw [Bool.and_eq_true] at this
    exact ⟨of_decide_eq_true this.1, of_decide_eq_true this.2⟩
theorem mom_get (W : Words n f u) (j : Nat) : (momL n (waysC (cnts f) (cnts u))).getD j 0 = momC (cnts f) (cnts u) j := by
  unfold momL momC
  rw [(cnts_sum u W.hu).trans W.lu]
  by_cases h : j < (waysC (cnts f) (cnts u)).length
  · rw [List.getD_eq_getElem?_getD, List.getElem?_map, List.getElem?_range h]; rfl
  · have e : (waysC (cnts f) (cnts u)).getD j 0 = 0 := by rw [List.getD_eq_getElem?_getD, List.getElem?_eq_none (by omega)]; rfl
    rw [e, Int.zero_mul, List.getD_eq_getElem?_getD, List.getElem?_eq_none (by rw [List.length_map, List.length_range]; omega)]
    rfl
theorem moms_ok (W : Words n f u) : Moms n (momL n (waysC (cnts f) (cnts u))) (alC (cnts u)) := by
  have h := W.pair
  unfold pairOk at h
  simp only [Bool.and_eq_true] at h
  obtain ⟨⟨⟨⟨⟨⟨a1, a2⟩, a3⟩, a4⟩, a5⟩, a6⟩, a7⟩ := h
  have n5 := W.n5
  have al2 := of_decide_eq_true a7
  refine ⟨?_, fun m hm => ?_, of_decide_eq_true a6, Int.lt_of_le_of_lt al2 (by decide)⟩
  · unfold momL
    rw [List.length_map, List.length_range]
    have := of_decide_eq_true a1
    omega
  · unfold momL at hm
    obtain ⟨k, hk, rfl⟩ := List.mem_map.mp hm
    have := List.all_eq_true.mp a4 k hk
    rw [Bool.and_eq_true] at this
    exact ⟨of_decide_eq_true this.1, of_decide_eq_true this.2⟩
theorem take4 (ms : List Int) : (ms ++ [0, 0, 0, 0]).take 4 = [ms.getD 0 0, ms.getD 1 0, ms.getD 2 0, ms.getD 3 0] := by
  match ms with
  | [] => rfl
  | [_] => rfl
  | [_, _] => rfl
  | [_, _, _] => rfl
  | _ :: _ :: _ :: _ :: _ => rfl
end
/-- what trying out all rows tells, and the ways -/
structure Tried (n : Nat) (f u : List Nat) (hs : List Nat) : Prop where
  hits : Hits n hs
  mom : ∀ j, j < 6 → alC (cnts u) * EL hs j = momC (cnts f) (cnts u) j
section
variable {n : Nat} {f u : List Nat} {hs : List Nat}
/-- (1 + (q-1))^h -/
theorem pow_chs (q : Int) : ∀ (h N : Nat), h < N → q ^ h = ((List.range N).map fun j => chs h j * (q - 1) ^ j).sum := by
  have sum0 : ∀ (l : List Nat) (g : Nat → Int), (∀ x ∈ l, g x = 0) → (l.map g).sum = 0 := fun l g hg => by
    induction l with
    | nil => rfl
    | cons x r ih => rw [List.map_cons, List.sum_cons, hg x (.head _), ih fun y hy => hg y (.tail _ hy)]; rfl
  have sumA : ∀ (l : List Nat) (g k : Nat → Int), (l.map fun x => g x + k x).sum = (l.map g).sum + (l.map k).sum := fun l g k => by
    induction l with
    | nil => rfl
    | cons x r ih => rw [List.map_cons, List.sum_cons, ih, List.map_cons, List.sum_cons, List.map_cons, List.sum_cons]; omega
  have chs_big : ∀ h j, h < j → chs h j = 0 := fun h => by
    induction h with
    | zero => intro j hj; cases j with
      | zero => omega
      | succ j => rfl
    | succ h ih => intro j hj; cases j with
      | zero => omega
      | succ j => show chs h (j + 1) + chs h j = 0; rw [ih _ (by omega), ih _ (by omega)]; rfl
  intro h
  induction h with
  | zero =>
    intro N hN
    obtain ⟨N, rfl⟩ : ∃ M, N = M + 1 := ⟨N - 1, by omega⟩
    rw [List.range_succ_eq_map, List.map_cons, List.sum_cons, List.map_map]
    rw [sum0 (List.range N) _ fun x _ => by show chs 0 (x + 1) * _ = 0; rw [show chs 0 (x + 1) = 0 from rfl, Int.zero_mul]]
    simp [chs]
  | succ h ih =>
    intro N hN
    obtain ⟨N, rfl⟩ : ∃ M, N = M + 1 := ⟨N - 1, by omega⟩
    have e1 := ih N (by omega)
    have e2 := ih (N + 1) (by omega)
    rw [List.range_succ_eq_map, List.map_cons, List.sum_cons, List.map_map] at e2 ⊢
    have e3 : ((fun j => chs (h + 1) j * (q - 1) ^ j) ∘ Nat.succ) = fun j => chs h (j + 1) * (q - 1) ^ (j + 1) + (q - 1) * (chs h j * (q - 1) ^ j) := by
      funext j
      show (chs h (j + 1) + chs h j) * (q - 1) ^ (j + 1) = _
      rw [Int.add_mul]
      congr 1
      rw [Int.pow_succ, ← Int.mul_assoc, Int.mul_comm]
    rw [e3, sumA, ← sum_mul, ← e1]
    have e4 : chs h 0 * (q - 1) ^ 0 = chs (h + 1) 0 * (q - 1) ^ 0 := by rw [chs_zero, chs_zero]
    have e5 : ((fun j => chs h j * (q - 1) ^ j) ∘ Nat.succ) = fun j => chs h (j + 1) * (q - 1) ^ (j + 1) := rfl
    rw [e5, e4] at e2
    rw [← Int.add_assoc, ← e2, Int.pow_succ, Int.sub_mul, Int.one_mul, Int.mul_comm q]
    omega
end
end Mine
end
end
section
set_option Elab.async false
set_option maxRecDepth 100000
open PySem
noncomputable section
namespace Mine
theorem sumZ : ∀ (l : List Nat) (g : Nat → Int), (∀ x ∈ l, g x = 0) → (l.map g).sum = 0 := fun l g hg => by
  induction l with
  | nil => rfl
  | cons x r ih => rw [List.map_cons, List.sum_cons, hg x (.head _), ih fun y hy => hg y (.tail _ hy)]; rfl
theorem sumA : ∀ (l : List Nat) (g k : Nat → Int), (l.map fun x => g x + k x).sum = (l.map g).sum + (l.map k).sum := fun l g k => by
  induction l with
  | nil => rfl
  | cons x r ih => rw [List.map_cons, List.sum_cons, ih, List.map_cons, List.sum_cons, List.map_cons, List.sum_cons]; omega
theorem ev_range (q : Int) : ∀ (N : Nat) (g : Nat → Int), evL q ((List.range N).map g) = ((List.range N).map fun k => g k * q ^ k).sum
  | 0, _ => rfl
  | N + 1, g => by
    rw [List.range_succ_eq_map, List.map_cons, List.map_cons, List.map_map, List.map_map, List.sum_cons]
    show g 0 + q * evL q ((List.range N).map (g ∘ Nat.succ)) = _
    rw [ev_range q N (g ∘ Nat.succ), sum_mul]
    have e : (fun x => q * ((g ∘ Nat.succ) x * q ^ x)) = ((fun k => g k * q ^ k) ∘ Nat.succ) := by
      funext x
      show q * (g (x + 1) * q ^ x) = g (x + 1) * q ^ (x + 1)
      rw [Int.pow_succ, ← Int.mul_assoc, Int.mul_comm q, Int.mul_assoc, Int.mul_comm q]
    rw [e, Int.pow_zero, Int.mul_one]
theorem sum_one (q : Int) (x : Nat) : ∀ N, x < N → ((List.range N).map fun k => (if x = k then (1 : Int) else 0) * q ^ k).sum = q ^ x
  | 0, h => absurd h (Nat.not_lt_zero _)
  | N + 1, h => by
    rw [List.range_succ, List.map_append, List.sum_append]
    by_cases e : x = N
    · subst e
      rw [sumZ (List.range x) _ fun k hk => by rw [if_neg (by have := List.mem_range.mp hk; omega), Int.zero_mul]]
      simp
    · rw [sum_one q x N (by omega)]
      simp [e]
/-- the powers, one for each row -/
noncomputable def powS (q : Int) (hs : List Nat) : Int := (hs.map fun h => q ^ h).sum
theorem due_pow (q : Int) (N : Nat) : ∀ hs : List Nat, (∀ h ∈ hs, h < N) → ((List.range N).map fun k => ((hs.count k : Nat) : Int) * q ^ k).sum = powS q hs
  | [], _ => sumZ _ _ fun k _ => by simp
  | x :: r, h => by
    have ih := due_pow q N r fun y hy => h y (.tail _ hy)
    have e : (fun k => (((x :: r).count k : Nat) : Int) * q ^ k) = fun k => (if x = k then (1 : Int) else 0) * q ^ k + ((r.count k : Nat) : Int) * q ^ k := by
      funext k
      rw [List.count_cons, ← Int.add_mul]
      congr 1
      by_cases e : x = k
      · subst e; simp; omega
      · simp [e]
    rw [e, sumA, sum_one q x N (h x (.head _)), ih]
    rfl
theorem powS_EL (q : Int) : ∀ hs : List Nat, (∀ h ∈ hs, h < 6) → powS q hs = ((List.range 6).map fun j => EL hs j * (q - 1) ^ j).sum
  | [], _ => (sumZ _ _ fun j _ => by rw [EL_nil, Int.zero_mul]).symm
  | x :: r, h => by
    have ih := powS_EL q r fun y hy => h y (.tail _ hy)
    show q ^ x + powS q r = _
    rw [ih, pow_chs q x 6 (h x (.head _)), ← sumA]
    congr 2
    funext j
    rw [← Int.add_mul]
    rfl
theorem sum_more (g : Nat → Int) (N : Nat) (hg : ∀ k, N ≤ k → g k = 0) : ∀ d, ((List.range (N + d)).map g).sum = ((List.range N).map g).sum
  | 0 => rfl
  | d + 1 => by
    rw [← Nat.add_assoc, List.range_succ, List.map_append, List.sum_append, sum_more g N hg d]
    simp [hg (N + d) (by omega)]
section
variable {n : Nat} {f u : List Nat} {hs : List Nat}
theorem al_pow (W : Words n f u) (T : Tried n f u hs) (q : Int) : alC (cnts u) * powS q hs = numL q (momL n (waysC (cnts f) (cnts u))) := by
  have n5 := W.n5
  rw [powS_EL q hs fun h hh => by have := T.hits.le h hh; omega, sum_mul]
  unfold numL
  have hl := (moms_ok W).len
  obtain ⟨d, hd⟩ : ∃ d, 6 = (momL n (waysC (cnts f) (cnts u))).length + d := ⟨6 - (momL n (waysC (cnts f) (cnts u))).length, by omega⟩
  have e := sum_more (fun k => (momL n (waysC (cnts f) (cnts u))).getD k 0 * (q - 1) ^ k) _ (fun k hk => by
    show (momL n (waysC (cnts f) (cnts u))).getD k 0 * _ = 0
    rw [List.getD_eq_getElem?_getD, List.getElem?_eq_none hk]; exact Int.zero_mul _) d
  rw [← e, ← hd]
  congr 1
  refine List.map_congr_left fun j hj => ?_
  rw [mom_get W j, ← T.mom j (List.mem_range.mp hj), Int.mul_assoc]
theorem val_due (wd : Nat) {M : Nat} (hM : ∀ a ∈ hs, a ≤ M) : valL wd (dueL hs M) = powS (2 ^ wd) hs := by
  rw [valL_ev]
  unfold dueL
  rw [ev_range, due_pow (2 ^ wd) (M + 1) hs fun h hh => Nat.lt_succ_of_le (hM h hh)]
noncomputable def powN (q : Nat) (hs : List Nat) : Nat := (hs.map fun h => q ^ h).sum
theorem powS_N (q : Nat) : ∀ hs : List Nat, powS (q : Int) hs = ((powN q hs : Nat) : Int)
  | [] => rfl
  | x :: r => by
    show (q : Int) ^ x + powS q r = ((q ^ x + powN q r : Nat) : Int)
    rw [powS_N q r, Int.natCast_add, Int.natCast_pow]
theorem powN_le {q n : Nat} (hq : 1 ≤ q) : ∀ hs : List Nat, (∀ h ∈ hs, h ≤ n) → powN q hs ≤ hs.length * q ^ n
  | [], _ => by simp [powN]
  | x :: r, h => by
    have ih := powN_le hq r fun y hy => h y (.tail _ hy)
    have h1 : q ^ x ≤ q ^ n := Nat.pow_le_pow_right hq (h x (.head _))
    show q ^ x + powN q r ≤ (r.length + 1) * q ^ n
    rw [Nat.add_mul, Nat.one_mul]
    omega
theorem divi_ok (W : Words n f u) (T : Tried n f u hs) {wd M : Nat} (h10 : 10 ≤ wd) (h25 : wd ≤ 2509) (hMm : M ∈ hs) (hM : ∀ a ∈ hs, a ≤ M) :
    ∃ N0 Dv : Nat, numL (2 ^ wd) (momL n (waysC (cnts f) (cnts u))) = (N0 : Int) ∧ alC (cnts u) * (2 ^ (wd * (n + 1)) - 1) = (Dv : Int) ∧ Divi wd (wd * (n + 1)) N0 Dv (dueL hs M) := by
  have n5 := W.n5
  have hmo := moms_ok W
  have hal0 := hmo.al0
  have hpair := W.pair
  unfold pairOk at hpair
  simp only [Bool.and_eq_true] at hpair
  have hal1 := of_decide_eq_true hpair.2
  have hnum := al_pow W T (2 ^ wd)
  have hval := val_due (hs := hs) wd hM
  obtain ⟨al, hal⟩ := Int.eq_ofNat_of_zero_le (show 0 ≤ alC (cnts u) by omega)
  rw [hal] at hal0 hal1 hnum ⊢
  have hq : (2 : Int) ^ wd = ((2 ^ wd : Nat) : Int) := two_pow wd
  rw [hq, powS_N] at hnum hval
  rw [hq]
  have hle := powN_le (q := 2 ^ wd) (n := n) (Nat.pow_pos (by decide)) hs T.hits.le
  have hfew := T.hits.few
  have hq10 : 2 ^ 10 ≤ 2 ^ wd := Nat.pow_le_pow_right (by decide) h10
  have htp : 2 ^ (wd * (n + 1)) = 2 ^ wd * (2 ^ wd) ^ n := by rw [Nat.pow_mul, Nat.pow_succ, Nat.mul_comm]
  have hP : 1 ≤ (2 ^ wd) ^ n := Nat.pow_pos (Nat.pow_pos (by decide))
  generalize hV : powN (2 ^ wd) hs = V at *
  have hV2 : V + 1 < 2 ^ (wd * (n + 1)) := by
    rw [htp]
    have h1 : 2 ^ 10 * (2 ^ wd) ^ n ≤ 2 ^ wd * (2 ^ wd) ^ n := Nat.mul_le_mul_right _ hq10
    have h2 : hs.length * (2 ^ wd) ^ n ≤ 243 * (2 ^ wd) ^ n := Nat.mul_le_mul_right _ hfew
    generalize (2 ^ wd) ^ n = P at *
    generalize 2 ^ wd * P = R at *
    have : 2 ^ 10 = 1024 := rfl
    omega
  have htb : wd * (n + 1) ≤ 2509 * 6 := Nat.mul_le_mul h25 (by omega)
  have hdl : (dueL hs M).length = M + 1 := by unfold dueL; rw [List.length_map, List.length_range]
  have hMn := T.hits.le M hMm
  have h2t := two_pow (wd * (n + 1))
  generalize hT : wd * (n + 1) = tp at *
  obtain ⟨P, hPt⟩ : ∃ P, 2 ^ tp = P + 1 := ⟨2 ^ tp - 1, by omega⟩
  have hal0' : 1 ≤ al := by omega
  have hal1' : al ≤ 120 := by omega
  have hPD : P ≤ al * P := Nat.le_mul_of_pos_left _ hal0'
  have hDu : al * P ≤ 120 * P := Nat.mul_le_mul_right _ hal1'
  have hN : al * V < al * P := Nat.mul_lt_mul_of_pos_left (by omega) hal0'
  have hD7 : al * P < 2 ^ (7 + tp) := by
    rw [Nat.pow_add, hPt]
    have : 2 ^ 7 = 128 := rfl
    omega
  have hkey : al * V * 2 ^ tp = al * V + al * P * V := by
    rw [hPt, Nat.mul_add, Nat.mul_one, Nat.add_comm, Nat.mul_assoc, Nat.mul_assoc, Nat.mul_comm V P]
  have hDpos : 0 < al * P := Nat.lt_of_le_of_lt (Nat.zero_le _) hN
  refine ⟨al * V, al * P, ?_, ?_, ⟨?_, by omega, ⟨(al * P).log2, Nat.log2_self_le (Nat.ne_of_gt hDpos), Nat.lt_log2_self, ?_, ?_⟩, ?_, ?_, by omega, ?_, ?_⟩⟩
  · rw [← hnum, Int.natCast_mul]
  · rw [h2t, hPt, Int.natCast_mul, Int.natCast_add]; simp
  · exact Nat.lt_trans hN (Nat.lt_of_lt_of_le hD7 (Nat.pow_le_pow_right (by decide) (by omega)))
  · have h1 := Nat.lt_of_le_of_lt (Nat.log2_self_le (Nat.ne_of_gt hDpos)) hD7
    have := (Nat.pow_lt_pow_iff_right (by decide)).mp h1
    omega
  · have h1 : al * P < 2 ^ ((al * P).log2 + 1) := Nat.lt_log2_self
    refine Nat.lt_of_lt_of_le (Nat.mul_lt_mul_of_pos_right hN (by omega)) (Nat.mul_le_mul_left _ (by omega))
  · rw [hkey, Nat.add_mul_mod_self_left, Nat.mod_eq_of_lt hN]
  · rw [hkey, Nat.add_mul_div_left _ _ hDpos, Nat.div_eq_of_lt hN, Nat.zero_add, hval]
  · intro x hx
    unfold dueL at hx
    obtain ⟨k, _, rfl⟩ := List.mem_map.mp hx
    have := List.count_le_length (a := k) (l := hs)
    omega
  · refine ⟨(List.range M).map fun k => ((hs.count k : Nat) : Int), ((hs.count M : Nat) : Int), ?_, ?_⟩
    · unfold dueL; rw [List.range_succ, List.map_append]; rfl
    · have := List.count_pos_iff.mpr hMm
      omega
end
end Mine
end
end
section
set_option Elab.async false
set_option maxRecDepth 100000
open PySem
noncomputable section
namespace Mine
theorem filter_flat {α β : Type} (p : α → Bool) (g : α → List β) : ∀ l : List α, (l.filter p).flatMap g = l.flatMap fun x => if p x = true then g x else []
  | [] => rfl
  | x :: r => by
    rw [List.filter_cons, List.flatMap_cons, ← filter_flat p g r]
    by_cases h : p x = true
    · rw [if_pos h, if_pos h, List.flatMap_cons]
    · rw [if_neg h, if_neg h]; rfl
theorem flat_congr {α β : Type} {g k : α → List β} : ∀ {l : List α}, (∀ x ∈ l, g x = k x) → l.flatMap g = l.flatMap k
  | [], _ => rfl
  | x :: r, h => by rw [List.flatMap_cons, List.flatMap_cons, h x (.head _), flat_congr fun y hy => h y (.tail _ hy)]
/-- what is left of the letters -/
noncomputable def remC (W r : List Nat) : C3 := (W.count 102 - r.count 102, W.count 105 - r.count 105, W.count 108 - r.count 108)
theorem rem_get (W r : List Nat) {y : Nat} (hy : y ∈ filL) : getC (remC W r) y = W.count y - r.count y := by
  simp only [List.mem_cons, List.not_mem_nil, or_false] at hy
  rcases hy with rfl | rfl | rfl <;> simp [getC, remC]
theorem rem_next (W r : List Nat) {y : Nat} (hy : y ∈ filL) : remC W (r ++ [y]) = decC (remC W r) y := by
  simp only [List.mem_cons, List.not_mem_nil, or_false] at hy
  rcases hy with rfl | rfl | rfl <;> simp [decC, remC, List.count_append, Nat.sub_sub]
theorem rows_sfx (W : List Nat) : ∀ (k j : Nat), rowsP W (j + k) = (rowsP W j).flatMap fun r => (sfx (remC W r) k).map (r ++ ·)
  | 0, j => by
    show rowsP W j = _
    have : (fun r : List Nat => (sfx (remC W r) 0).map (r ++ ·)) = fun r => [r] := by
      funext r
      show [r ++ []] = [r]
      rw [List.append_nil]
    rw [this]
    induction rowsP W j with
    | nil => rfl
    | cons x r ih => rw [List.flatMap_cons, ← ih]; rfl
  | k + 1, j => by
    rw [show j + (k + 1) = (j + 1) + k by omega, rows_sfx W k (j + 1)]
    show ((rowsP W j).flatMap (rowNext W)).flatMap _ = _
    rw [List.flatMap_assoc]
    refine flat_congr fun r _ => ?_
    unfold rowNext
    rw [List.flatMap_map, filter_flat]
    show _ = (filL.flatMap fun y => if getC (remC W r) y = 0 then [] else (sfx (decC (remC W r) y) k).map (y :: ·)).map (r ++ ·)
    rw [List.map_flatMap]
    refine flat_congr fun y hy => ?_
    rw [rem_get W r hy, rem_next W r hy]
    by_cases h : r.count y < W.count y
    · rw [if_pos (decide_eq_true h), if_neg (by omega), List.map_map]
      congr 1
      funext v
      show (r ++ [y]) ++ v = r ++ (y :: v)
      rw [List.append_assoc]; rfl
    · rw [if_neg (by simpa using h), if_pos (by omega)]; rfl
theorem rows_are (W : List Nat) (k : Nat) : rowsP W k = sfx (cnts W) k := by
  have := rows_sfx W k 0
  rw [Nat.zero_add] at this
  rw [this]
  show ([[]] : List (List Nat)).flatMap _ = _
  rw [List.flatMap_cons]
  show (sfx (remC W []) k).map ([] ++ ·) ++ [] = _
  rw [List.append_nil]
  have e : remC W [] = cnts W := by simp [remC, cnts]
  rw [e]
  exact List.map_id' _
theorem agree_hit : ∀ (f r : List Nat), r.length = f.length → (agree r f f.length).length = hitL f r
  | [], r, _ => rfl
  | x :: f, [], h => by cases h
  | x :: f, y :: r, h => by
    have ih := agree_hit f r (Nat.succ.inj h)
    show _ = (if x = y then 1 else 0) + hitL f r
    rw [← ih]
    unfold agree
    rw [List.length_cons, List.range_succ_eq_map, List.filter_cons, List.filter_map]
    have e : ((fun i => decide ((y :: r)[i]? = (x :: f)[i]?)) ∘ Nat.succ) = fun i => decide (r[i]? = f[i]?) := by funext i; rfl
    rw [e]
    by_cases h2 : x = y
    · rw [if_pos (decide_eq_true (by rw [h2]; rfl)), if_pos h2, List.length_cons, List.length_map, Nat.add_comm]
    · rw [if_neg (by simpa using fun q => h2 (Eq.symm q)), if_neg h2, List.length_map, Nat.zero_add]
section
variable {n : Nat} {f u : List Nat}
/-- what trying out all rows tells -/
noncomputable def triedL (n : Nat) (f u : List Nat) : List Nat := (rowsP u u.length).map fun r => (agree r f n).length
theorem tried_is (W : Words n f u) : triedL n f u = hitsC f (cnts u) := by
  unfold triedL hitsC
  have hr := (rowsP_len u u.length).2
  rw [W.lf]
  have e : ∀ r ∈ rowsP u u.length, (agree r f n).length = hitL f r := fun r h => by
    have := agree_hit f r (by rw [hr r h, W.lu, W.lf])
    rwa [W.lf] at this
  rw [List.map_congr_left e, rows_are, W.lu]
theorem tried_ok (W : Words n f u) : Tried n f u (triedL n f u) := by
  have hm : ∀ j, j < 6 → alC (cnts u) * EL (triedL n f u) j = momC (cnts f) (cnts u) j := fun j hj => by
    rw [tried_is W]
    exact moments_are f (cnts u) W.hf (by rw [cnts_sum u W.hu, W.lu, W.lf]) (by rw [W.lf]; exact W.n5) j hj
  refine ⟨⟨?_, ?_, fun h hh => ?_⟩, hm⟩
  · have h0 := hm 0 (by decide)
    have hp := W.pair
    unfold pairOk at hp
    simp only [Bool.and_eq_true] at hp
    have h1 := of_decide_eq_true hp.1.1.2
    rw [← h0] at h1
    rcases Nat.eq_zero_or_pos (triedL n f u).length with e | e
    · rw [List.length_eq_zero_iff.mp e, EL_nil, Int.mul_zero] at h1
      exact absurd h1 (by decide)
    · exact e
  · have h1 := (rowsP_len u u.length).1
    have h2 : 3 ^ u.length ≤ 3 ^ 5 := Nat.pow_le_pow_right (by decide) (by rw [W.lu]; exact W.n5)
    have h3 : 3 ^ 5 = 243 := by decide
    unfold triedL
    rw [List.length_map]
    omega
  · unfold triedL at hh
    obtain ⟨r, _, rfl⟩ := List.mem_map.mp hh
    exact agree_le r f n
end
end Mine
end
end
section
set_option Elab.async false
set_option maxRecDepth 100000
open PySem
noncomputable section
namespace Mine
theorem chs_small : ∀ x ∈ List.range 6, chs x 1 = (x : Int) ∧ chs x 2 = ((x : Int) * ((x : Int) - 1)).fdiv 2 ∧ chs x 3 = ((x : Int) * ((x : Int) - 1) * ((x : Int) - 2)).fdiv 6 := by decide +kernel
theorem ent_cols : ∀ (hs : List Nat) (e : Ent), (∀ h ∈ hs, h ≤ 5) → ((toI hs).foldl entStep e).c1 = e.c1 + EL hs 0 ∧ ((toI hs).foldl entStep e).c2 = e.c2 + EL hs 1 ∧ ((toI hs).foldl entStep e).c3 = e.c3 + EL hs 2 ∧ ((toI hs).foldl entStep e).c4 = e.c4 + EL hs 3
  | [], e, _ => by simp [EL]
  | x :: r, e, h => by
    obtain ⟨a1, a2, a3, a4⟩ := ent_cols r (entStep e x) fun y hy => h y (.tail _ hy)
    obtain ⟨b1, b2, b3⟩ := chs_small x (List.mem_range.mpr (by have := h x (.head _); omega))
    have eE : ∀ j, EL (x :: r) j = chs x j + EL r j := fun _ => rfl
    show ((toI r).foldl entStep (entStep e x)).c1 = _ ∧ ((toI r).foldl entStep (entStep e x)).c2 = _ ∧ ((toI r).foldl entStep (entStep e x)).c3 = _ ∧ ((toI r).foldl entStep (entStep e x)).c4 = _
    rw [a1, a2, a3, a4, eE, eE, eE, eE, b1, b2, b3, chs_zero]
    unfold entStep
    dsimp only
    omega
/-- the table of the hits -/
structure Tally (p : List Nat) (t : List (Int × Int)) : Prop where
  nd : (t.map (·.1)).Nodup
  val : ∀ x ∈ t, ∃ k : Nat, k ∈ p ∧ x = (((k : Nat) : Int), ((p.count k : Nat) : Int))
  all : ∀ k : Nat, k ∈ p → ((k : Nat) : Int) ∈ t.map (·.1)
  sum : (t.map (·.2)).sum = ((p.length : Nat) : Int)
theorem keys_put (k : Int) (g : Int → Int) (t : List (Int × Int)) : (t.map fun q => if q.1 = k then (q.1, g q.2) else q).map (·.1) = t.map (·.1) := by
  rw [List.map_map]
  refine List.map_congr_left fun q _ => ?_
  show (if q.1 = k then (q.1, g q.2) else q).1 = q.1
  by_cases h : q.1 = k
  · rw [if_pos h]
  · rw [if_neg h]
theorem put_none (k : Int) (g : Int → Int) : ∀ t : List (Int × Int), k ∉ t.map (·.1) → (t.map fun q => if q.1 = k then (q.1, g q.2) else q) = t
  | [], _ => rfl
  | q :: r, h => by
    rw [List.map_cons, List.mem_cons, not_or] at h
    rw [List.map_cons, if_neg (fun e => h.1 e.symm), put_none k g r h.2]
theorem sum_put (k : Int) : ∀ t : List (Int × Int), (t.map (·.1)).Nodup → k ∈ t.map (·.1) → ((t.map fun q => if q.1 = k then (q.1, q.2 + 1) else q).map (·.2)).sum = (t.map (·.2)).sum + 1
  | [], _, h => nomatch h
  | q :: r, hn, h => by
    rw [List.map_cons, List.nodup_cons] at hn
    by_cases e : q.1 = k
    · rw [List.map_cons, if_pos e, put_none k (· + 1) r (e ▸ hn.1), List.map_cons, List.map_cons, List.sum_cons, List.sum_cons]
      dsimp only
      omega
    · have hr : k ∈ r.map (·.1) := by
        rw [List.map_cons, List.mem_cons] at h
        exact h.resolve_left fun q => e q.symm
      have ih := sum_put k r hn.2 hr
      rw [List.map_cons, if_neg e, List.map_cons, List.map_cons, List.sum_cons, List.sum_cons, ih]
      omega
theorem tally_next {p : List Nat} {t : List (Int × Int)} (T : Tally p t) (x : Nat) : Tally (p ++ [x]) (bumpR t ((x : Nat) : Int) (· + 1) 1) := by
  have hcx : ∀ k : Nat, (p ++ [x]).count k = p.count k + (if x = k then 1 else 0) := fun k => by
    rw [List.count_append]
    by_cases h : x = k
    · subst h; simp
    · simp [h]
  unfold bumpR
  by_cases hm : ((x : Nat) : Int) ∈ t.map (·.1)
  · have ha : t.any (fun q => q.1 = ((x : Nat) : Int)) = true := by
      rw [List.any_eq_true]
      obtain ⟨q, hq, e⟩ := List.mem_map.mp hm
      exact ⟨q, hq, decide_eq_true e⟩
    rw [if_pos ha]
    have ek := keys_put ((x : Nat) : Int) (· + 1) t
    refine ⟨by rw [ek]; exact T.nd, fun y hy => ?_, fun k hk => ?_, ?_⟩
    · obtain ⟨q, hq, rfl⟩ := List.mem_map.mp hy
      obtain ⟨k, hk, rfl⟩ := T.val q hq
      refine ⟨k, List.mem_append_left _ hk, ?_⟩
      rw [hcx]
      by_cases e : ((k : Nat) : Int) = ((x : Nat) : Int)
      · have e' : x = k := by omega
        rw [if_pos e, if_pos e']
        rfl
      · have e' : ¬ x = k := by omega
        rw [if_neg e, if_neg e']
        rfl
    · rw [ek]
      rcases List.mem_append.mp hk with hk | hk
      · exact T.all k hk
      · rw [List.mem_singleton.mp hk]; exact hm
    · rw [sum_put _ t T.nd hm, T.sum, List.length_append]; rfl
  · have ha : ¬ t.any (fun q => q.1 = ((x : Nat) : Int)) = true := fun h => by
      obtain ⟨q, hq, e⟩ := List.any_eq_true.mp h
      exact hm (List.mem_map.mpr ⟨q, hq, of_decide_eq_true e⟩)
    have hx : x ∉ p := fun h => hm (T.all x h)
    rw [if_neg ha]
    refine ⟨?_, fun y hy => ?_, fun k hk => ?_, ?_⟩
    · rw [List.map_append, List.nodup_append]
      refine ⟨T.nd, by simp, fun a ha b hb e => ?_⟩
      rw [List.mem_singleton.mp hb] at e
      have e : a = ((x : Nat) : Int) := e
      exact hm (by rw [← e]; exact ha)
    · rcases List.mem_append.mp hy with hy | hy
      · obtain ⟨k, hk, rfl⟩ := T.val y hy
        refine ⟨k, List.mem_append_left _ hk, ?_⟩
        rw [hcx, if_neg (fun e : x = k => hx (by rw [e]; exact hk))]
        rfl
      · rw [List.mem_singleton.mp hy]
        refine ⟨x, List.mem_append_right _ (.head _), ?_⟩
        rw [hcx, if_pos rfl, List.count_eq_zero.mpr hx]
        rfl
    · rw [List.map_append]
      rcases List.mem_append.mp hk with hk | hk
      · exact List.mem_append_left _ (T.all k hk)
      · rw [List.mem_singleton.mp hk]; exact List.mem_append_right _ (.head _)
    · rw [List.map_append, List.sum_append, T.sum, List.length_append]
      simp
theorem tally_fold : ∀ (hs p : List Nat) (e : Ent), Tally p e.t → Tally (p ++ hs) ((toI hs).foldl entStep e).t
  | [], p, e, T => by rw [List.append_nil]; exact T
  | x :: r, p, e, T => by
    have := tally_fold r (p ++ [x]) (entStep e x) (tally_next T x)
    rw [List.append_assoc] at this
    exact this
theorem tally_ent (hs : List Nat) : Tally hs (entL (toI hs)).t := by
  have := tally_fold hs [] ⟨0, 0, 0, 0, []⟩ ⟨List.nodup_nil, fun _ h => (nomatch h), fun _ h => (nomatch h), rfl⟩
  exact this
theorem len_sub {α : Type} [DecidableEq α] : ∀ {l l' : List α}, l.Nodup → (∀ x ∈ l, x ∈ l') → l.length ≤ l'.length
  | [], _, _, _ => Nat.zero_le _
  | x :: r, l', hn, h => by
    rw [List.nodup_cons] at hn
    have hx := h x (.head _)
    have := len_sub (l' := l'.erase x) hn.2 fun y hy => by
      have hne : y ≠ x := fun e => hn.1 (by rw [← e]; exact hy)
      exact (List.mem_erase_of_ne hne).mpr (h y (.tail _ hy))
    rw [List.length_erase_of_mem hx] at this
    have h0 : 0 < l'.length := List.length_pos_of_mem hx
    rw [List.length_cons]; omega
section
variable {hs : List Nat} {M : Nat}
theorem due_get (k : Nat) (h : k ≤ M) : (dueL hs M).getD k 0 = ((hs.count k : Nat) : Int) := by
  unfold dueL
  rw [List.getD_eq_getElem?_getD, List.getElem?_map, List.getElem?_range (by omega)]; rfl
theorem due_len : (dueL hs M).length = M + 1 := by unfold dueL; rw [List.length_map, List.length_range]
theorem tally_sub (hM : ∀ a ∈ hs, a ≤ M) : ∀ x ∈ (entL (toI hs)).t, x ∈ dueP (dueL hs M) (dueL hs M).length := fun x hx => by
  obtain ⟨k, hk, rfl⟩ := (tally_ent hs).val x hx
  have hkM := hM k hk
  have e := due_get (hs := hs) k hkM
  have hc := List.count_pos_iff.mpr hk
  unfold dueP
  rw [due_len]
  exact List.mem_map.mpr ⟨k, List.mem_filter.mpr ⟨List.mem_range.mpr (by omega), decide_eq_true (by rw [e]; omega)⟩, by rw [e]⟩
theorem tally_len (hM : ∀ a ∈ hs, a ≤ M) : (entL (toI hs)).t.length = (dueP (dueL hs M) (dueL hs M).length).length := by
  have T := tally_ent hs
  refine Nat.le_antisymm (len_sub ?_ (tally_sub hM)) (len_sub ?_ fun x hx => ?_)
  · exact (List.pairwise_map.mp T.nd).imp fun {a b} h e => h (by rw [e])
  · unfold dueP
    refine List.pairwise_map.mpr ((List.nodup_range.filter _).imp fun h e => h ?_)
    have := congrArg Prod.fst e
    dsimp only at this
    omega
  · unfold dueP at hx
    obtain ⟨k, hk, rfl⟩ := List.mem_map.mp hx
    obtain ⟨h1, h2⟩ := List.mem_filter.mp hk
    have h1 := List.mem_range.mp h1
    rw [due_len] at h1
    have e := due_get (hs := hs) (M := M) k (by omega)
    have h2 := of_decide_eq_true h2
    rw [e] at h2 ⊢
    have hk2 : k ∈ hs := List.count_pos_iff.mp (by omega)
    obtain ⟨q, hq, hq2⟩ := List.mem_map.mp (T.all k hk2)
    obtain ⟨k', _, rfl⟩ := T.val q hq
    have : k' = k := by dsimp only at hq2; omega
    rw [← this]
    exact hq
end
section
variable {n : Nat} {f u : List Nat} {hs : List Nat}
theorem cols_ok (W : Words n f u) (T : Tried n f u hs) : [alC (cnts u) * (entL (toI hs)).c1, alC (cnts u) * (entL (toI hs)).c2, alC (cnts u) * (entL (toI hs)).c3, alC (cnts u) * (entL (toI hs)).c4] = (momL n (waysC (cnts f) (cnts u)) ++ [0, 0, 0, 0]).take 4 := by
  have n5 := W.n5
  obtain ⟨a1, a2, a3, a4⟩ := ent_cols hs ⟨0, 0, 0, 0, []⟩ fun h hh => by have := T.hits.le h hh; omega
  have e : entL (toI hs) = (toI hs).foldl entStep ⟨0, 0, 0, 0, []⟩ := rfl
  rw [e, a1, a2, a3, a4, take4, mom_get W, mom_get W, mom_get W, mom_get W]
  dsimp only
  rw [Int.zero_add, Int.zero_add, Int.zero_add, Int.zero_add, T.mom 0 (by decide), T.mom 1 (by decide), T.mom 2 (by decide), T.mom 3 (by decide)]
end
end Mine
end
end
section
open PySem PySem.W PyProof.Rows PySem.Calls PySem.Spec
set_option Elab.async false
set_option maxRecDepth 100000
noncomputable section
namespace Mine
theorem TabT.kept {tl tl' : List (Addr × Obj)} {kvs : List (Str × Value)} {xs : Tbl} (x : TabT tl kvs xs) (k : ∀ p ∈ tl, Held p.2 → p ∈ tl') : TabT tl' kvs xs :=
  ⟨TabR.mono (fun _ _ ⟨T, t1, t2, e, hm⟩ => ⟨T, t1, t2, e, k _ hm (tup_held _)⟩) x.tab⟩
theorem lawSpec : LawSpec := by
  intro w A s B Q E a vs ns hL hV hlen G kB zB hB37 hB30 hB51 t37 t30 t51 hg ret
  refine law_start a vs ns hL hV hlen G kB zB hB37 hB30 hB51 t37 t30 t51 ⟨?_⟩
  intro A1 L h1 tk1 tl1 m1 tw ts t0 t1 t2 n wd n1 n2 sp hn3 hn5 h10 h25 hn1 hn2 hsp hPL G1 F1 N1 X1
  have W : Words n (wordL n1 n) (wordL n2 n) := ⟨hn3, hn5, wordL_len n1 n, wordL_len n2 n, wordL_in n n1, wordL_in n n2⟩
  refine law_line hn3 hn5 hsp G1 F1 N1 X1 ⟨?_⟩
  clear F1 N1 X1
  intro h2 tk2 tl2 m2 aw vsw nnw F2 N2 X2 hmw hvw
  generalize wordL n1 n = f at *
  generalize wordL n2 n = u at *
  refine law_table W hPL hB37 hB30 hB51 hg G1 F2 N2 X2 hmw hvw ⟨?_⟩
  clear F2 N2 X2
  intro h3 tk3 g3 tl3 m3 d o kvs hg3 F3 N3 X3 hd lo ho ht
  refine law_hits W hPL G1 F3 N3 X3 hd ho ht ⟨?_⟩
  clear F3 N3 X3 hd ht
  intro h4 tk4 tl4 hi vh nh F4 N4 X4 hd ht hmh hvh
  have T := tried_ok W
  replace hvh : All2 IV vh (toI (triedL n f u)) := by
    have e : toI (triedL n f u) = (rowsP u u.length).map fun r => ((agree r f n).length : Int) := by unfold triedL toI; rw [List.map_map]; rfl
    rw [e]; exact hvh
  generalize triedL n f u = hs at *
  refine law_due T.hits hn5 G1 F4 N4 X4 hmh hvh ⟨?_⟩
  intro h5 tk5 tl5 du vd nd M F5 N5 X5 kp5 hmd hMm hM hvd
  have P := prod_ok W h10 h25
  have hd5 := kp5 _ hd (dict_held ho).nc
  have ht5 := ht.kept fun p hp hh => kp5 p hp hh.nc
  have hmh5 := kp5 _ hmh (listOf_notCell _ _)
  clear F4 N4 X4 kp5 hd ht hmh
  refine law_ways P hn5 hPL hB37 hB30 hB51 hg3 G1 F5 N5 X5 hd5 lo ho ht5 ⟨?_⟩
  clear F5 N5
  intro h6 tk6 g6 tl6 wy vy ny hg6 F6 N6 X6 kp6 hmy hvy
  have hd6 := kp6 _ hd5 (dict_held ho)
  have ht6 := ht5.kept kp6
  have hmh6 := kp6 _ hmh5 (listOf_held _ _)
  have hmd6 := kp6 _ hmd (listOf_held _ _)
  clear X5 kp6 hd5 ht5 hmh5 hmd
  refine law_moments hn5 P.len G1 F6 N6 X6 hmy hvy ⟨?_⟩
  clear F6 N6
  intro h7 tk7 tl7 mo vm nm F7 N7 X7 kp7 hmm hvm
  have hd7 := kp7 _ hd6 (dict_held ho).nc
  have ht7 := ht6.kept fun p hp hh => kp7 p hp hh.nc
  have hmh7 := kp7 _ hmh6 (listOf_notCell _ _)
  have hmd7 := kp7 _ hmd6 (listOf_notCell _ _)
  clear X6 kp7 hd6 ht6 hmh6 hmd6
  refine law_alike h25 P.small G1 F7 N7 X7 hd7 lo ho ht7 ⟨?_⟩
  clear F7 N7
  intro h8 tk8 tl8 m8 ta tp8 F8 N8 X8 kp8
  rw [alike_TT W.hf W.hu] at X8
  have hmh8 := kp8 _ hmh7 (listOf_notCell _ _)
  have hmd8 := kp8 _ hmd7 (listOf_notCell _ _)
  have hmm8 := kp8 _ hmm (listOf_notCell _ _)
  clear X7 kp8 hd7 ht7 hmh7 hmd7 hmm
  have hmo := moms_ok W
  refine law_number h25 hn5 hmo G1 F8 N8 X8 hmm8 hvm ⟨?_⟩
  clear F8 N8
  intro h9 tk9 m9 u1 u2 u3 F9 N9
  obtain ⟨N0, Dv, e1, e2, D⟩ := divi_ok W T h10 h25 hMm hM
  rw [e1, e2] at F9
  refine law_div ⟨h10, h25⟩ D hPL hB37 hB30 hB51 G1 F9 N9 X8 hmd8 hvd ⟨?_⟩
  clear F9 N9
  intro h10' tk10 tl10 m10 F10 N10 X10 kp10
  have hmh10 := kp10 _ hmh8 (listOf_held _ _)
  have hmd10 := kp10 _ hmd8 (listOf_held _ _)
  have hmm10 := kp10 _ hmm8 (listOf_held _ _)
  clear X8 kp10 hmh8 hmd8 hmm8
  refine law_entry T.hits hn5 G1 F10 N10 X10 hmh10 hvh ⟨?_⟩
  clear F10 N10
  intro h11 tk11 m11 ae de oe ke v1 v2 v3 v4 F11 N11 loe hoe hde
  refine law_columns hmo (cols_ok W T) G1 F11 N11 X10 hmm10 hvm ⟨?_⟩
  clear F11 N11
  intro h12 tk12 F12 N12
  refine law_callers loe hoe hde (tally_sub hM) (tally_len hM) D.len G1 F12 N12 X10 hmd10 hvd ⟨?_⟩
  clear F12 N12
  intro h13 tk13 F13 N13
  refine law_return T.hits loe hoe hde (tally_ent hs).sum G1 F13 N13 X10 hmh10 hvh ⟨?_⟩
  intro h14 tk14 m14 F14 N14
  obtain ⟨ps, h51, hps⟩ := X10.t51
  exact ret _ _ _ hg6 F14.keep (X10.t37.tab N14 F14.keep) (X10.t30.tab N14 F14.keep) ⟨ps, (N14 _ h51).1, hps⟩
end Mine
end
end
end
set_option maxRecDepth 100000 in
theorem PySem.Challenge.cw_xe0047_01_holds : PySem.Challenge.rw_xe0047_01.Holds := by
  exact Mine.toWalk (Mine.walk_of Mine.lawSpec)
