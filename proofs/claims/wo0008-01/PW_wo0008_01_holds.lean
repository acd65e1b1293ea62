import PyProof.Rows.All
import Wide.All
import OpenK.AllK
import Wide.FinOn
import PySem.Challenge.RW_wo0008_01
open PySem PySem.W PyProof.Rows
set_option Elab.async false
set_option maxRecDepth 100000
set_option linter.unusedVariables false
section
set_option maxHeartbeats 0
namespace Mine
noncomputable abbrev pw : Program := PySem.Challenge.pw_wo0008_01
noncomputable def topSt (i : Nat) : Stmt := pw.main.body.getD i (.Pass default)
noncomputable def clsSt (j : Nat) : Stmt := match topSt 3 with
  | .ClassDef _ _ _ b _ _ _ _ _ _ _ => b.getD j (.Pass default)
  | _ => .Pass default
noncomputable def fdOf (st : Stmt) (qual : Str) (g : Addr) (clo : List (Str × Addr)) (dflt doc pm code ct : Value) : FuncData := match st with
  | .FunctionDef n a b _ _ _ sc _ _ _ => { name := n, qualname := qual, params := a, body := .stmts b, scope := sc, globals := g, closure := clo, defaults := dflt, kwdefaults := .none, doc := doc, pyModule := pm, code := code, closureTuple := ct }
  | _ => default
noncomputable def o11 (P : Params) : Obj := ⟨.type "tuple", none, .seq #[] 0, #[]⟩
noncomputable def o12 (P : Params) : Obj := ⟨.none, none, .fields #[], #[]⟩
noncomputable def o13 (P : Params) : Obj := ⟨.type "code", none, .fields #[.str (Str.ofString "<module>") 182, .str (Str.ofString "<module>") 183, .str (Str.ofString "/claim/cut.py") 184, .int 1 0, .int 0 0, .int 0 0, .int 0 0, .int 0 0, .ref 11, .bool false, .int 181 0, .ref 12, .none, .none, .none, .none, .int 185 0, .int 1 0, .str (Str.ofString "/claim/cut.py") 186], #[]⟩
noncomputable def o14 (P : Params) : Obj := ⟨.type "frame", none, .plain, #[some (.ref 13), some (.ref 3), some (.ref 3), none, some (.str (Str.ofString "__main__") 164), none, some (.ref 0)]⟩
noncomputable def treeA (P : Params) : BT := (.node (boot_o_0 P) (.node (boot_o_1 P) (.node (boot_o_3 P) (.node (boot_o_7 P) .nil .nil) (.node (o11 P) .nil .nil)) (.node (boot_o_5 P) (.node (boot_o_9 P) .nil .nil) (.node (o13 P) .nil .nil))) (.node (boot_o_2 P) (.node (boot_o_4 P) (.node (boot_o_8 P) .nil .nil) (.node (o12 P) .nil .nil)) (.node (boot_o_6 P) (.node (boot_o_10 P) .nil .nil) (.node (o14 P) .nil .nil))))
noncomputable def o3v1 (P : Params) : Obj := ⟨.type "dict", none, .dict #[⟨PyData.keyHash P (Str.ofString "__name__"), .str (Str.ofString "__name__") 165, .str (Str.ofString "cpy313.stringprep") 293⟩, ⟨PyData.keyHash P (Str.ofString "__doc__"), .str (Str.ofString "__doc__") 166, .none⟩, ⟨PyData.keyHash P (Str.ofString "__package__"), .str (Str.ofString "__package__") 167, .none⟩, ⟨PyData.keyHash P (Str.ofString "__loader__"), .str (Str.ofString "__loader__") 168, .builtin "__main__.__loader__#opaque"⟩, ⟨PyData.keyHash P (Str.ofString "__spec__"), .str (Str.ofString "__spec__") 169, .none⟩, ⟨PyData.keyHash P (Str.ofString "__annotations__"), .str (Str.ofString "__annotations__") 170, .ref 6⟩, ⟨PyData.keyHash P (Str.ofString "__builtins__"), .str (Str.ofString "__builtins__") 171, .ref 4⟩, ⟨PyData.keyHash P (Str.ofString "__file__"), .str (Str.ofString "__file__") 173, .str (Str.ofString "/claim/cut.py") 172⟩, ⟨PyData.keyHash P (Str.ofString "__cached__"), .str (Str.ofString "__cached__") 174, .none⟩, ⟨PyData.keyHash P (Str.ofString "_wall"), .str (Str.ofString "_wall") 193, .ref 21⟩, ⟨PyData.keyHash P (Str.ofString "EMPTYSTRING"), .str (Str.ofString "EMPTYSTRING") 197, .str (Str.ofString "") 196⟩, ⟨PyData.keyHash P (Str.ofString "_Accumulator"), .str (Str.ofString "_Accumulator") 292, .ref 101⟩, ⟨PyData.keyHash P (Str.ofString "in_table_c11"), .str (Str.ofString "in_table_c11") 301, .ref 112⟩] 13, #[]⟩
noncomputable def o12v1 (P : Params) : Obj := ⟨.none, none, .fields #[.int 1 0, .int 0 0, .ref 20, .int 6 0, .int 0 0, .ref 28, .int 38 0, .int 0 0, .ref 111], #[]⟩
noncomputable def o15 (P : Params) : Obj := ⟨.type "tuple", none, .seq #[] 0, #[]⟩
noncomputable def o16 (P : Params) : Obj := ⟨.none, none, .fields #[], #[]⟩
noncomputable def o17 (P : Params) : Obj := ⟨.type "tuple", none, .seq #[.str (Str.ofString "k") 190] 0, #[]⟩
noncomputable def o18 (P : Params) : Obj := ⟨.type "tuple", none, .seq #[] 0, #[]⟩
noncomputable def o19 (P : Params) : Obj := ⟨.none, none, .func (fdOf (topSt 0) (Str.ofString "_wall") 0 [] (.none) (.none) (.none) (.none) (.none)), #[]⟩
noncomputable def o20 (P : Params) : Obj := ⟨.type "code", none, .fields #[.str (Str.ofString "_wall") 187, .str (Str.ofString "_wall") 188, .str (Str.ofString "/claim/cut.py") 189, .int 1 0, .int 1 0, .int 0 0, .int 0 0, .int 3 0, .ref 15, .bool true, .int 181 0, .ref 16, .none, .ref 17, .ref 18, .ref 19, .int 191 0, .int 1 0, .str (Str.ofString "/claim/cut.py") 192], #[]⟩
noncomputable def o21 (P : Params) : Obj := ⟨.type "function", none, .func (fdOf (topSt 0) (Str.ofString "_wall") 3 [] (.none) (.none) (.str (Str.ofString "__main__") 164) (.ref 20) (.none)), #[]⟩
noncomputable def o22 (P : Params) : Obj := ⟨.type "tuple", none, .seq #[.type "list"] 0, #[]⟩
noncomputable def o23 (P : Params) : Obj := ⟨.type "builtin_function_or_method", none, .fields #[.builtin "type.__prepare__", .type "type"], #[]⟩
noncomputable def o24 (P : Params) : Obj := ⟨.type "dict", none, .dict #[⟨PyData.keyHash P (Str.ofString "__module__"), .str (Str.ofString "__module__") 205, .str (Str.ofString "cpy313.email.header") 194⟩, ⟨PyData.keyHash P (Str.ofString "__qualname__"), .str (Str.ofString "__qualname__") 207, .str (Str.ofString "_Accumulator") 206⟩, ⟨PyData.keyHash P (Str.ofString "__firstlineno__"), .str (Str.ofString "__firstlineno__") 209, .int 6 208⟩, ⟨PyData.keyHash P (Str.ofString "__init__"), .str (Str.ofString "__init__") 219, .ref 38⟩, ⟨PyData.keyHash P (Str.ofString "push"), .str (Str.ofString "push") 228, .ref 45⟩, ⟨PyData.keyHash P (Str.ofString "pop_from"), .str (Str.ofString "pop_from") 237, .ref 53⟩, ⟨PyData.keyHash P (Str.ofString "pop"), .str (Str.ofString "pop") 245, .ref 61⟩, ⟨PyData.keyHash P (Str.ofString "__len__"), .str (Str.ofString "__len__") 252, .ref 68⟩, ⟨PyData.keyHash P (Str.ofString "__str__"), .str (Str.ofString "__str__") 259, .ref 75⟩, ⟨PyData.keyHash P (Str.ofString "reset"), .str (Str.ofString "reset") 267, .ref 83⟩, ⟨PyData.keyHash P (Str.ofString "is_onlyws"), .str (Str.ofString "is_onlyws") 274, .ref 90⟩, ⟨PyData.keyHash P (Str.ofString "part_count"), .str (Str.ofString "part_count") 282, .ref 98⟩, ⟨PyData.keyHash P (Str.ofString "__static_attributes__"), .str (Str.ofString "__static_attributes__") 284, .ref 99⟩, ⟨PyData.keyHash P (Str.ofString "__classcell__"), .str (Str.ofString "__classcell__") 285, .ref 25⟩] 14, #[]⟩
noncomputable def o25 (P : Params) : Obj := ⟨.type "cell", none, .cell (some (.ref 101)), #[]⟩
noncomputable def o26 (P : Params) : Obj := ⟨.type "tuple", none, .seq #[] 0, #[]⟩
noncomputable def o27 (P : Params) : Obj := ⟨.none, none, .fields #[.int 8 0, .int 4 0, .ref 37, .int 12 0, .int 4 0, .ref 44, .int 15 0, .int 4 0, .ref 52, .int 18 0, .int 4 0, .ref 60, .int 23 0, .int 4 0, .ref 67, .int 26 0, .int 4 0, .ref 74, .int 29 0, .int 4 0, .ref 82, .int 32 0, .int 4 0, .ref 89, .int 35 0, .int 4 0, .ref 97], #[]⟩
noncomputable def o28 (P : Params) : Obj := ⟨.type "code", none, .fields #[.str (Str.ofString "_Accumulator") 200, .str (Str.ofString "_Accumulator") 201, .str (Str.ofString "/claim/cut.py") 202, .int 6 0, .int 0 0, .int 0 0, .int 0 0, .int 0 0, .ref 26, .bool false, .int 181 0, .ref 27, .none, .none, .none, .none, .int 203 0, .int 6 0, .str (Str.ofString "/claim/cut.py") 204], #[]⟩
noncomputable def o29 (P : Params) : Obj := ⟨.type "frame", none, .plain, #[some (.ref 28), some (.ref 3), some (.ref 24), none, some (.str (Str.ofString "cpy313.email.header") 194), none, some (.ref 0)]⟩
noncomputable def o30 (P : Params) : Obj := ⟨.type "tuple", none, .seq #[.int 0 210] 0, #[]⟩
noncomputable def o31 (P : Params) : Obj := ⟨.type "tuple", none, .seq #[.ref 25] 0, #[]⟩
noncomputable def o32 (P : Params) : Obj := ⟨.type "tuple", none, .seq #[.str (Str.ofString "__class__") 214] 0, #[]⟩
noncomputable def o33 (P : Params) : Obj := ⟨.none, none, .fields #[], #[]⟩
noncomputable def o34 (P : Params) : Obj := ⟨.type "tuple", none, .seq #[.str (Str.ofString "self") 215, .str (Str.ofString "initial_size") 216] 0, #[]⟩
noncomputable def o35 (P : Params) : Obj := ⟨.type "tuple", none, .seq #[] 0, #[]⟩
noncomputable def o36 (P : Params) : Obj := ⟨.none, none, .func (fdOf (clsSt 0) (Str.ofString "_Accumulator.__init__") 0 [] (.none) (.none) (.none) (.none) (.none)), #[]⟩
noncomputable def o37 (P : Params) : Obj := ⟨.type "code", none, .fields #[.str (Str.ofString "__init__") 211, .str (Str.ofString "_Accumulator.__init__") 212, .str (Str.ofString "/claim/cut.py") 213, .int 8 0, .int 2 0, .int 0 0, .int 0 0, .int 3 0, .ref 32, .bool true, .int 181 0, .ref 33, .none, .ref 34, .ref 35, .ref 36, .int 217 0, .int 8 0, .str (Str.ofString "/claim/cut.py") 218], #[]⟩
noncomputable def o38 (P : Params) : Obj := ⟨.type "function", none, .func (fdOf (clsSt 0) (Str.ofString "_Accumulator.__init__") 3 [((Str.ofString "__class__"), 25)] (.ref 30) (.none) (.str (Str.ofString "cpy313.email.header") 194) (.ref 37) (.ref 31)), #[]⟩
noncomputable def o39 (P : Params) : Obj := ⟨.type "tuple", none, .seq #[] 0, #[]⟩
noncomputable def o40 (P : Params) : Obj := ⟨.none, none, .fields #[], #[]⟩
noncomputable def o41 (P : Params) : Obj := ⟨.type "tuple", none, .seq #[.str (Str.ofString "self") 223, .str (Str.ofString "fws") 224, .str (Str.ofString "string") 225] 0, #[]⟩
noncomputable def o42 (P : Params) : Obj := ⟨.type "tuple", none, .seq #[] 0, #[]⟩
noncomputable def o43 (P : Params) : Obj := ⟨.none, none, .func (fdOf (clsSt 1) (Str.ofString "_Accumulator.push") 0 [] (.none) (.none) (.none) (.none) (.none)), #[]⟩
noncomputable def o44 (P : Params) : Obj := ⟨.type "code", none, .fields #[.str (Str.ofString "push") 220, .str (Str.ofString "_Accumulator.push") 221, .str (Str.ofString "/claim/cut.py") 222, .int 12 0, .int 3 0, .int 0 0, .int 0 0, .int 3 0, .ref 39, .bool true, .int 181 0, .ref 40, .none, .ref 41, .ref 42, .ref 43, .int 226 0, .int 12 0, .str (Str.ofString "/claim/cut.py") 227], #[]⟩
noncomputable def o45 (P : Params) : Obj := ⟨.type "function", none, .func (fdOf (clsSt 1) (Str.ofString "_Accumulator.push") 3 [] (.none) (.none) (.str (Str.ofString "cpy313.email.header") 194) (.ref 44) (.none)), #[]⟩
noncomputable def o46 (P : Params) : Obj := ⟨.type "tuple", none, .seq #[.int 0 229] 0, #[]⟩
noncomputable def o47 (P : Params) : Obj := ⟨.type "tuple", none, .seq #[] 0, #[]⟩
noncomputable def o48 (P : Params) : Obj := ⟨.none, none, .fields #[], #[]⟩
noncomputable def o49 (P : Params) : Obj := ⟨.type "tuple", none, .seq #[.str (Str.ofString "self") 233, .str (Str.ofString "i") 234] 0, #[]⟩
noncomputable def o50 (P : Params) : Obj := ⟨.type "tuple", none, .seq #[] 0, #[]⟩
noncomputable def o51 (P : Params) : Obj := ⟨.none, none, .func (fdOf (clsSt 2) (Str.ofString "_Accumulator.pop_from") 0 [] (.none) (.none) (.none) (.none) (.none)), #[]⟩
noncomputable def o52 (P : Params) : Obj := ⟨.type "code", none, .fields #[.str (Str.ofString "pop_from") 230, .str (Str.ofString "_Accumulator.pop_from") 231, .str (Str.ofString "/claim/cut.py") 232, .int 15 0, .int 2 0, .int 0 0, .int 0 0, .int 3 0, .ref 47, .bool true, .int 181 0, .ref 48, .none, .ref 49, .ref 50, .ref 51, .int 235 0, .int 15 0, .str (Str.ofString "/claim/cut.py") 236], #[]⟩
noncomputable def o53 (P : Params) : Obj := ⟨.type "function", none, .func (fdOf (clsSt 2) (Str.ofString "_Accumulator.pop_from") 3 [] (.ref 46) (.none) (.str (Str.ofString "cpy313.email.header") 194) (.ref 52) (.none)), #[]⟩
noncomputable def o54 (P : Params) : Obj := ⟨.type "tuple", none, .seq #[.ref 25] 0, #[]⟩
noncomputable def o55 (P : Params) : Obj := ⟨.type "tuple", none, .seq #[.str (Str.ofString "__class__") 241] 0, #[]⟩
noncomputable def o56 (P : Params) : Obj := ⟨.none, none, .fields #[], #[]⟩
noncomputable def o57 (P : Params) : Obj := ⟨.type "tuple", none, .seq #[.str (Str.ofString "self") 242] 0, #[]⟩
noncomputable def o58 (P : Params) : Obj := ⟨.type "tuple", none, .seq #[] 0, #[]⟩
noncomputable def o59 (P : Params) : Obj := ⟨.none, none, .func (fdOf (clsSt 3) (Str.ofString "_Accumulator.pop") 0 [] (.none) (.none) (.none) (.none) (.none)), #[]⟩
noncomputable def o60 (P : Params) : Obj := ⟨.type "code", none, .fields #[.str (Str.ofString "pop") 238, .str (Str.ofString "_Accumulator.pop") 239, .str (Str.ofString "/claim/cut.py") 240, .int 18 0, .int 1 0, .int 0 0, .int 0 0, .int 3 0, .ref 55, .bool true, .int 181 0, .ref 56, .none, .ref 57, .ref 58, .ref 59, .int 243 0, .int 18 0, .str (Str.ofString "/claim/cut.py") 244], #[]⟩
noncomputable def o61 (P : Params) : Obj := ⟨.type "function", none, .func (fdOf (clsSt 3) (Str.ofString "_Accumulator.pop") 3 [((Str.ofString "__class__"), 25)] (.none) (.none) (.str (Str.ofString "cpy313.email.header") 194) (.ref 60) (.ref 54)), #[]⟩
noncomputable def o62 (P : Params) : Obj := ⟨.type "tuple", none, .seq #[] 0, #[]⟩
noncomputable def o63 (P : Params) : Obj := ⟨.none, none, .fields #[], #[]⟩
noncomputable def o64 (P : Params) : Obj := ⟨.type "tuple", none, .seq #[.str (Str.ofString "self") 249] 0, #[]⟩
noncomputable def o65 (P : Params) : Obj := ⟨.type "tuple", none, .seq #[] 0, #[]⟩
noncomputable def o66 (P : Params) : Obj := ⟨.none, none, .func (fdOf (clsSt 4) (Str.ofString "_Accumulator.__len__") 0 [] (.none) (.none) (.none) (.none) (.none)), #[]⟩
noncomputable def o67 (P : Params) : Obj := ⟨.type "code", none, .fields #[.str (Str.ofString "__len__") 246, .str (Str.ofString "_Accumulator.__len__") 247, .str (Str.ofString "/claim/cut.py") 248, .int 23 0, .int 1 0, .int 0 0, .int 0 0, .int 3 0, .ref 62, .bool true, .int 181 0, .ref 63, .none, .ref 64, .ref 65, .ref 66, .int 250 0, .int 23 0, .str (Str.ofString "/claim/cut.py") 251], #[]⟩
noncomputable def o68 (P : Params) : Obj := ⟨.type "function", none, .func (fdOf (clsSt 4) (Str.ofString "_Accumulator.__len__") 3 [] (.none) (.none) (.str (Str.ofString "cpy313.email.header") 194) (.ref 67) (.none)), #[]⟩
noncomputable def o69 (P : Params) : Obj := ⟨.type "tuple", none, .seq #[] 0, #[]⟩
noncomputable def o70 (P : Params) : Obj := ⟨.none, none, .fields #[], #[]⟩
noncomputable def o71 (P : Params) : Obj := ⟨.type "tuple", none, .seq #[.str (Str.ofString "self") 256] 0, #[]⟩
noncomputable def o72 (P : Params) : Obj := ⟨.type "tuple", none, .seq #[] 0, #[]⟩
noncomputable def o73 (P : Params) : Obj := ⟨.none, none, .func (fdOf (clsSt 5) (Str.ofString "_Accumulator.__str__") 0 [] (.none) (.none) (.none) (.none) (.none)), #[]⟩
noncomputable def o74 (P : Params) : Obj := ⟨.type "code", none, .fields #[.str (Str.ofString "__str__") 253, .str (Str.ofString "_Accumulator.__str__") 254, .str (Str.ofString "/claim/cut.py") 255, .int 26 0, .int 1 0, .int 0 0, .int 0 0, .int 3 0, .ref 69, .bool true, .int 181 0, .ref 70, .none, .ref 71, .ref 72, .ref 73, .int 257 0, .int 26 0, .str (Str.ofString "/claim/cut.py") 258], #[]⟩
noncomputable def o75 (P : Params) : Obj := ⟨.type "function", none, .func (fdOf (clsSt 5) (Str.ofString "_Accumulator.__str__") 3 [] (.none) (.none) (.str (Str.ofString "cpy313.email.header") 194) (.ref 74) (.none)), #[]⟩
noncomputable def o76 (P : Params) : Obj := ⟨.type "tuple", none, .seq #[.none] 0, #[]⟩
noncomputable def o77 (P : Params) : Obj := ⟨.type "tuple", none, .seq #[] 0, #[]⟩
noncomputable def o78 (P : Params) : Obj := ⟨.none, none, .fields #[], #[]⟩
noncomputable def o79 (P : Params) : Obj := ⟨.type "tuple", none, .seq #[.str (Str.ofString "self") 263, .str (Str.ofString "startval") 264] 0, #[]⟩
noncomputable def o80 (P : Params) : Obj := ⟨.type "tuple", none, .seq #[] 0, #[]⟩
noncomputable def o81 (P : Params) : Obj := ⟨.none, none, .func (fdOf (clsSt 6) (Str.ofString "_Accumulator.reset") 0 [] (.none) (.none) (.none) (.none) (.none)), #[]⟩
noncomputable def o82 (P : Params) : Obj := ⟨.type "code", none, .fields #[.str (Str.ofString "reset") 260, .str (Str.ofString "_Accumulator.reset") 261, .str (Str.ofString "/claim/cut.py") 262, .int 29 0, .int 2 0, .int 0 0, .int 0 0, .int 3 0, .ref 77, .bool true, .int 181 0, .ref 78, .none, .ref 79, .ref 80, .ref 81, .int 265 0, .int 29 0, .str (Str.ofString "/claim/cut.py") 266], #[]⟩
noncomputable def o83 (P : Params) : Obj := ⟨.type "function", none, .func (fdOf (clsSt 6) (Str.ofString "_Accumulator.reset") 3 [] (.ref 76) (.none) (.str (Str.ofString "cpy313.email.header") 194) (.ref 82) (.none)), #[]⟩
noncomputable def o84 (P : Params) : Obj := ⟨.type "tuple", none, .seq #[] 0, #[]⟩
noncomputable def o85 (P : Params) : Obj := ⟨.none, none, .fields #[], #[]⟩
noncomputable def o86 (P : Params) : Obj := ⟨.type "tuple", none, .seq #[.str (Str.ofString "self") 271] 0, #[]⟩
noncomputable def o87 (P : Params) : Obj := ⟨.type "tuple", none, .seq #[] 0, #[]⟩
noncomputable def o88 (P : Params) : Obj := ⟨.none, none, .func (fdOf (clsSt 7) (Str.ofString "_Accumulator.is_onlyws") 0 [] (.none) (.none) (.none) (.none) (.none)), #[]⟩
noncomputable def o89 (P : Params) : Obj := ⟨.type "code", none, .fields #[.str (Str.ofString "is_onlyws") 268, .str (Str.ofString "_Accumulator.is_onlyws") 269, .str (Str.ofString "/claim/cut.py") 270, .int 32 0, .int 1 0, .int 0 0, .int 0 0, .int 3 0, .ref 84, .bool true, .int 181 0, .ref 85, .none, .ref 86, .ref 87, .ref 88, .int 272 0, .int 32 0, .str (Str.ofString "/claim/cut.py") 273], #[]⟩
noncomputable def o90 (P : Params) : Obj := ⟨.type "function", none, .func (fdOf (clsSt 7) (Str.ofString "_Accumulator.is_onlyws") 3 [] (.none) (.none) (.str (Str.ofString "cpy313.email.header") 194) (.ref 89) (.none)), #[]⟩
noncomputable def o91 (P : Params) : Obj := ⟨.type "tuple", none, .seq #[.ref 25] 0, #[]⟩
noncomputable def o92 (P : Params) : Obj := ⟨.type "tuple", none, .seq #[.str (Str.ofString "__class__") 278] 0, #[]⟩
noncomputable def o93 (P : Params) : Obj := ⟨.none, none, .fields #[], #[]⟩
noncomputable def o94 (P : Params) : Obj := ⟨.type "tuple", none, .seq #[.str (Str.ofString "self") 279] 0, #[]⟩
noncomputable def o95 (P : Params) : Obj := ⟨.type "tuple", none, .seq #[] 0, #[]⟩
noncomputable def o96 (P : Params) : Obj := ⟨.none, none, .func (fdOf (clsSt 8) (Str.ofString "_Accumulator.part_count") 0 [] (.none) (.none) (.none) (.none) (.none)), #[]⟩
noncomputable def o97 (P : Params) : Obj := ⟨.type "code", none, .fields #[.str (Str.ofString "part_count") 275, .str (Str.ofString "_Accumulator.part_count") 276, .str (Str.ofString "/claim/cut.py") 277, .int 35 0, .int 1 0, .int 0 0, .int 0 0, .int 3 0, .ref 92, .bool true, .int 181 0, .ref 93, .none, .ref 94, .ref 95, .ref 96, .int 280 0, .int 35 0, .str (Str.ofString "/claim/cut.py") 281], #[]⟩
noncomputable def o98 (P : Params) : Obj := ⟨.type "function", none, .func (fdOf (clsSt 8) (Str.ofString "_Accumulator.part_count") 3 [((Str.ofString "__class__"), 25)] (.none) (.none) (.str (Str.ofString "cpy313.email.header") 194) (.ref 97) (.ref 91)), #[]⟩
noncomputable def o99 (P : Params) : Obj := ⟨.type "tuple", none, .seq #[.str (Str.ofString "_initial_size") 283] 0, #[]⟩
noncomputable def o100 (P : Params) : Obj := ⟨.type "dict", none, .dict #[⟨PyData.keyHash P (Str.ofString "__module__"), .str (Str.ofString "__module__") 205, .str (Str.ofString "cpy313.email.header") 194⟩, ⟨PyData.keyHash P (Str.ofString "__firstlineno__"), .str (Str.ofString "__firstlineno__") 209, .int 6 208⟩, ⟨PyData.keyHash P (Str.ofString "__init__"), .str (Str.ofString "__init__") 219, .ref 38⟩, ⟨PyData.keyHash P (Str.ofString "push"), .str (Str.ofString "push") 228, .ref 45⟩, ⟨PyData.keyHash P (Str.ofString "pop_from"), .str (Str.ofString "pop_from") 237, .ref 53⟩, ⟨PyData.keyHash P (Str.ofString "pop"), .str (Str.ofString "pop") 245, .ref 61⟩, ⟨PyData.keyHash P (Str.ofString "__len__"), .str (Str.ofString "__len__") 252, .ref 68⟩, ⟨PyData.keyHash P (Str.ofString "__str__"), .str (Str.ofString "__str__") 259, .ref 75⟩, ⟨PyData.keyHash P (Str.ofString "reset"), .str (Str.ofString "reset") 267, .ref 83⟩, ⟨PyData.keyHash P (Str.ofString "is_onlyws"), .str (Str.ofString "is_onlyws") 274, .ref 90⟩, ⟨PyData.keyHash P (Str.ofString "part_count"), .str (Str.ofString "part_count") 282, .ref 98⟩, ⟨PyData.keyHash P (Str.ofString "__static_attributes__"), .str (Str.ofString "__static_attributes__") 284, .ref 99⟩, ⟨PyData.keyHash P (Str.ofString "__dict__"), .str (Str.ofString "__dict__") 287, .ref 102⟩, ⟨PyData.keyHash P (Str.ofString "__weakref__"), .str (Str.ofString "__weakref__") 289, .ref 103⟩, ⟨PyData.keyHash P (Str.ofString "__doc__"), .str (Str.ofString "__doc__") 290, .none⟩] 5, #[]⟩
noncomputable def o101 (P : Params) : Obj := ⟨.type "type", none, .cls { name := (Str.ofString "_Accumulator"), bases := [.type "list"], mro := [.ref 101, .type "list", .type "object"], ns := 100, qualname := (Str.ofString "_Accumulator"), hasDict := true, slotNames := [], subclasses := [], abstract := false, collection := none, hasDel := false }, #[some (.ref 22), none, some (.str (Str.ofString "_Accumulator") 198), some (.str (Str.ofString "_Accumulator") 206), some (.builtin "list.__new__"), some (.bool true)]⟩
noncomputable def o102 (P : Params) : Obj := ⟨.type "getset_descriptor", none, .fields #[.str (Str.ofString "__dict__") 286, .ref 101, .builtin "function.__dict__", .builtin "function.__dict__#set"], #[]⟩
noncomputable def o103 (P : Params) : Obj := ⟨.type "getset_descriptor", none, .fields #[.str (Str.ofString "__weakref__") 288, .ref 101, .builtin "ExceptionGroup.__weakref__", .none], #[]⟩
noncomputable def o104 (P : Params) : Obj := ⟨.type "super", none, .fields #[.ref 101, .ref 101, .ref 101], #[]⟩
noncomputable def o105 (P : Params) : Obj := ⟨.type "builtin_function_or_method", none, .fields #[.builtin "object.__init_subclass__", .ref 101], #[]⟩
noncomputable def o106 (P : Params) : Obj := ⟨.type "tuple", none, .seq #[] 0, #[]⟩
noncomputable def o107 (P : Params) : Obj := ⟨.none, none, .fields #[], #[]⟩
noncomputable def o108 (P : Params) : Obj := ⟨.type "tuple", none, .seq #[.str (Str.ofString "code") 298] 0, #[]⟩
noncomputable def o109 (P : Params) : Obj := ⟨.type "tuple", none, .seq #[] 0, #[]⟩
noncomputable def o110 (P : Params) : Obj := ⟨.none, none, .func (fdOf (topSt 5) (Str.ofString "in_table_c11") 0 [] (.none) (.none) (.none) (.none) (.none)), #[]⟩
noncomputable def o111 (P : Params) : Obj := ⟨.type "code", none, .fields #[.str (Str.ofString "in_table_c11") 295, .str (Str.ofString "in_table_c11") 296, .str (Str.ofString "/claim/cut.py") 297, .int 38 0, .int 1 0, .int 0 0, .int 0 0, .int 3 0, .ref 106, .bool true, .int 181 0, .ref 107, .none, .ref 108, .ref 109, .ref 110, .int 299 0, .int 38 0, .str (Str.ofString "/claim/cut.py") 300], #[]⟩
noncomputable def o112 (P : Params) : Obj := ⟨.type "function", none, .func (fdOf (topSt 5) (Str.ofString "in_table_c11") 3 [] (.none) (.none) (.str (Str.ofString "cpy313.stringprep") 293) (.ref 111) (.none)), #[]⟩
noncomputable def treeB (P : Params) : BT := (.node (boot_o_0 P) (.node (boot_o_1 P) (.node (o3v1 P) (.node (boot_o_7 P) (.node (o15 P) (.node (o31 P) (.node (o63 P) .nil .nil) (.node (o95 P) .nil .nil)) (.node (o47 P) (.node (o79 P) .nil .nil) (.node (o111 P) .nil .nil))) (.node (o23 P) (.node (o39 P) (.node (o71 P) .nil .nil) (.node (o103 P) .nil .nil)) (.node (o55 P) (.node (o87 P) .nil .nil) .nil))) (.node (o11 P) (.node (o19 P) (.node (o35 P) (.node (o67 P) .nil .nil) (.node (o99 P) .nil .nil)) (.node (o51 P) (.node (o83 P) .nil .nil) .nil)) (.node (o27 P) (.node (o43 P) (.node (o75 P) .nil .nil) (.node (o107 P) .nil .nil)) (.node (o59 P) (.node (o91 P) .nil .nil) .nil)))) (.node (boot_o_5 P) (.node (boot_o_9 P) (.node (o17 P) (.node (o33 P) (.node (o65 P) .nil .nil) (.node (o97 P) .nil .nil)) (.node (o49 P) (.node (o81 P) .nil .nil) .nil)) (.node (o25 P) (.node (o41 P) (.node (o73 P) .nil .nil) (.node (o105 P) .nil .nil)) (.node (o57 P) (.node (o89 P) .nil .nil) .nil))) (.node (o13 P) (.node (o21 P) (.node (o37 P) (.node (o69 P) .nil .nil) (.node (o101 P) .nil .nil)) (.node (o53 P) (.node (o85 P) .nil .nil) .nil)) (.node (o29 P) (.node (o45 P) (.node (o77 P) .nil .nil) (.node (o109 P) .nil .nil)) (.node (o61 P) (.node (o93 P) .nil .nil) .nil))))) (.node (boot_o_2 P) (.node (boot_o_4 P) (.node (boot_o_8 P) (.node (o16 P) (.node (o32 P) (.node (o64 P) .nil .nil) (.node (o96 P) .nil .nil)) (.node (o48 P) (.node (o80 P) .nil .nil) (.node (o112 P) .nil .nil))) (.node (o24 P) (.node (o40 P) (.node (o72 P) .nil .nil) (.node (o104 P) .nil .nil)) (.node (o56 P) (.node (o88 P) .nil .nil) .nil))) (.node (o12v1 P) (.node (o20 P) (.node (o36 P) (.node (o68 P) .nil .nil) (.node (o100 P) .nil .nil)) (.node (o52 P) (.node (o84 P) .nil .nil) .nil)) (.node (o28 P) (.node (o44 P) (.node (o76 P) .nil .nil) (.node (o108 P) .nil .nil)) (.node (o60 P) (.node (o92 P) .nil .nil) .nil)))) (.node (boot_o_6 P) (.node (boot_o_10 P) (.node (o18 P) (.node (o34 P) (.node (o66 P) .nil .nil) (.node (o98 P) .nil .nil)) (.node (o50 P) (.node (o82 P) .nil .nil) .nil)) (.node (o26 P) (.node (o42 P) (.node (o74 P) .nil .nil) (.node (o106 P) .nil .nil)) (.node (o58 P) (.node (o90 P) .nil .nil) .nil))) (.node (o14 P) (.node (o22 P) (.node (o38 P) (.node (o70 P) .nil .nil) (.node (o102 P) .nil .nil)) (.node (o54 P) (.node (o86 P) .nil .nil) .nil)) (.node (o30 P) (.node (o46 P) (.node (o78 P) .nil .nil) (.node (o110 P) .nil .nil)) (.node (o62 P) (.node (o94 P) .nil .nil) .nil))))))
noncomputable def o3v2 (P : Params) : Obj := ⟨.type "dict", none, .dict #[⟨PyData.keyHash P (Str.ofString "__name__"), .str (Str.ofString "__name__") 165, .str (Str.ofString "cpy313.stringprep") 293⟩, ⟨PyData.keyHash P (Str.ofString "__doc__"), .str (Str.ofString "__doc__") 166, .none⟩, ⟨PyData.keyHash P (Str.ofString "__package__"), .str (Str.ofString "__package__") 167, .none⟩, ⟨PyData.keyHash P (Str.ofString "__loader__"), .str (Str.ofString "__loader__") 168, .builtin "__main__.__loader__#opaque"⟩, ⟨PyData.keyHash P (Str.ofString "__spec__"), .str (Str.ofString "__spec__") 169, .none⟩, ⟨PyData.keyHash P (Str.ofString "__annotations__"), .str (Str.ofString "__annotations__") 170, .ref 6⟩, ⟨PyData.keyHash P (Str.ofString "__builtins__"), .str (Str.ofString "__builtins__") 171, .ref 4⟩, ⟨PyData.keyHash P (Str.ofString "__file__"), .str (Str.ofString "__file__") 173, .str (Str.ofString "/claim/cut.py") 172⟩, ⟨PyData.keyHash P (Str.ofString "__cached__"), .str (Str.ofString "__cached__") 174, .none⟩, ⟨PyData.keyHash P (Str.ofString "_wall"), .str (Str.ofString "_wall") 193, .ref 21⟩, ⟨PyData.keyHash P (Str.ofString "EMPTYSTRING"), .str (Str.ofString "EMPTYSTRING") 197, .str (Str.ofString "") 196⟩, ⟨PyData.keyHash P (Str.ofString "_Accumulator"), .str (Str.ofString "_Accumulator") 292, .ref 101⟩, ⟨PyData.keyHash P (Str.ofString "in_table_c11"), .str (Str.ofString "in_table_c11") 301, .ref 112⟩, ⟨PyData.keyHash P (Str.ofString "c8_set"), .str (Str.ofString "c8_set") 342, .ref 126⟩] 14, #[]⟩
noncomputable def o113 (P : Params) : Obj := ⟨.type "list", none, .seq #[.int 832 302, .int 833 303, .int 8206 304, .int 8207 305] 0, #[]⟩
noncomputable def o114 (P : Params) : Obj := ⟨.type "range", none, .fields #[.int 8234 306, .int 8239 307, .int 1 308], #[]⟩
noncomputable def o115 (P : Params) : Obj := ⟨.type "list", none, .seq #[.int 8234 311, .int 8235 312, .int 8236 313, .int 8237 314, .int 8238 315] 7, #[]⟩
noncomputable def o116 (P : Params) : Obj := ⟨.type "range_iterator", none, .fields #[.int 8239 0, .int 0 0, .int 1 0], #[]⟩
noncomputable def o117 (P : Params) : Obj := ⟨.type "tuple", none, .seq #[] 0, #[]⟩
noncomputable def o118 (P : Params) : Obj := ⟨.type "StopIteration", none, .fields #[.ref 117, .none, .none, .none, .bool false, .none], #[]⟩
noncomputable def o119 (P : Params) : Obj := ⟨.type "list", none, .seq #[.int 832 302, .int 833 303, .int 8206 304, .int 8207 305, .int 8234 311, .int 8235 312, .int 8236 313, .int 8237 314, .int 8238 315] 0, #[]⟩
noncomputable def o120 (P : Params) : Obj := ⟨.type "range", none, .fields #[.int 8298 316, .int 8304 317, .int 1 318], #[]⟩
noncomputable def o121 (P : Params) : Obj := ⟨.type "list", none, .seq #[.int 8298 321, .int 8299 322, .int 8300 323, .int 8301 324, .int 8302 325, .int 8303 326] 8, #[]⟩
noncomputable def o122 (P : Params) : Obj := ⟨.type "range_iterator", none, .fields #[.int 8304 0, .int 0 0, .int 1 0], #[]⟩
noncomputable def o123 (P : Params) : Obj := ⟨.type "tuple", none, .seq #[] 0, #[]⟩
noncomputable def o124 (P : Params) : Obj := ⟨.type "StopIteration", none, .fields #[.ref 123, .none, .none, .none, .bool false, .none], #[]⟩
noncomputable def o125 (P : Params) : Obj := ⟨.type "list", none, .seq #[.int 832 302, .int 833 303, .int 8206 304, .int 8207 305, .int 8234 311, .int 8235 312, .int 8236 313, .int 8237 314, .int 8238 315, .int 8298 321, .int 8299 322, .int 8300 323, .int 8301 324, .int 8302 325, .int 8303 326] 0, #[]⟩
noncomputable def o126 (P : Params) : Obj := ⟨.type "set", none, .set #[(832, .int 832 302), (833, .int 833 303), (8234, .int 8234 311), (8235, .int 8235 312), (8236, .int 8236 313), (8237, .int 8237 314), (8206, .int 8206 304), (8207, .int 8207 305), (8238, .int 8238 315), (8298, .int 8298 321), (8299, .int 8299 322), (8300, .int 8300 323), (8301, .int 8301 324), (8302, .int 8302 325), (8303, .int 8303 326)] 16 { mask := 31, place := #[0, 1, 10, 11, 12, 13, 14, 15, 16, 17, 18, 19, 20, 21, 22], dummies := #[], finger := 0, led := !P.followText "set-order", moves := 1, plain := true }, #[]⟩
noncomputable def o127 (P : Params) : Obj := ⟨.type "list_iterator", none, .fields #[.none, .int 15 0], #[]⟩
noncomputable def o128 (P : Params) : Obj := ⟨.type "tuple", none, .seq #[] 0, #[]⟩
noncomputable def o129 (P : Params) : Obj := ⟨.type "StopIteration", none, .fields #[.ref 128, .none, .none, .none, .bool false, .none], #[]⟩
noncomputable def treeC (P : Params) : BT := (.node (boot_o_0 P) (.node (boot_o_1 P) (.node (o3v2 P) (.node (boot_o_7 P) (.node (o15 P) (.node (o31 P) (.node (o63 P) (.node (o127 P) .nil .nil) .nil) (.node (o95 P) .nil .nil)) (.node (o47 P) (.node (o79 P) .nil .nil) (.node (o111 P) .nil .nil))) (.node (o23 P) (.node (o39 P) (.node (o71 P) .nil .nil) (.node (o103 P) .nil .nil)) (.node (o55 P) (.node (o87 P) .nil .nil) (.node (o119 P) .nil .nil)))) (.node (o11 P) (.node (o19 P) (.node (o35 P) (.node (o67 P) .nil .nil) (.node (o99 P) .nil .nil)) (.node (o51 P) (.node (o83 P) .nil .nil) (.node (o115 P) .nil .nil))) (.node (o27 P) (.node (o43 P) (.node (o75 P) .nil .nil) (.node (o107 P) .nil .nil)) (.node (o59 P) (.node (o91 P) .nil .nil) (.node (o123 P) .nil .nil))))) (.node (boot_o_5 P) (.node (boot_o_9 P) (.node (o17 P) (.node (o33 P) (.node (o65 P) (.node (o129 P) .nil .nil) .nil) (.node (o97 P) .nil .nil)) (.node (o49 P) (.node (o81 P) .nil .nil) (.node (o113 P) .nil .nil))) (.node (o25 P) (.node (o41 P) (.node (o73 P) .nil .nil) (.node (o105 P) .nil .nil)) (.node (o57 P) (.node (o89 P) .nil .nil) (.node (o121 P) .nil .nil)))) (.node (o13 P) (.node (o21 P) (.node (o37 P) (.node (o69 P) .nil .nil) (.node (o101 P) .nil .nil)) (.node (o53 P) (.node (o85 P) .nil .nil) (.node (o117 P) .nil .nil))) (.node (o29 P) (.node (o45 P) (.node (o77 P) .nil .nil) (.node (o109 P) .nil .nil)) (.node (o61 P) (.node (o93 P) .nil .nil) (.node (o125 P) .nil .nil)))))) (.node (boot_o_2 P) (.node (boot_o_4 P) (.node (boot_o_8 P) (.node (o16 P) (.node (o32 P) (.node (o64 P) (.node (o128 P) .nil .nil) .nil) (.node (o96 P) .nil .nil)) (.node (o48 P) (.node (o80 P) .nil .nil) (.node (o112 P) .nil .nil))) (.node (o24 P) (.node (o40 P) (.node (o72 P) .nil .nil) (.node (o104 P) .nil .nil)) (.node (o56 P) (.node (o88 P) .nil .nil) (.node (o120 P) .nil .nil)))) (.node (o12v1 P) (.node (o20 P) (.node (o36 P) (.node (o68 P) .nil .nil) (.node (o100 P) .nil .nil)) (.node (o52 P) (.node (o84 P) .nil .nil) (.node (o116 P) .nil .nil))) (.node (o28 P) (.node (o44 P) (.node (o76 P) .nil .nil) (.node (o108 P) .nil .nil)) (.node (o60 P) (.node (o92 P) .nil .nil) (.node (o124 P) .nil .nil))))) (.node (boot_o_6 P) (.node (boot_o_10 P) (.node (o18 P) (.node (o34 P) (.node (o66 P) .nil .nil) (.node (o98 P) .nil .nil)) (.node (o50 P) (.node (o82 P) .nil .nil) (.node (o114 P) .nil .nil))) (.node (o26 P) (.node (o42 P) (.node (o74 P) .nil .nil) (.node (o106 P) .nil .nil)) (.node (o58 P) (.node (o90 P) .nil .nil) (.node (o122 P) .nil .nil)))) (.node (o14 P) (.node (o22 P) (.node (o38 P) (.node (o70 P) .nil .nil) (.node (o102 P) .nil .nil)) (.node (o54 P) (.node (o86 P) .nil .nil) (.node (o118 P) .nil .nil))) (.node (o30 P) (.node (o46 P) (.node (o78 P) .nil .nil) (.node (o110 P) .nil .nil)) (.node (o62 P) (.node (o94 P) .nil .nil) (.node (o126 P) .nil .nil)))))))
noncomputable def o3v3 (P : Params) : Obj := ⟨.type "dict", none, .dict #[⟨PyData.keyHash P (Str.ofString "__name__"), .str (Str.ofString "__name__") 165, .str (Str.ofString "cpy313.stringprep") 293⟩, ⟨PyData.keyHash P (Str.ofString "__doc__"), .str (Str.ofString "__doc__") 166, .none⟩, ⟨PyData.keyHash P (Str.ofString "__package__"), .str (Str.ofString "__package__") 167, .none⟩, ⟨PyData.keyHash P (Str.ofString "__loader__"), .str (Str.ofString "__loader__") 168, .builtin "__main__.__loader__#opaque"⟩, ⟨PyData.keyHash P (Str.ofString "__spec__"), .str (Str.ofString "__spec__") 169, .none⟩, ⟨PyData.keyHash P (Str.ofString "__annotations__"), .str (Str.ofString "__annotations__") 170, .ref 6⟩, ⟨PyData.keyHash P (Str.ofString "__builtins__"), .str (Str.ofString "__builtins__") 171, .ref 4⟩, ⟨PyData.keyHash P (Str.ofString "__file__"), .str (Str.ofString "__file__") 173, .str (Str.ofString "/claim/cut.py") 172⟩, ⟨PyData.keyHash P (Str.ofString "__cached__"), .str (Str.ofString "__cached__") 174, .none⟩, ⟨PyData.keyHash P (Str.ofString "_wall"), .str (Str.ofString "_wall") 193, .ref 21⟩, ⟨PyData.keyHash P (Str.ofString "EMPTYSTRING"), .str (Str.ofString "EMPTYSTRING") 197, .str (Str.ofString "") 196⟩, ⟨PyData.keyHash P (Str.ofString "_Accumulator"), .str (Str.ofString "_Accumulator") 292, .ref 101⟩, ⟨PyData.keyHash P (Str.ofString "in_table_c11"), .str (Str.ofString "in_table_c11") 301, .ref 112⟩, ⟨PyData.keyHash P (Str.ofString "c8_set"), .str (Str.ofString "c8_set") 342, .ref 126⟩, ⟨PyData.keyHash P (Str.ofString "in_table_c8"), .str (Str.ofString "in_table_c8") 349, .ref 136⟩] 15, #[]⟩
noncomputable def o12v2 (P : Params) : Obj := ⟨.none, none, .fields #[.int 1 0, .int 0 0, .ref 20, .int 6 0, .int 0 0, .ref 28, .int 38 0, .int 0 0, .ref 111, .int 41 0, .int 0 0, .ref 135], #[]⟩
noncomputable def o130 (P : Params) : Obj := ⟨.type "tuple", none, .seq #[] 0, #[]⟩
noncomputable def o131 (P : Params) : Obj := ⟨.none, none, .fields #[], #[]⟩
noncomputable def o132 (P : Params) : Obj := ⟨.type "tuple", none, .seq #[.str (Str.ofString "code") 346] 0, #[]⟩
noncomputable def o133 (P : Params) : Obj := ⟨.type "tuple", none, .seq #[] 0, #[]⟩
noncomputable def o134 (P : Params) : Obj := ⟨.none, none, .func (fdOf (topSt 7) (Str.ofString "in_table_c8") 0 [] (.none) (.none) (.none) (.none) (.none)), #[]⟩
noncomputable def o135 (P : Params) : Obj := ⟨.type "code", none, .fields #[.str (Str.ofString "in_table_c8") 343, .str (Str.ofString "in_table_c8") 344, .str (Str.ofString "/claim/cut.py") 345, .int 41 0, .int 1 0, .int 0 0, .int 0 0, .int 3 0, .ref 130, .bool true, .int 181 0, .ref 131, .none, .ref 132, .ref 133, .ref 134, .int 347 0, .int 41 0, .str (Str.ofString "/claim/cut.py") 348], #[]⟩
noncomputable def o136 (P : Params) : Obj := ⟨.type "function", none, .func (fdOf (topSt 7) (Str.ofString "in_table_c8") 3 [] (.none) (.none) (.str (Str.ofString "cpy313.stringprep") 293) (.ref 135) (.none)), #[]⟩
noncomputable def o137 (P : Params) : Obj := ⟨.type "list", none, .seq #[.int 917505 350] 0, #[]⟩
noncomputable def o138 (P : Params) : Obj := ⟨.type "range", none, .fields #[.int 917536 351, .int 917632 352, .int 1 353], #[]⟩
noncomputable def o139 (P : Params) : Obj := ⟨.type "list", none, .seq #[.int 917536 356, .int 917537 357, .int 917538 358, .int 917539 359, .int 917540 360, .int 917541 361, .int 917542 362, .int 917543 363, .int 917544 364, .int 917545 365, .int 917546 366, .int 917547 367, .int 917548 368, .int 917549 369, .int 917550 370, .int 917551 371, .int 917552 372, .int 917553 373, .int 917554 374, .int 917555 375, .int 917556 376, .int 917557 377, .int 917558 378, .int 917559 379, .int 917560 380, .int 917561 381, .int 917562 382, .int 917563 383, .int 917564 384, .int 917565 385, .int 917566 386, .int 917567 387, .int 917568 388, .int 917569 389, .int 917570 390, .int 917571 391, .int 917572 392, .int 917573 393, .int 917574 394, .int 917575 395, .int 917576 396, .int 917577 397, .int 917578 398, .int 917579 399, .int 917580 400, .int 917581 401, .int 917582 402, .int 917583 403, .int 917584 404, .int 917585 405, .int 917586 406, .int 917587 407, .int 917588 408, .int 917589 409, .int 917590 410, .int 917591 411, .int 917592 412, .int 917593 413, .int 917594 414, .int 917595 415, .int 917596 416, .int 917597 417, .int 917598 418, .int 917599 419, .int 917600 420, .int 917601 421, .int 917602 422, .int 917603 423, .int 917604 424, .int 917605 425, .int 917606 426, .int 917607 427, .int 917608 428, .int 917609 429, .int 917610 430, .int 917611 431, .int 917612 432, .int 917613 433, .int 917614 434, .int 917615 435, .int 917616 436, .int 917617 437, .int 917618 438, .int 917619 439, .int 917620 440, .int 917621 441, .int 917622 442, .int 917623 443, .int 917624 444, .int 917625 445, .int 917626 446, .int 917627 447, .int 917628 448, .int 917629 449, .int 917630 450, .int 917631 451] 98, #[]⟩
noncomputable def o140 (P : Params) : Obj := ⟨.type "range_iterator", none, .fields #[.int 917632 0, .int 0 0, .int 1 0], #[]⟩
noncomputable def o141 (P : Params) : Obj := ⟨.type "tuple", none, .seq #[] 0, #[]⟩
noncomputable def o142 (P : Params) : Obj := ⟨.type "StopIteration", none, .fields #[.ref 141, .none, .none, .none, .bool false, .none], #[]⟩
noncomputable def o143 (P : Params) : Obj := ⟨.type "list", none, .seq #[.int 917505 350, .int 917536 356, .int 917537 357, .int 917538 358, .int 917539 359, .int 917540 360, .int 917541 361, .int 917542 362, .int 917543 363, .int 917544 364, .int 917545 365, .int 917546 366, .int 917547 367, .int 917548 368, .int 917549 369, .int 917550 370, .int 917551 371, .int 917552 372, .int 917553 373, .int 917554 374, .int 917555 375, .int 917556 376, .int 917557 377, .int 917558 378, .int 917559 379, .int 917560 380, .int 917561 381, .int 917562 382, .int 917563 383, .int 917564 384, .int 917565 385, .int 917566 386, .int 917567 387, .int 917568 388, .int 917569 389, .int 917570 390, .int 917571 391, .int 917572 392, .int 917573 393, .int 917574 394, .int 917575 395, .int 917576 396, .int 917577 397, .int 917578 398, .int 917579 399, .int 917580 400, .int 917581 401, .int 917582 402, .int 917583 403, .int 917584 404, .int 917585 405, .int 917586 406, .int 917587 407, .int 917588 408, .int 917589 409, .int 917590 410, .int 917591 411, .int 917592 412, .int 917593 413, .int 917594 414, .int 917595 415, .int 917596 416, .int 917597 417, .int 917598 418, .int 917599 419, .int 917600 420, .int 917601 421, .int 917602 422, .int 917603 423, .int 917604 424, .int 917605 425, .int 917606 426, .int 917607 427, .int 917608 428, .int 917609 429, .int 917610 430, .int 917611 431, .int 917612 432, .int 917613 433, .int 917614 434, .int 917615 435, .int 917616 436, .int 917617 437, .int 917618 438, .int 917619 439, .int 917620 440, .int 917621 441, .int 917622 442, .int 917623 443, .int 917624 444, .int 917625 445, .int 917626 446, .int 917627 447, .int 917628 448, .int 917629 449, .int 917630 450, .int 917631 451] 0, #[]⟩
noncomputable def o144 (P : Params) : Obj := ⟨.type "set", none, .set #[(917505, .int 917505 350)] 1 { mask := 7, place := #[1], dummies := #[], finger := 0, led := !P.followText "set-order", moves := 0, plain := true }, #[]⟩
noncomputable def o145 (P : Params) : Obj := ⟨.type "list_iterator", none, .fields #[.ref 143, .int 1 0], #[]⟩
noncomputable def treeL0 (P : Params) : BT := (.node (boot_o_0 P) (.node (boot_o_1 P) (.node (o3v3 P) (.node (boot_o_7 P) (.node (o15 P) (.node (o31 P) (.node (o63 P) (.node (o127 P) .nil .nil) .nil) (.node (o95 P) .nil .nil)) (.node (o47 P) (.node (o79 P) (.node (o143 P) .nil .nil) .nil) (.node (o111 P) .nil .nil))) (.node (o23 P) (.node (o39 P) (.node (o71 P) (.node (o135 P) .nil .nil) .nil) (.node (o103 P) .nil .nil)) (.node (o55 P) (.node (o87 P) .nil .nil) (.node (o119 P) .nil .nil)))) (.node (o11 P) (.node (o19 P) (.node (o35 P) (.node (o67 P) (.node (o131 P) .nil .nil) .nil) (.node (o99 P) .nil .nil)) (.node (o51 P) (.node (o83 P) .nil .nil) (.node (o115 P) .nil .nil))) (.node (o27 P) (.node (o43 P) (.node (o75 P) (.node (o139 P) .nil .nil) .nil) (.node (o107 P) .nil .nil)) (.node (o59 P) (.node (o91 P) .nil .nil) (.node (o123 P) .nil .nil))))) (.node (boot_o_5 P) (.node (boot_o_9 P) (.node (o17 P) (.node (o33 P) (.node (o65 P) (.node (o129 P) .nil .nil) .nil) (.node (o97 P) .nil .nil)) (.node (o49 P) (.node (o81 P) (.node (o145 P) .nil .nil) .nil) (.node (o113 P) .nil .nil))) (.node (o25 P) (.node (o41 P) (.node (o73 P) (.node (o137 P) .nil .nil) .nil) (.node (o105 P) .nil .nil)) (.node (o57 P) (.node (o89 P) .nil .nil) (.node (o121 P) .nil .nil)))) (.node (o13 P) (.node (o21 P) (.node (o37 P) (.node (o69 P) (.node (o133 P) .nil .nil) .nil) (.node (o101 P) .nil .nil)) (.node (o53 P) (.node (o85 P) .nil .nil) (.node (o117 P) .nil .nil))) (.node (o29 P) (.node (o45 P) (.node (o77 P) (.node (o141 P) .nil .nil) .nil) (.node (o109 P) .nil .nil)) (.node (o61 P) (.node (o93 P) .nil .nil) (.node (o125 P) .nil .nil)))))) (.node (boot_o_2 P) (.node (boot_o_4 P) (.node (boot_o_8 P) (.node (o16 P) (.node (o32 P) (.node (o64 P) (.node (o128 P) .nil .nil) .nil) (.node (o96 P) .nil .nil)) (.node (o48 P) (.node (o80 P) (.node (o144 P) .nil .nil) .nil) (.node (o112 P) .nil .nil))) (.node (o24 P) (.node (o40 P) (.node (o72 P) (.node (o136 P) .nil .nil) .nil) (.node (o104 P) .nil .nil)) (.node (o56 P) (.node (o88 P) .nil .nil) (.node (o120 P) .nil .nil)))) (.node (o12v2 P) (.node (o20 P) (.node (o36 P) (.node (o68 P) (.node (o132 P) .nil .nil) .nil) (.node (o100 P) .nil .nil)) (.node (o52 P) (.node (o84 P) .nil .nil) (.node (o116 P) .nil .nil))) (.node (o28 P) (.node (o44 P) (.node (o76 P) (.node (o140 P) .nil .nil) .nil) (.node (o108 P) .nil .nil)) (.node (o60 P) (.node (o92 P) .nil .nil) (.node (o124 P) .nil .nil))))) (.node (boot_o_6 P) (.node (boot_o_10 P) (.node (o18 P) (.node (o34 P) (.node (o66 P) (.node (o130 P) .nil .nil) .nil) (.node (o98 P) .nil .nil)) (.node (o50 P) (.node (o82 P) .nil .nil) (.node (o114 P) .nil .nil))) (.node (o26 P) (.node (o42 P) (.node (o74 P) (.node (o138 P) .nil .nil) .nil) (.node (o106 P) .nil .nil)) (.node (o58 P) (.node (o90 P) .nil .nil) (.node (o122 P) .nil .nil)))) (.node (o14 P) (.node (o22 P) (.node (o38 P) (.node (o70 P) (.node (o134 P) .nil .nil) .nil) (.node (o102 P) .nil .nil)) (.node (o54 P) (.node (o86 P) .nil .nil) (.node (o118 P) .nil .nil))) (.node (o30 P) (.node (o46 P) (.node (o78 P) (.node (o142 P) .nil .nil) .nil) (.node (o110 P) .nil .nil)) (.node (o62 P) (.node (o94 P) .nil .nil) (.node (o126 P) .nil .nil)))))))
noncomputable def o144v1 (P : Params) : Obj := ⟨.type "set", none, .set #[(917536, .int 917536 356), (917505, .int 917505 350), (917538, .int 917538 358), (917537, .int 917537 357)] 4 { mask := 7, place := #[0, 1, 2, 7], dummies := #[], finger := 0, led := !P.followText "set-order", moves := 0, plain := true }, #[]⟩
noncomputable def o145v1 (P : Params) : Obj := ⟨.type "list_iterator", none, .fields #[.ref 143, .int 4 0], #[]⟩
noncomputable def treeL1 (P : Params) : BT := (.node (boot_o_0 P) (.node (boot_o_1 P) (.node (o3v3 P) (.node (boot_o_7 P) (.node (o15 P) (.node (o31 P) (.node (o63 P) (.node (o127 P) .nil .nil) .nil) (.node (o95 P) .nil .nil)) (.node (o47 P) (.node (o79 P) (.node (o143 P) .nil .nil) .nil) (.node (o111 P) .nil .nil))) (.node (o23 P) (.node (o39 P) (.node (o71 P) (.node (o135 P) .nil .nil) .nil) (.node (o103 P) .nil .nil)) (.node (o55 P) (.node (o87 P) .nil .nil) (.node (o119 P) .nil .nil)))) (.node (o11 P) (.node (o19 P) (.node (o35 P) (.node (o67 P) (.node (o131 P) .nil .nil) .nil) (.node (o99 P) .nil .nil)) (.node (o51 P) (.node (o83 P) .nil .nil) (.node (o115 P) .nil .nil))) (.node (o27 P) (.node (o43 P) (.node (o75 P) (.node (o139 P) .nil .nil) .nil) (.node (o107 P) .nil .nil)) (.node (o59 P) (.node (o91 P) .nil .nil) (.node (o123 P) .nil .nil))))) (.node (boot_o_5 P) (.node (boot_o_9 P) (.node (o17 P) (.node (o33 P) (.node (o65 P) (.node (o129 P) .nil .nil) .nil) (.node (o97 P) .nil .nil)) (.node (o49 P) (.node (o81 P) (.node (o145v1 P) .nil .nil) .nil) (.node (o113 P) .nil .nil))) (.node (o25 P) (.node (o41 P) (.node (o73 P) (.node (o137 P) .nil .nil) .nil) (.node (o105 P) .nil .nil)) (.node (o57 P) (.node (o89 P) .nil .nil) (.node (o121 P) .nil .nil)))) (.node (o13 P) (.node (o21 P) (.node (o37 P) (.node (o69 P) (.node (o133 P) .nil .nil) .nil) (.node (o101 P) .nil .nil)) (.node (o53 P) (.node (o85 P) .nil .nil) (.node (o117 P) .nil .nil))) (.node (o29 P) (.node (o45 P) (.node (o77 P) (.node (o141 P) .nil .nil) .nil) (.node (o109 P) .nil .nil)) (.node (o61 P) (.node (o93 P) .nil .nil) (.node (o125 P) .nil .nil)))))) (.node (boot_o_2 P) (.node (boot_o_4 P) (.node (boot_o_8 P) (.node (o16 P) (.node (o32 P) (.node (o64 P) (.node (o128 P) .nil .nil) .nil) (.node (o96 P) .nil .nil)) (.node (o48 P) (.node (o80 P) (.node (o144v1 P) .nil .nil) .nil) (.node (o112 P) .nil .nil))) (.node (o24 P) (.node (o40 P) (.node (o72 P) (.node (o136 P) .nil .nil) .nil) (.node (o104 P) .nil .nil)) (.node (o56 P) (.node (o88 P) .nil .nil) (.node (o120 P) .nil .nil)))) (.node (o12v2 P) (.node (o20 P) (.node (o36 P) (.node (o68 P) (.node (o132 P) .nil .nil) .nil) (.node (o100 P) .nil .nil)) (.node (o52 P) (.node (o84 P) .nil .nil) (.node (o116 P) .nil .nil))) (.node (o28 P) (.node (o44 P) (.node (o76 P) (.node (o140 P) .nil .nil) .nil) (.node (o108 P) .nil .nil)) (.node (o60 P) (.node (o92 P) .nil .nil) (.node (o124 P) .nil .nil))))) (.node (boot_o_6 P) (.node (boot_o_10 P) (.node (o18 P) (.node (o34 P) (.node (o66 P) (.node (o130 P) .nil .nil) .nil) (.node (o98 P) .nil .nil)) (.node (o50 P) (.node (o82 P) .nil .nil) (.node (o114 P) .nil .nil))) (.node (o26 P) (.node (o42 P) (.node (o74 P) (.node (o138 P) .nil .nil) .nil) (.node (o106 P) .nil .nil)) (.node (o58 P) (.node (o90 P) .nil .nil) (.node (o122 P) .nil .nil)))) (.node (o14 P) (.node (o22 P) (.node (o38 P) (.node (o70 P) (.node (o134 P) .nil .nil) .nil) (.node (o102 P) .nil .nil)) (.node (o54 P) (.node (o86 P) .nil .nil) (.node (o118 P) .nil .nil))) (.node (o30 P) (.node (o46 P) (.node (o78 P) (.node (o142 P) .nil .nil) .nil) (.node (o110 P) .nil .nil)) (.node (o62 P) (.node (o94 P) .nil .nil) (.node (o126 P) .nil .nil)))))))
noncomputable def o144v2 (P : Params) : Obj := ⟨.type "set", none, .set #[(917536, .int 917536 356), (917505, .int 917505 350), (917538, .int 917538 358), (917539, .int 917539 359), (917537, .int 917537 357)] 6 { mask := 31, place := #[0, 1, 2, 3, 4], dummies := #[], finger := 0, led := !P.followText "set-order", moves := 1, plain := true }, #[]⟩
noncomputable def o145v2 (P : Params) : Obj := ⟨.type "list_iterator", none, .fields #[.ref 143, .int 5 0], #[]⟩
noncomputable def treeL2 (P : Params) : BT := (.node (boot_o_0 P) (.node (boot_o_1 P) (.node (o3v3 P) (.node (boot_o_7 P) (.node (o15 P) (.node (o31 P) (.node (o63 P) (.node (o127 P) .nil .nil) .nil) (.node (o95 P) .nil .nil)) (.node (o47 P) (.node (o79 P) (.node (o143 P) .nil .nil) .nil) (.node (o111 P) .nil .nil))) (.node (o23 P) (.node (o39 P) (.node (o71 P) (.node (o135 P) .nil .nil) .nil) (.node (o103 P) .nil .nil)) (.node (o55 P) (.node (o87 P) .nil .nil) (.node (o119 P) .nil .nil)))) (.node (o11 P) (.node (o19 P) (.node (o35 P) (.node (o67 P) (.node (o131 P) .nil .nil) .nil) (.node (o99 P) .nil .nil)) (.node (o51 P) (.node (o83 P) .nil .nil) (.node (o115 P) .nil .nil))) (.node (o27 P) (.node (o43 P) (.node (o75 P) (.node (o139 P) .nil .nil) .nil) (.node (o107 P) .nil .nil)) (.node (o59 P) (.node (o91 P) .nil .nil) (.node (o123 P) .nil .nil))))) (.node (boot_o_5 P) (.node (boot_o_9 P) (.node (o17 P) (.node (o33 P) (.node (o65 P) (.node (o129 P) .nil .nil) .nil) (.node (o97 P) .nil .nil)) (.node (o49 P) (.node (o81 P) (.node (o145v2 P) .nil .nil) .nil) (.node (o113 P) .nil .nil))) (.node (o25 P) (.node (o41 P) (.node (o73 P) (.node (o137 P) .nil .nil) .nil) (.node (o105 P) .nil .nil)) (.node (o57 P) (.node (o89 P) .nil .nil) (.node (o121 P) .nil .nil)))) (.node (o13 P) (.node (o21 P) (.node (o37 P) (.node (o69 P) (.node (o133 P) .nil .nil) .nil) (.node (o101 P) .nil .nil)) (.node (o53 P) (.node (o85 P) .nil .nil) (.node (o117 P) .nil .nil))) (.node (o29 P) (.node (o45 P) (.node (o77 P) (.node (o141 P) .nil .nil) .nil) (.node (o109 P) .nil .nil)) (.node (o61 P) (.node (o93 P) .nil .nil) (.node (o125 P) .nil .nil)))))) (.node (boot_o_2 P) (.node (boot_o_4 P) (.node (boot_o_8 P) (.node (o16 P) (.node (o32 P) (.node (o64 P) (.node (o128 P) .nil .nil) .nil) (.node (o96 P) .nil .nil)) (.node (o48 P) (.node (o80 P) (.node (o144v2 P) .nil .nil) .nil) (.node (o112 P) .nil .nil))) (.node (o24 P) (.node (o40 P) (.node (o72 P) (.node (o136 P) .nil .nil) .nil) (.node (o104 P) .nil .nil)) (.node (o56 P) (.node (o88 P) .nil .nil) (.node (o120 P) .nil .nil)))) (.node (o12v2 P) (.node (o20 P) (.node (o36 P) (.node (o68 P) (.node (o132 P) .nil .nil) .nil) (.node (o100 P) .nil .nil)) (.node (o52 P) (.node (o84 P) .nil .nil) (.node (o116 P) .nil .nil))) (.node (o28 P) (.node (o44 P) (.node (o76 P) (.node (o140 P) .nil .nil) .nil) (.node (o108 P) .nil .nil)) (.node (o60 P) (.node (o92 P) .nil .nil) (.node (o124 P) .nil .nil))))) (.node (boot_o_6 P) (.node (boot_o_10 P) (.node (o18 P) (.node (o34 P) (.node (o66 P) (.node (o130 P) .nil .nil) .nil) (.node (o98 P) .nil .nil)) (.node (o50 P) (.node (o82 P) .nil .nil) (.node (o114 P) .nil .nil))) (.node (o26 P) (.node (o42 P) (.node (o74 P) (.node (o138 P) .nil .nil) .nil) (.node (o106 P) .nil .nil)) (.node (o58 P) (.node (o90 P) .nil .nil) (.node (o122 P) .nil .nil)))) (.node (o14 P) (.node (o22 P) (.node (o38 P) (.node (o70 P) (.node (o134 P) .nil .nil) .nil) (.node (o102 P) .nil .nil)) (.node (o54 P) (.node (o86 P) .nil .nil) (.node (o118 P) .nil .nil))) (.node (o30 P) (.node (o46 P) (.node (o78 P) (.node (o142 P) .nil .nil) .nil) (.node (o110 P) .nil .nil)) (.node (o62 P) (.node (o94 P) .nil .nil) (.node (o126 P) .nil .nil)))))))
noncomputable def o144v3 (P : Params) : Obj := ⟨.type "set", none, .set #[(917536, .int 917536 356), (917505, .int 917505 350), (917538, .int 917538 358), (917539, .int 917539 359), (917537, .int 917537 357), (917540, .int 917540 360), (917541, .int 917541 361), (917542, .int 917542 362), (917543, .int 917543 363), (917544, .int 917544 364), (917545, .int 917545 365), (917546, .int 917546 366), (917547, .int 917547 367), (917548, .int 917548 368), (917549, .int 917549 369), (917550, .int 917550 370), (917551, .int 917551 371), (917552, .int 917552 372)] 19 { mask := 31, place := #[0, 1, 2, 3, 4, 5, 6, 7, 8, 9, 10, 11, 12, 13, 14, 15, 16, 17], dummies := #[], finger := 0, led := !P.followText "set-order", moves := 1, plain := true }, #[]⟩
noncomputable def o145v3 (P : Params) : Obj := ⟨.type "list_iterator", none, .fields #[.ref 143, .int 18 0], #[]⟩
noncomputable def treeL3 (P : Params) : BT := (.node (boot_o_0 P) (.node (boot_o_1 P) (.node (o3v3 P) (.node (boot_o_7 P) (.node (o15 P) (.node (o31 P) (.node (o63 P) (.node (o127 P) .nil .nil) .nil) (.node (o95 P) .nil .nil)) (.node (o47 P) (.node (o79 P) (.node (o143 P) .nil .nil) .nil) (.node (o111 P) .nil .nil))) (.node (o23 P) (.node (o39 P) (.node (o71 P) (.node (o135 P) .nil .nil) .nil) (.node (o103 P) .nil .nil)) (.node (o55 P) (.node (o87 P) .nil .nil) (.node (o119 P) .nil .nil)))) (.node (o11 P) (.node (o19 P) (.node (o35 P) (.node (o67 P) (.node (o131 P) .nil .nil) .nil) (.node (o99 P) .nil .nil)) (.node (o51 P) (.node (o83 P) .nil .nil) (.node (o115 P) .nil .nil))) (.node (o27 P) (.node (o43 P) (.node (o75 P) (.node (o139 P) .nil .nil) .nil) (.node (o107 P) .nil .nil)) (.node (o59 P) (.node (o91 P) .nil .nil) (.node (o123 P) .nil .nil))))) (.node (boot_o_5 P) (.node (boot_o_9 P) (.node (o17 P) (.node (o33 P) (.node (o65 P) (.node (o129 P) .nil .nil) .nil) (.node (o97 P) .nil .nil)) (.node (o49 P) (.node (o81 P) (.node (o145v3 P) .nil .nil) .nil) (.node (o113 P) .nil .nil))) (.node (o25 P) (.node (o41 P) (.node (o73 P) (.node (o137 P) .nil .nil) .nil) (.node (o105 P) .nil .nil)) (.node (o57 P) (.node (o89 P) .nil .nil) (.node (o121 P) .nil .nil)))) (.node (o13 P) (.node (o21 P) (.node (o37 P) (.node (o69 P) (.node (o133 P) .nil .nil) .nil) (.node (o101 P) .nil .nil)) (.node (o53 P) (.node (o85 P) .nil .nil) (.node (o117 P) .nil .nil))) (.node (o29 P) (.node (o45 P) (.node (o77 P) (.node (o141 P) .nil .nil) .nil) (.node (o109 P) .nil .nil)) (.node (o61 P) (.node (o93 P) .nil .nil) (.node (o125 P) .nil .nil)))))) (.node (boot_o_2 P) (.node (boot_o_4 P) (.node (boot_o_8 P) (.node (o16 P) (.node (o32 P) (.node (o64 P) (.node (o128 P) .nil .nil) .nil) (.node (o96 P) .nil .nil)) (.node (o48 P) (.node (o80 P) (.node (o144v3 P) .nil .nil) .nil) (.node (o112 P) .nil .nil))) (.node (o24 P) (.node (o40 P) (.node (o72 P) (.node (o136 P) .nil .nil) .nil) (.node (o104 P) .nil .nil)) (.node (o56 P) (.node (o88 P) .nil .nil) (.node (o120 P) .nil .nil)))) (.node (o12v2 P) (.node (o20 P) (.node (o36 P) (.node (o68 P) (.node (o132 P) .nil .nil) .nil) (.node (o100 P) .nil .nil)) (.node (o52 P) (.node (o84 P) .nil .nil) (.node (o116 P) .nil .nil))) (.node (o28 P) (.node (o44 P) (.node (o76 P) (.node (o140 P) .nil .nil) .nil) (.node (o108 P) .nil .nil)) (.node (o60 P) (.node (o92 P) .nil .nil) (.node (o124 P) .nil .nil))))) (.node (boot_o_6 P) (.node (boot_o_10 P) (.node (o18 P) (.node (o34 P) (.node (o66 P) (.node (o130 P) .nil .nil) .nil) (.node (o98 P) .nil .nil)) (.node (o50 P) (.node (o82 P) .nil .nil) (.node (o114 P) .nil .nil))) (.node (o26 P) (.node (o42 P) (.node (o74 P) (.node (o138 P) .nil .nil) .nil) (.node (o106 P) .nil .nil)) (.node (o58 P) (.node (o90 P) .nil .nil) (.node (o122 P) .nil .nil)))) (.node (o14 P) (.node (o22 P) (.node (o38 P) (.node (o70 P) (.node (o134 P) .nil .nil) .nil) (.node (o102 P) .nil .nil)) (.node (o54 P) (.node (o86 P) .nil .nil) (.node (o118 P) .nil .nil))) (.node (o30 P) (.node (o46 P) (.node (o78 P) (.node (o142 P) .nil .nil) .nil) (.node (o110 P) .nil .nil)) (.node (o62 P) (.node (o94 P) .nil .nil) (.node (o126 P) .nil .nil)))))))
noncomputable def o144v4 (P : Params) : Obj := ⟨.type "set", none, .set #[(917505, .int 917505 350), (917536, .int 917536 356), (917537, .int 917537 357), (917538, .int 917538 358), (917539, .int 917539 359), (917540, .int 917540 360), (917541, .int 917541 361), (917542, .int 917542 362), (917543, .int 917543 363), (917544, .int 917544 364), (917545, .int 917545 365), (917546, .int 917546 366), (917547, .int 917547 367), (917548, .int 917548 368), (917549, .int 917549 369), (917550, .int 917550 370), (917551, .int 917551 371), (917552, .int 917552 372), (917553, .int 917553 373)] 21 { mask := 127, place := #[1, 32, 33, 34, 35, 36, 37, 38, 39, 40, 41, 42, 43, 44, 45, 46, 47, 48, 49], dummies := #[], finger := 0, led := !P.followText "set-order", moves := 2, plain := true }, #[]⟩
noncomputable def o145v4 (P : Params) : Obj := ⟨.type "list_iterator", none, .fields #[.ref 143, .int 19 0], #[]⟩
noncomputable def treeL4 (P : Params) : BT := (.node (boot_o_0 P) (.node (boot_o_1 P) (.node (o3v3 P) (.node (boot_o_7 P) (.node (o15 P) (.node (o31 P) (.node (o63 P) (.node (o127 P) .nil .nil) .nil) (.node (o95 P) .nil .nil)) (.node (o47 P) (.node (o79 P) (.node (o143 P) .nil .nil) .nil) (.node (o111 P) .nil .nil))) (.node (o23 P) (.node (o39 P) (.node (o71 P) (.node (o135 P) .nil .nil) .nil) (.node (o103 P) .nil .nil)) (.node (o55 P) (.node (o87 P) .nil .nil) (.node (o119 P) .nil .nil)))) (.node (o11 P) (.node (o19 P) (.node (o35 P) (.node (o67 P) (.node (o131 P) .nil .nil) .nil) (.node (o99 P) .nil .nil)) (.node (o51 P) (.node (o83 P) .nil .nil) (.node (o115 P) .nil .nil))) (.node (o27 P) (.node (o43 P) (.node (o75 P) (.node (o139 P) .nil .nil) .nil) (.node (o107 P) .nil .nil)) (.node (o59 P) (.node (o91 P) .nil .nil) (.node (o123 P) .nil .nil))))) (.node (boot_o_5 P) (.node (boot_o_9 P) (.node (o17 P) (.node (o33 P) (.node (o65 P) (.node (o129 P) .nil .nil) .nil) (.node (o97 P) .nil .nil)) (.node (o49 P) (.node (o81 P) (.node (o145v4 P) .nil .nil) .nil) (.node (o113 P) .nil .nil))) (.node (o25 P) (.node (o41 P) (.node (o73 P) (.node (o137 P) .nil .nil) .nil) (.node (o105 P) .nil .nil)) (.node (o57 P) (.node (o89 P) .nil .nil) (.node (o121 P) .nil .nil)))) (.node (o13 P) (.node (o21 P) (.node (o37 P) (.node (o69 P) (.node (o133 P) .nil .nil) .nil) (.node (o101 P) .nil .nil)) (.node (o53 P) (.node (o85 P) .nil .nil) (.node (o117 P) .nil .nil))) (.node (o29 P) (.node (o45 P) (.node (o77 P) (.node (o141 P) .nil .nil) .nil) (.node (o109 P) .nil .nil)) (.node (o61 P) (.node (o93 P) .nil .nil) (.node (o125 P) .nil .nil)))))) (.node (boot_o_2 P) (.node (boot_o_4 P) (.node (boot_o_8 P) (.node (o16 P) (.node (o32 P) (.node (o64 P) (.node (o128 P) .nil .nil) .nil) (.node (o96 P) .nil .nil)) (.node (o48 P) (.node (o80 P) (.node (o144v4 P) .nil .nil) .nil) (.node (o112 P) .nil .nil))) (.node (o24 P) (.node (o40 P) (.node (o72 P) (.node (o136 P) .nil .nil) .nil) (.node (o104 P) .nil .nil)) (.node (o56 P) (.node (o88 P) .nil .nil) (.node (o120 P) .nil .nil)))) (.node (o12v2 P) (.node (o20 P) (.node (o36 P) (.node (o68 P) (.node (o132 P) .nil .nil) .nil) (.node (o100 P) .nil .nil)) (.node (o52 P) (.node (o84 P) .nil .nil) (.node (o116 P) .nil .nil))) (.node (o28 P) (.node (o44 P) (.node (o76 P) (.node (o140 P) .nil .nil) .nil) (.node (o108 P) .nil .nil)) (.node (o60 P) (.node (o92 P) .nil .nil) (.node (o124 P) .nil .nil))))) (.node (boot_o_6 P) (.node (boot_o_10 P) (.node (o18 P) (.node (o34 P) (.node (o66 P) (.node (o130 P) .nil .nil) .nil) (.node (o98 P) .nil .nil)) (.node (o50 P) (.node (o82 P) .nil .nil) (.node (o114 P) .nil .nil))) (.node (o26 P) (.node (o42 P) (.node (o74 P) (.node (o138 P) .nil .nil) .nil) (.node (o106 P) .nil .nil)) (.node (o58 P) (.node (o90 P) .nil .nil) (.node (o122 P) .nil .nil)))) (.node (o14 P) (.node (o22 P) (.node (o38 P) (.node (o70 P) (.node (o134 P) .nil .nil) .nil) (.node (o102 P) .nil .nil)) (.node (o54 P) (.node (o86 P) .nil .nil) (.node (o118 P) .nil .nil))) (.node (o30 P) (.node (o46 P) (.node (o78 P) (.node (o142 P) .nil .nil) .nil) (.node (o110 P) .nil .nil)) (.node (o62 P) (.node (o94 P) .nil .nil) (.node (o126 P) .nil .nil)))))))
noncomputable def o144v5 (P : Params) : Obj := ⟨.type "set", none, .set #[(917505, .int 917505 350), (917536, .int 917536 356), (917537, .int 917537 357), (917538, .int 917538 358), (917539, .int 917539 359), (917540, .int 917540 360), (917541, .int 917541 361), (917542, .int 917542 362), (917543, .int 917543 363), (917544, .int 917544 364), (917545, .int 917545 365), (917546, .int 917546 366), (917547, .int 917547 367), (917548, .int 917548 368), (917549, .int 917549 369), (917550, .int 917550 370), (917551, .int 917551 371), (917552, .int 917552 372), (917553, .int 917553 373), (917554, .int 917554 374), (917555, .int 917555 375), (917556, .int 917556 376), (917557, .int 917557 377), (917558, .int 917558 378), (917559, .int 917559 379), (917560, .int 917560 380), (917561, .int 917561 381), (917562, .int 917562 382), (917563, .int 917563 383), (917564, .int 917564 384), (917565, .int 917565 385), (917566, .int 917566 386), (917567, .int 917567 387), (917568, .int 917568 388), (917569, .int 917569 389)] 37 { mask := 127, place := #[1, 32, 33, 34, 35, 36, 37, 38, 39, 40, 41, 42, 43, 44, 45, 46, 47, 48, 49, 50, 51, 52, 53, 54, 55, 56, 57, 58, 59, 60, 61, 62, 63, 64, 65], dummies := #[], finger := 0, led := !P.followText "set-order", moves := 2, plain := true }, #[]⟩
noncomputable def o145v5 (P : Params) : Obj := ⟨.type "list_iterator", none, .fields #[.ref 143, .int 35 0], #[]⟩
noncomputable def treeL5 (P : Params) : BT := (.node (boot_o_0 P) (.node (boot_o_1 P) (.node (o3v3 P) (.node (boot_o_7 P) (.node (o15 P) (.node (o31 P) (.node (o63 P) (.node (o127 P) .nil .nil) .nil) (.node (o95 P) .nil .nil)) (.node (o47 P) (.node (o79 P) (.node (o143 P) .nil .nil) .nil) (.node (o111 P) .nil .nil))) (.node (o23 P) (.node (o39 P) (.node (o71 P) (.node (o135 P) .nil .nil) .nil) (.node (o103 P) .nil .nil)) (.node (o55 P) (.node (o87 P) .nil .nil) (.node (o119 P) .nil .nil)))) (.node (o11 P) (.node (o19 P) (.node (o35 P) (.node (o67 P) (.node (o131 P) .nil .nil) .nil) (.node (o99 P) .nil .nil)) (.node (o51 P) (.node (o83 P) .nil .nil) (.node (o115 P) .nil .nil))) (.node (o27 P) (.node (o43 P) (.node (o75 P) (.node (o139 P) .nil .nil) .nil) (.node (o107 P) .nil .nil)) (.node (o59 P) (.node (o91 P) .nil .nil) (.node (o123 P) .nil .nil))))) (.node (boot_o_5 P) (.node (boot_o_9 P) (.node (o17 P) (.node (o33 P) (.node (o65 P) (.node (o129 P) .nil .nil) .nil) (.node (o97 P) .nil .nil)) (.node (o49 P) (.node (o81 P) (.node (o145v5 P) .nil .nil) .nil) (.node (o113 P) .nil .nil))) (.node (o25 P) (.node (o41 P) (.node (o73 P) (.node (o137 P) .nil .nil) .nil) (.node (o105 P) .nil .nil)) (.node (o57 P) (.node (o89 P) .nil .nil) (.node (o121 P) .nil .nil)))) (.node (o13 P) (.node (o21 P) (.node (o37 P) (.node (o69 P) (.node (o133 P) .nil .nil) .nil) (.node (o101 P) .nil .nil)) (.node (o53 P) (.node (o85 P) .nil .nil) (.node (o117 P) .nil .nil))) (.node (o29 P) (.node (o45 P) (.node (o77 P) (.node (o141 P) .nil .nil) .nil) (.node (o109 P) .nil .nil)) (.node (o61 P) (.node (o93 P) .nil .nil) (.node (o125 P) .nil .nil)))))) (.node (boot_o_2 P) (.node (boot_o_4 P) (.node (boot_o_8 P) (.node (o16 P) (.node (o32 P) (.node (o64 P) (.node (o128 P) .nil .nil) .nil) (.node (o96 P) .nil .nil)) (.node (o48 P) (.node (o80 P) (.node (o144v5 P) .nil .nil) .nil) (.node (o112 P) .nil .nil))) (.node (o24 P) (.node (o40 P) (.node (o72 P) (.node (o136 P) .nil .nil) .nil) (.node (o104 P) .nil .nil)) (.node (o56 P) (.node (o88 P) .nil .nil) (.node (o120 P) .nil .nil)))) (.node (o12v2 P) (.node (o20 P) (.node (o36 P) (.node (o68 P) (.node (o132 P) .nil .nil) .nil) (.node (o100 P) .nil .nil)) (.node (o52 P) (.node (o84 P) .nil .nil) (.node (o116 P) .nil .nil))) (.node (o28 P) (.node (o44 P) (.node (o76 P) (.node (o140 P) .nil .nil) .nil) (.node (o108 P) .nil .nil)) (.node (o60 P) (.node (o92 P) .nil .nil) (.node (o124 P) .nil .nil))))) (.node (boot_o_6 P) (.node (boot_o_10 P) (.node (o18 P) (.node (o34 P) (.node (o66 P) (.node (o130 P) .nil .nil) .nil) (.node (o98 P) .nil .nil)) (.node (o50 P) (.node (o82 P) .nil .nil) (.node (o114 P) .nil .nil))) (.node (o26 P) (.node (o42 P) (.node (o74 P) (.node (o138 P) .nil .nil) .nil) (.node (o106 P) .nil .nil)) (.node (o58 P) (.node (o90 P) .nil .nil) (.node (o122 P) .nil .nil)))) (.node (o14 P) (.node (o22 P) (.node (o38 P) (.node (o70 P) (.node (o134 P) .nil .nil) .nil) (.node (o102 P) .nil .nil)) (.node (o54 P) (.node (o86 P) .nil .nil) (.node (o118 P) .nil .nil))) (.node (o30 P) (.node (o46 P) (.node (o78 P) (.node (o142 P) .nil .nil) .nil) (.node (o110 P) .nil .nil)) (.node (o62 P) (.node (o94 P) .nil .nil) (.node (o126 P) .nil .nil)))))))
noncomputable def o144v6 (P : Params) : Obj := ⟨.type "set", none, .set #[(917505, .int 917505 350), (917536, .int 917536 356), (917537, .int 917537 357), (917538, .int 917538 358), (917539, .int 917539 359), (917540, .int 917540 360), (917541, .int 917541 361), (917542, .int 917542 362), (917543, .int 917543 363), (917544, .int 917544 364), (917545, .int 917545 365), (917546, .int 917546 366), (917547, .int 917547 367), (917548, .int 917548 368), (917549, .int 917549 369), (917550, .int 917550 370), (917551, .int 917551 371), (917552, .int 917552 372), (917553, .int 917553 373), (917554, .int 917554 374), (917555, .int 917555 375), (917556, .int 917556 376), (917557, .int 917557 377), (917558, .int 917558 378), (917559, .int 917559 379), (917560, .int 917560 380), (917561, .int 917561 381), (917562, .int 917562 382), (917563, .int 917563 383), (917564, .int 917564 384), (917565, .int 917565 385), (917566, .int 917566 386), (917567, .int 917567 387), (917568, .int 917568 388), (917569, .int 917569 389), (917570, .int 917570 390), (917571, .int 917571 391), (917572, .int 917572 392), (917573, .int 917573 393), (917574, .int 917574 394), (917575, .int 917575 395), (917576, .int 917576 396), (917577, .int 917577 397), (917578, .int 917578 398), (917579, .int 917579 399), (917580, .int 917580 400), (917581, .int 917581 401), (917582, .int 917582 402), (917583, .int 917583 403), (917584, .int 917584 404), (917585, .int 917585 405)] 53 { mask := 127, place := #[1, 32, 33, 34, 35, 36, 37, 38, 39, 40, 41, 42, 43, 44, 45, 46, 47, 48, 49, 50, 51, 52, 53, 54, 55, 56, 57, 58, 59, 60, 61, 62, 63, 64, 65, 66, 67, 68, 69, 70, 71, 72, 73, 74, 75, 76, 77, 78, 79, 80, 81], dummies := #[], finger := 0, led := !P.followText "set-order", moves := 2, plain := true }, #[]⟩
noncomputable def o145v6 (P : Params) : Obj := ⟨.type "list_iterator", none, .fields #[.ref 143, .int 51 0], #[]⟩
noncomputable def treeL6 (P : Params) : BT := (.node (boot_o_0 P) (.node (boot_o_1 P) (.node (o3v3 P) (.node (boot_o_7 P) (.node (o15 P) (.node (o31 P) (.node (o63 P) (.node (o127 P) .nil .nil) .nil) (.node (o95 P) .nil .nil)) (.node (o47 P) (.node (o79 P) (.node (o143 P) .nil .nil) .nil) (.node (o111 P) .nil .nil))) (.node (o23 P) (.node (o39 P) (.node (o71 P) (.node (o135 P) .nil .nil) .nil) (.node (o103 P) .nil .nil)) (.node (o55 P) (.node (o87 P) .nil .nil) (.node (o119 P) .nil .nil)))) (.node (o11 P) (.node (o19 P) (.node (o35 P) (.node (o67 P) (.node (o131 P) .nil .nil) .nil) (.node (o99 P) .nil .nil)) (.node (o51 P) (.node (o83 P) .nil .nil) (.node (o115 P) .nil .nil))) (.node (o27 P) (.node (o43 P) (.node (o75 P) (.node (o139 P) .nil .nil) .nil) (.node (o107 P) .nil .nil)) (.node (o59 P) (.node (o91 P) .nil .nil) (.node (o123 P) .nil .nil))))) (.node (boot_o_5 P) (.node (boot_o_9 P) (.node (o17 P) (.node (o33 P) (.node (o65 P) (.node (o129 P) .nil .nil) .nil) (.node (o97 P) .nil .nil)) (.node (o49 P) (.node (o81 P) (.node (o145v6 P) .nil .nil) .nil) (.node (o113 P) .nil .nil))) (.node (o25 P) (.node (o41 P) (.node (o73 P) (.node (o137 P) .nil .nil) .nil) (.node (o105 P) .nil .nil)) (.node (o57 P) (.node (o89 P) .nil .nil) (.node (o121 P) .nil .nil)))) (.node (o13 P) (.node (o21 P) (.node (o37 P) (.node (o69 P) (.node (o133 P) .nil .nil) .nil) (.node (o101 P) .nil .nil)) (.node (o53 P) (.node (o85 P) .nil .nil) (.node (o117 P) .nil .nil))) (.node (o29 P) (.node (o45 P) (.node (o77 P) (.node (o141 P) .nil .nil) .nil) (.node (o109 P) .nil .nil)) (.node (o61 P) (.node (o93 P) .nil .nil) (.node (o125 P) .nil .nil)))))) (.node (boot_o_2 P) (.node (boot_o_4 P) (.node (boot_o_8 P) (.node (o16 P) (.node (o32 P) (.node (o64 P) (.node (o128 P) .nil .nil) .nil) (.node (o96 P) .nil .nil)) (.node (o48 P) (.node (o80 P) (.node (o144v6 P) .nil .nil) .nil) (.node (o112 P) .nil .nil))) (.node (o24 P) (.node (o40 P) (.node (o72 P) (.node (o136 P) .nil .nil) .nil) (.node (o104 P) .nil .nil)) (.node (o56 P) (.node (o88 P) .nil .nil) (.node (o120 P) .nil .nil)))) (.node (o12v2 P) (.node (o20 P) (.node (o36 P) (.node (o68 P) (.node (o132 P) .nil .nil) .nil) (.node (o100 P) .nil .nil)) (.node (o52 P) (.node (o84 P) .nil .nil) (.node (o116 P) .nil .nil))) (.node (o28 P) (.node (o44 P) (.node (o76 P) (.node (o140 P) .nil .nil) .nil) (.node (o108 P) .nil .nil)) (.node (o60 P) (.node (o92 P) .nil .nil) (.node (o124 P) .nil .nil))))) (.node (boot_o_6 P) (.node (boot_o_10 P) (.node (o18 P) (.node (o34 P) (.node (o66 P) (.node (o130 P) .nil .nil) .nil) (.node (o98 P) .nil .nil)) (.node (o50 P) (.node (o82 P) .nil .nil) (.node (o114 P) .nil .nil))) (.node (o26 P) (.node (o42 P) (.node (o74 P) (.node (o138 P) .nil .nil) .nil) (.node (o106 P) .nil .nil)) (.node (o58 P) (.node (o90 P) .nil .nil) (.node (o122 P) .nil .nil)))) (.node (o14 P) (.node (o22 P) (.node (o38 P) (.node (o70 P) (.node (o134 P) .nil .nil) .nil) (.node (o102 P) .nil .nil)) (.node (o54 P) (.node (o86 P) .nil .nil) (.node (o118 P) .nil .nil))) (.node (o30 P) (.node (o46 P) (.node (o78 P) (.node (o142 P) .nil .nil) .nil) (.node (o110 P) .nil .nil)) (.node (o62 P) (.node (o94 P) .nil .nil) (.node (o126 P) .nil .nil)))))))
noncomputable def o144v7 (P : Params) : Obj := ⟨.type "set", none, .set #[(917505, .int 917505 350), (917536, .int 917536 356), (917537, .int 917537 357), (917538, .int 917538 358), (917539, .int 917539 359), (917540, .int 917540 360), (917541, .int 917541 361), (917542, .int 917542 362), (917543, .int 917543 363), (917544, .int 917544 364), (917545, .int 917545 365), (917546, .int 917546 366), (917547, .int 917547 367), (917548, .int 917548 368), (917549, .int 917549 369), (917550, .int 917550 370), (917551, .int 917551 371), (917552, .int 917552 372), (917553, .int 917553 373), (917554, .int 917554 374), (917555, .int 917555 375), (917556, .int 917556 376), (917557, .int 917557 377), (917558, .int 917558 378), (917559, .int 917559 379), (917560, .int 917560 380), (917561, .int 917561 381), (917562, .int 917562 382), (917563, .int 917563 383), (917564, .int 917564 384), (917565, .int 917565 385), (917566, .int 917566 386), (917567, .int 917567 387), (917568, .int 917568 388), (917569, .int 917569 389), (917570, .int 917570 390), (917571, .int 917571 391), (917572, .int 917572 392), (917573, .int 917573 393), (917574, .int 917574 394), (917575, .int 917575 395), (917576, .int 917576 396), (917577, .int 917577 397), (917578, .int 917578 398), (917579, .int 917579 399), (917580, .int 917580 400), (917581, .int 917581 401), (917582, .int 917582 402), (917583, .int 917583 403), (917584, .int 917584 404), (917585, .int 917585 405), (917586, .int 917586 406), (917587, .int 917587 407), (917588, .int 917588 408), (917589, .int 917589 409), (917590, .int 917590 410), (917591, .int 917591 411), (917592, .int 917592 412), (917593, .int 917593 413), (917594, .int 917594 414), (917595, .int 917595 415), (917596, .int 917596 416), (917597, .int 917597 417), (917598, .int 917598 418)] 66 { mask := 127, place := #[1, 32, 33, 34, 35, 36, 37, 38, 39, 40, 41, 42, 43, 44, 45, 46, 47, 48, 49, 50, 51, 52, 53, 54, 55, 56, 57, 58, 59, 60, 61, 62, 63, 64, 65, 66, 67, 68, 69, 70, 71, 72, 73, 74, 75, 76, 77, 78, 79, 80, 81, 82, 83, 84, 85, 86, 87, 88, 89, 90, 91, 92, 93, 94], dummies := #[], finger := 0, led := !P.followText "set-order", moves := 2, plain := true }, #[]⟩
noncomputable def o145v7 (P : Params) : Obj := ⟨.type "list_iterator", none, .fields #[.ref 143, .int 64 0], #[]⟩
noncomputable def treeL7 (P : Params) : BT := (.node (boot_o_0 P) (.node (boot_o_1 P) (.node (o3v3 P) (.node (boot_o_7 P) (.node (o15 P) (.node (o31 P) (.node (o63 P) (.node (o127 P) .nil .nil) .nil) (.node (o95 P) .nil .nil)) (.node (o47 P) (.node (o79 P) (.node (o143 P) .nil .nil) .nil) (.node (o111 P) .nil .nil))) (.node (o23 P) (.node (o39 P) (.node (o71 P) (.node (o135 P) .nil .nil) .nil) (.node (o103 P) .nil .nil)) (.node (o55 P) (.node (o87 P) .nil .nil) (.node (o119 P) .nil .nil)))) (.node (o11 P) (.node (o19 P) (.node (o35 P) (.node (o67 P) (.node (o131 P) .nil .nil) .nil) (.node (o99 P) .nil .nil)) (.node (o51 P) (.node (o83 P) .nil .nil) (.node (o115 P) .nil .nil))) (.node (o27 P) (.node (o43 P) (.node (o75 P) (.node (o139 P) .nil .nil) .nil) (.node (o107 P) .nil .nil)) (.node (o59 P) (.node (o91 P) .nil .nil) (.node (o123 P) .nil .nil))))) (.node (boot_o_5 P) (.node (boot_o_9 P) (.node (o17 P) (.node (o33 P) (.node (o65 P) (.node (o129 P) .nil .nil) .nil) (.node (o97 P) .nil .nil)) (.node (o49 P) (.node (o81 P) (.node (o145v7 P) .nil .nil) .nil) (.node (o113 P) .nil .nil))) (.node (o25 P) (.node (o41 P) (.node (o73 P) (.node (o137 P) .nil .nil) .nil) (.node (o105 P) .nil .nil)) (.node (o57 P) (.node (o89 P) .nil .nil) (.node (o121 P) .nil .nil)))) (.node (o13 P) (.node (o21 P) (.node (o37 P) (.node (o69 P) (.node (o133 P) .nil .nil) .nil) (.node (o101 P) .nil .nil)) (.node (o53 P) (.node (o85 P) .nil .nil) (.node (o117 P) .nil .nil))) (.node (o29 P) (.node (o45 P) (.node (o77 P) (.node (o141 P) .nil .nil) .nil) (.node (o109 P) .nil .nil)) (.node (o61 P) (.node (o93 P) .nil .nil) (.node (o125 P) .nil .nil)))))) (.node (boot_o_2 P) (.node (boot_o_4 P) (.node (boot_o_8 P) (.node (o16 P) (.node (o32 P) (.node (o64 P) (.node (o128 P) .nil .nil) .nil) (.node (o96 P) .nil .nil)) (.node (o48 P) (.node (o80 P) (.node (o144v7 P) .nil .nil) .nil) (.node (o112 P) .nil .nil))) (.node (o24 P) (.node (o40 P) (.node (o72 P) (.node (o136 P) .nil .nil) .nil) (.node (o104 P) .nil .nil)) (.node (o56 P) (.node (o88 P) .nil .nil) (.node (o120 P) .nil .nil)))) (.node (o12v2 P) (.node (o20 P) (.node (o36 P) (.node (o68 P) (.node (o132 P) .nil .nil) .nil) (.node (o100 P) .nil .nil)) (.node (o52 P) (.node (o84 P) .nil .nil) (.node (o116 P) .nil .nil))) (.node (o28 P) (.node (o44 P) (.node (o76 P) (.node (o140 P) .nil .nil) .nil) (.node (o108 P) .nil .nil)) (.node (o60 P) (.node (o92 P) .nil .nil) (.node (o124 P) .nil .nil))))) (.node (boot_o_6 P) (.node (boot_o_10 P) (.node (o18 P) (.node (o34 P) (.node (o66 P) (.node (o130 P) .nil .nil) .nil) (.node (o98 P) .nil .nil)) (.node (o50 P) (.node (o82 P) .nil .nil) (.node (o114 P) .nil .nil))) (.node (o26 P) (.node (o42 P) (.node (o74 P) (.node (o138 P) .nil .nil) .nil) (.node (o106 P) .nil .nil)) (.node (o58 P) (.node (o90 P) .nil .nil) (.node (o122 P) .nil .nil)))) (.node (o14 P) (.node (o22 P) (.node (o38 P) (.node (o70 P) (.node (o134 P) .nil .nil) .nil) (.node (o102 P) .nil .nil)) (.node (o54 P) (.node (o86 P) .nil .nil) (.node (o118 P) .nil .nil))) (.node (o30 P) (.node (o46 P) (.node (o78 P) (.node (o142 P) .nil .nil) .nil) (.node (o110 P) .nil .nil)) (.node (o62 P) (.node (o94 P) .nil .nil) (.node (o126 P) .nil .nil)))))))
noncomputable def o144v8 (P : Params) : Obj := ⟨.type "set", none, .set #[(917505, .int 917505 350), (917536, .int 917536 356), (917537, .int 917537 357), (917538, .int 917538 358), (917539, .int 917539 359), (917540, .int 917540 360), (917541, .int 917541 361), (917542, .int 917542 362), (917543, .int 917543 363), (917544, .int 917544 364), (917545, .int 917545 365), (917546, .int 917546 366), (917547, .int 917547 367), (917548, .int 917548 368), (917549, .int 917549 369), (917550, .int 917550 370), (917551, .int 917551 371), (917552, .int 917552 372), (917553, .int 917553 373), (917554, .int 917554 374), (917555, .int 917555 375), (917556, .int 917556 376), (917557, .int 917557 377), (917558, .int 917558 378), (917559, .int 917559 379), (917560, .int 917560 380), (917561, .int 917561 381), (917562, .int 917562 382), (917563, .int 917563 383), (917564, .int 917564 384), (917565, .int 917565 385), (917566, .int 917566 386), (917567, .int 917567 387), (917568, .int 917568 388), (917569, .int 917569 389), (917570, .int 917570 390), (917571, .int 917571 391), (917572, .int 917572 392), (917573, .int 917573 393), (917574, .int 917574 394), (917575, .int 917575 395), (917576, .int 917576 396), (917577, .int 917577 397), (917578, .int 917578 398), (917579, .int 917579 399), (917580, .int 917580 400), (917581, .int 917581 401), (917582, .int 917582 402), (917583, .int 917583 403), (917584, .int 917584 404), (917585, .int 917585 405), (917586, .int 917586 406), (917587, .int 917587 407), (917588, .int 917588 408), (917589, .int 917589 409), (917590, .int 917590 410), (917591, .int 917591 411), (917592, .int 917592 412), (917593, .int 917593 413), (917594, .int 917594 414), (917595, .int 917595 415), (917596, .int 917596 416), (917597, .int 917597 417), (917598, .int 917598 418), (917599, .int 917599 419), (917600, .int 917600 420), (917601, .int 917601 421), (917602, .int 917602 422), (917603, .int 917603 423), (917604, .int 917604 424), (917605, .int 917605 425), (917606, .int 917606 426), (917607, .int 917607 427), (917608, .int 917608 428), (917609, .int 917609 429), (917610, .int 917610 430)] 78 { mask := 127, place := #[1, 32, 33, 34, 35, 36, 37, 38, 39, 40, 41, 42, 43, 44, 45, 46, 47, 48, 49, 50, 51, 52, 53, 54, 55, 56, 57, 58, 59, 60, 61, 62, 63, 64, 65, 66, 67, 68, 69, 70, 71, 72, 73, 74, 75, 76, 77, 78, 79, 80, 81, 82, 83, 84, 85, 86, 87, 88, 89, 90, 91, 92, 93, 94, 95, 96, 97, 98, 99, 100, 101, 102, 103, 104, 105, 106], dummies := #[], finger := 0, led := !P.followText "set-order", moves := 2, plain := true }, #[]⟩
noncomputable def o145v8 (P : Params) : Obj := ⟨.type "list_iterator", none, .fields #[.ref 143, .int 76 0], #[]⟩
noncomputable def treeL8 (P : Params) : BT := (.node (boot_o_0 P) (.node (boot_o_1 P) (.node (o3v3 P) (.node (boot_o_7 P) (.node (o15 P) (.node (o31 P) (.node (o63 P) (.node (o127 P) .nil .nil) .nil) (.node (o95 P) .nil .nil)) (.node (o47 P) (.node (o79 P) (.node (o143 P) .nil .nil) .nil) (.node (o111 P) .nil .nil))) (.node (o23 P) (.node (o39 P) (.node (o71 P) (.node (o135 P) .nil .nil) .nil) (.node (o103 P) .nil .nil)) (.node (o55 P) (.node (o87 P) .nil .nil) (.node (o119 P) .nil .nil)))) (.node (o11 P) (.node (o19 P) (.node (o35 P) (.node (o67 P) (.node (o131 P) .nil .nil) .nil) (.node (o99 P) .nil .nil)) (.node (o51 P) (.node (o83 P) .nil .nil) (.node (o115 P) .nil .nil))) (.node (o27 P) (.node (o43 P) (.node (o75 P) (.node (o139 P) .nil .nil) .nil) (.node (o107 P) .nil .nil)) (.node (o59 P) (.node (o91 P) .nil .nil) (.node (o123 P) .nil .nil))))) (.node (boot_o_5 P) (.node (boot_o_9 P) (.node (o17 P) (.node (o33 P) (.node (o65 P) (.node (o129 P) .nil .nil) .nil) (.node (o97 P) .nil .nil)) (.node (o49 P) (.node (o81 P) (.node (o145v8 P) .nil .nil) .nil) (.node (o113 P) .nil .nil))) (.node (o25 P) (.node (o41 P) (.node (o73 P) (.node (o137 P) .nil .nil) .nil) (.node (o105 P) .nil .nil)) (.node (o57 P) (.node (o89 P) .nil .nil) (.node (o121 P) .nil .nil)))) (.node (o13 P) (.node (o21 P) (.node (o37 P) (.node (o69 P) (.node (o133 P) .nil .nil) .nil) (.node (o101 P) .nil .nil)) (.node (o53 P) (.node (o85 P) .nil .nil) (.node (o117 P) .nil .nil))) (.node (o29 P) (.node (o45 P) (.node (o77 P) (.node (o141 P) .nil .nil) .nil) (.node (o109 P) .nil .nil)) (.node (o61 P) (.node (o93 P) .nil .nil) (.node (o125 P) .nil .nil)))))) (.node (boot_o_2 P) (.node (boot_o_4 P) (.node (boot_o_8 P) (.node (o16 P) (.node (o32 P) (.node (o64 P) (.node (o128 P) .nil .nil) .nil) (.node (o96 P) .nil .nil)) (.node (o48 P) (.node (o80 P) (.node (o144v8 P) .nil .nil) .nil) (.node (o112 P) .nil .nil))) (.node (o24 P) (.node (o40 P) (.node (o72 P) (.node (o136 P) .nil .nil) .nil) (.node (o104 P) .nil .nil)) (.node (o56 P) (.node (o88 P) .nil .nil) (.node (o120 P) .nil .nil)))) (.node (o12v2 P) (.node (o20 P) (.node (o36 P) (.node (o68 P) (.node (o132 P) .nil .nil) .nil) (.node (o100 P) .nil .nil)) (.node (o52 P) (.node (o84 P) .nil .nil) (.node (o116 P) .nil .nil))) (.node (o28 P) (.node (o44 P) (.node (o76 P) (.node (o140 P) .nil .nil) .nil) (.node (o108 P) .nil .nil)) (.node (o60 P) (.node (o92 P) .nil .nil) (.node (o124 P) .nil .nil))))) (.node (boot_o_6 P) (.node (boot_o_10 P) (.node (o18 P) (.node (o34 P) (.node (o66 P) (.node (o130 P) .nil .nil) .nil) (.node (o98 P) .nil .nil)) (.node (o50 P) (.node (o82 P) .nil .nil) (.node (o114 P) .nil .nil))) (.node (o26 P) (.node (o42 P) (.node (o74 P) (.node (o138 P) .nil .nil) .nil) (.node (o106 P) .nil .nil)) (.node (o58 P) (.node (o90 P) .nil .nil) (.node (o122 P) .nil .nil)))) (.node (o14 P) (.node (o22 P) (.node (o38 P) (.node (o70 P) (.node (o134 P) .nil .nil) .nil) (.node (o102 P) .nil .nil)) (.node (o54 P) (.node (o86 P) .nil .nil) (.node (o118 P) .nil .nil))) (.node (o30 P) (.node (o46 P) (.node (o78 P) (.node (o142 P) .nil .nil) .nil) (.node (o110 P) .nil .nil)) (.node (o62 P) (.node (o94 P) .nil .nil) (.node (o126 P) .nil .nil)))))))
noncomputable def o144v9 (P : Params) : Obj := ⟨.type "set", none, .set #[(917505, .int 917505 350), (917536, .int 917536 356), (917537, .int 917537 357), (917538, .int 917538 358), (917539, .int 917539 359), (917540, .int 917540 360), (917541, .int 917541 361), (917542, .int 917542 362), (917543, .int 917543 363), (917544, .int 917544 364), (917545, .int 917545 365), (917546, .int 917546 366), (917547, .int 917547 367), (917548, .int 917548 368), (917549, .int 917549 369), (917550, .int 917550 370), (917551, .int 917551 371), (917552, .int 917552 372), (917553, .int 917553 373), (917554, .int 917554 374), (917555, .int 917555 375), (917556, .int 917556 376), (917557, .int 917557 377), (917558, .int 917558 378), (917559, .int 917559 379), (917560, .int 917560 380), (917561, .int 917561 381), (917562, .int 917562 382), (917563, .int 917563 383), (917564, .int 917564 384), (917565, .int 917565 385), (917566, .int 917566 386), (917567, .int 917567 387), (917568, .int 917568 388), (917569, .int 917569 389), (917570, .int 917570 390), (917571, .int 917571 391), (917572, .int 917572 392), (917573, .int 917573 393), (917574, .int 917574 394), (917575, .int 917575 395), (917576, .int 917576 396), (917577, .int 917577 397), (917578, .int 917578 398), (917579, .int 917579 399), (917580, .int 917580 400), (917581, .int 917581 401), (917582, .int 917582 402), (917583, .int 917583 403), (917584, .int 917584 404), (917585, .int 917585 405), (917586, .int 917586 406), (917587, .int 917587 407), (917588, .int 917588 408), (917589, .int 917589 409), (917590, .int 917590 410), (917591, .int 917591 411), (917592, .int 917592 412), (917593, .int 917593 413), (917594, .int 917594 414), (917595, .int 917595 415), (917596, .int 917596 416), (917597, .int 917597 417), (917598, .int 917598 418), (917599, .int 917599 419), (917600, .int 917600 420), (917601, .int 917601 421), (917602, .int 917602 422), (917603, .int 917603 423), (917604, .int 917604 424), (917605, .int 917605 425), (917606, .int 917606 426), (917607, .int 917607 427), (917608, .int 917608 428), (917609, .int 917609 429), (917610, .int 917610 430), (917611, .int 917611 431)] 80 { mask := 511, place := #[1, 32, 33, 34, 35, 36, 37, 38, 39, 40, 41, 42, 43, 44, 45, 46, 47, 48, 49, 50, 51, 52, 53, 54, 55, 56, 57, 58, 59, 60, 61, 62, 63, 64, 65, 66, 67, 68, 69, 70, 71, 72, 73, 74, 75, 76, 77, 78, 79, 80, 81, 82, 83, 84, 85, 86, 87, 88, 89, 90, 91, 92, 93, 94, 95, 96, 97, 98, 99, 100, 101, 102, 103, 104, 105, 106, 107], dummies := #[], finger := 0, led := !P.followText "set-order", moves := 3, plain := true }, #[]⟩
noncomputable def o145v9 (P : Params) : Obj := ⟨.type "list_iterator", none, .fields #[.ref 143, .int 77 0], #[]⟩
noncomputable def treeL9 (P : Params) : BT := (.node (boot_o_0 P) (.node (boot_o_1 P) (.node (o3v3 P) (.node (boot_o_7 P) (.node (o15 P) (.node (o31 P) (.node (o63 P) (.node (o127 P) .nil .nil) .nil) (.node (o95 P) .nil .nil)) (.node (o47 P) (.node (o79 P) (.node (o143 P) .nil .nil) .nil) (.node (o111 P) .nil .nil))) (.node (o23 P) (.node (o39 P) (.node (o71 P) (.node (o135 P) .nil .nil) .nil) (.node (o103 P) .nil .nil)) (.node (o55 P) (.node (o87 P) .nil .nil) (.node (o119 P) .nil .nil)))) (.node (o11 P) (.node (o19 P) (.node (o35 P) (.node (o67 P) (.node (o131 P) .nil .nil) .nil) (.node (o99 P) .nil .nil)) (.node (o51 P) (.node (o83 P) .nil .nil) (.node (o115 P) .nil .nil))) (.node (o27 P) (.node (o43 P) (.node (o75 P) (.node (o139 P) .nil .nil) .nil) (.node (o107 P) .nil .nil)) (.node (o59 P) (.node (o91 P) .nil .nil) (.node (o123 P) .nil .nil))))) (.node (boot_o_5 P) (.node (boot_o_9 P) (.node (o17 P) (.node (o33 P) (.node (o65 P) (.node (o129 P) .nil .nil) .nil) (.node (o97 P) .nil .nil)) (.node (o49 P) (.node (o81 P) (.node (o145v9 P) .nil .nil) .nil) (.node (o113 P) .nil .nil))) (.node (o25 P) (.node (o41 P) (.node (o73 P) (.node (o137 P) .nil .nil) .nil) (.node (o105 P) .nil .nil)) (.node (o57 P) (.node (o89 P) .nil .nil) (.node (o121 P) .nil .nil)))) (.node (o13 P) (.node (o21 P) (.node (o37 P) (.node (o69 P) (.node (o133 P) .nil .nil) .nil) (.node (o101 P) .nil .nil)) (.node (o53 P) (.node (o85 P) .nil .nil) (.node (o117 P) .nil .nil))) (.node (o29 P) (.node (o45 P) (.node (o77 P) (.node (o141 P) .nil .nil) .nil) (.node (o109 P) .nil .nil)) (.node (o61 P) (.node (o93 P) .nil .nil) (.node (o125 P) .nil .nil)))))) (.node (boot_o_2 P) (.node (boot_o_4 P) (.node (boot_o_8 P) (.node (o16 P) (.node (o32 P) (.node (o64 P) (.node (o128 P) .nil .nil) .nil) (.node (o96 P) .nil .nil)) (.node (o48 P) (.node (o80 P) (.node (o144v9 P) .nil .nil) .nil) (.node (o112 P) .nil .nil))) (.node (o24 P) (.node (o40 P) (.node (o72 P) (.node (o136 P) .nil .nil) .nil) (.node (o104 P) .nil .nil)) (.node (o56 P) (.node (o88 P) .nil .nil) (.node (o120 P) .nil .nil)))) (.node (o12v2 P) (.node (o20 P) (.node (o36 P) (.node (o68 P) (.node (o132 P) .nil .nil) .nil) (.node (o100 P) .nil .nil)) (.node (o52 P) (.node (o84 P) .nil .nil) (.node (o116 P) .nil .nil))) (.node (o28 P) (.node (o44 P) (.node (o76 P) (.node (o140 P) .nil .nil) .nil) (.node (o108 P) .nil .nil)) (.node (o60 P) (.node (o92 P) .nil .nil) (.node (o124 P) .nil .nil))))) (.node (boot_o_6 P) (.node (boot_o_10 P) (.node (o18 P) (.node (o34 P) (.node (o66 P) (.node (o130 P) .nil .nil) .nil) (.node (o98 P) .nil .nil)) (.node (o50 P) (.node (o82 P) .nil .nil) (.node (o114 P) .nil .nil))) (.node (o26 P) (.node (o42 P) (.node (o74 P) (.node (o138 P) .nil .nil) .nil) (.node (o106 P) .nil .nil)) (.node (o58 P) (.node (o90 P) .nil .nil) (.node (o122 P) .nil .nil)))) (.node (o14 P) (.node (o22 P) (.node (o38 P) (.node (o70 P) (.node (o134 P) .nil .nil) .nil) (.node (o102 P) .nil .nil)) (.node (o54 P) (.node (o86 P) .nil .nil) (.node (o118 P) .nil .nil))) (.node (o30 P) (.node (o46 P) (.node (o78 P) (.node (o142 P) .nil .nil) .nil) (.node (o110 P) .nil .nil)) (.node (o62 P) (.node (o94 P) .nil .nil) (.node (o126 P) .nil .nil)))))))
noncomputable def o144v10 (P : Params) : Obj := ⟨.type "set", none, .set #[(917505, .int 917505 350), (917536, .int 917536 356), (917537, .int 917537 357), (917538, .int 917538 358), (917539, .int 917539 359), (917540, .int 917540 360), (917541, .int 917541 361), (917542, .int 917542 362), (917543, .int 917543 363), (917544, .int 917544 364), (917545, .int 917545 365), (917546, .int 917546 366), (917547, .int 917547 367), (917548, .int 917548 368), (917549, .int 917549 369), (917550, .int 917550 370), (917551, .int 917551 371), (917552, .int 917552 372), (917553, .int 917553 373), (917554, .int 917554 374), (917555, .int 917555 375), (917556, .int 917556 376), (917557, .int 917557 377), (917558, .int 917558 378), (917559, .int 917559 379), (917560, .int 917560 380), (917561, .int 917561 381), (917562, .int 917562 382), (917563, .int 917563 383), (917564, .int 917564 384), (917565, .int 917565 385), (917566, .int 917566 386), (917567, .int 917567 387), (917568, .int 917568 388), (917569, .int 917569 389), (917570, .int 917570 390), (917571, .int 917571 391), (917572, .int 917572 392), (917573, .int 917573 393), (917574, .int 917574 394), (917575, .int 917575 395), (917576, .int 917576 396), (917577, .int 917577 397), (917578, .int 917578 398), (917579, .int 917579 399), (917580, .int 917580 400), (917581, .int 917581 401), (917582, .int 917582 402), (917583, .int 917583 403), (917584, .int 917584 404), (917585, .int 917585 405), (917586, .int 917586 406), (917587, .int 917587 407), (917588, .int 917588 408), (917589, .int 917589 409), (917590, .int 917590 410), (917591, .int 917591 411), (917592, .int 917592 412), (917593, .int 917593 413), (917594, .int 917594 414), (917595, .int 917595 415), (917596, .int 917596 416), (917597, .int 917597 417), (917598, .int 917598 418), (917599, .int 917599 419), (917600, .int 917600 420), (917601, .int 917601 421), (917602, .int 917602 422), (917603, .int 917603 423), (917604, .int 917604 424), (917605, .int 917605 425), (917606, .int 917606 426), (917607, .int 917607 427), (917608, .int 917608 428), (917609, .int 917609 429), (917610, .int 917610 430), (917611, .int 917611 431), (917612, .int 917612 432), (917613, .int 917613 433), (917614, .int 917614 434), (917615, .int 917615 435), (917616, .int 917616 436), (917617, .int 917617 437), (917618, .int 917618 438), (917619, .int 917619 439), (917620, .int 917620 440), (917621, .int 917621 441)] 90 { mask := 511, place := #[1, 32, 33, 34, 35, 36, 37, 38, 39, 40, 41, 42, 43, 44, 45, 46, 47, 48, 49, 50, 51, 52, 53, 54, 55, 56, 57, 58, 59, 60, 61, 62, 63, 64, 65, 66, 67, 68, 69, 70, 71, 72, 73, 74, 75, 76, 77, 78, 79, 80, 81, 82, 83, 84, 85, 86, 87, 88, 89, 90, 91, 92, 93, 94, 95, 96, 97, 98, 99, 100, 101, 102, 103, 104, 105, 106, 107, 108, 109, 110, 111, 112, 113, 114, 115, 116, 117], dummies := #[], finger := 0, led := !P.followText "set-order", moves := 3, plain := true }, #[]⟩
noncomputable def o145v10 (P : Params) : Obj := ⟨.type "list_iterator", none, .fields #[.ref 143, .int 87 0], #[]⟩
noncomputable def treeL10 (P : Params) : BT := (.node (boot_o_0 P) (.node (boot_o_1 P) (.node (o3v3 P) (.node (boot_o_7 P) (.node (o15 P) (.node (o31 P) (.node (o63 P) (.node (o127 P) .nil .nil) .nil) (.node (o95 P) .nil .nil)) (.node (o47 P) (.node (o79 P) (.node (o143 P) .nil .nil) .nil) (.node (o111 P) .nil .nil))) (.node (o23 P) (.node (o39 P) (.node (o71 P) (.node (o135 P) .nil .nil) .nil) (.node (o103 P) .nil .nil)) (.node (o55 P) (.node (o87 P) .nil .nil) (.node (o119 P) .nil .nil)))) (.node (o11 P) (.node (o19 P) (.node (o35 P) (.node (o67 P) (.node (o131 P) .nil .nil) .nil) (.node (o99 P) .nil .nil)) (.node (o51 P) (.node (o83 P) .nil .nil) (.node (o115 P) .nil .nil))) (.node (o27 P) (.node (o43 P) (.node (o75 P) (.node (o139 P) .nil .nil) .nil) (.node (o107 P) .nil .nil)) (.node (o59 P) (.node (o91 P) .nil .nil) (.node (o123 P) .nil .nil))))) (.node (boot_o_5 P) (.node (boot_o_9 P) (.node (o17 P) (.node (o33 P) (.node (o65 P) (.node (o129 P) .nil .nil) .nil) (.node (o97 P) .nil .nil)) (.node (o49 P) (.node (o81 P) (.node (o145v10 P) .nil .nil) .nil) (.node (o113 P) .nil .nil))) (.node (o25 P) (.node (o41 P) (.node (o73 P) (.node (o137 P) .nil .nil) .nil) (.node (o105 P) .nil .nil)) (.node (o57 P) (.node (o89 P) .nil .nil) (.node (o121 P) .nil .nil)))) (.node (o13 P) (.node (o21 P) (.node (o37 P) (.node (o69 P) (.node (o133 P) .nil .nil) .nil) (.node (o101 P) .nil .nil)) (.node (o53 P) (.node (o85 P) .nil .nil) (.node (o117 P) .nil .nil))) (.node (o29 P) (.node (o45 P) (.node (o77 P) (.node (o141 P) .nil .nil) .nil) (.node (o109 P) .nil .nil)) (.node (o61 P) (.node (o93 P) .nil .nil) (.node (o125 P) .nil .nil)))))) (.node (boot_o_2 P) (.node (boot_o_4 P) (.node (boot_o_8 P) (.node (o16 P) (.node (o32 P) (.node (o64 P) (.node (o128 P) .nil .nil) .nil) (.node (o96 P) .nil .nil)) (.node (o48 P) (.node (o80 P) (.node (o144v10 P) .nil .nil) .nil) (.node (o112 P) .nil .nil))) (.node (o24 P) (.node (o40 P) (.node (o72 P) (.node (o136 P) .nil .nil) .nil) (.node (o104 P) .nil .nil)) (.node (o56 P) (.node (o88 P) .nil .nil) (.node (o120 P) .nil .nil)))) (.node (o12v2 P) (.node (o20 P) (.node (o36 P) (.node (o68 P) (.node (o132 P) .nil .nil) .nil) (.node (o100 P) .nil .nil)) (.node (o52 P) (.node (o84 P) .nil .nil) (.node (o116 P) .nil .nil))) (.node (o28 P) (.node (o44 P) (.node (o76 P) (.node (o140 P) .nil .nil) .nil) (.node (o108 P) .nil .nil)) (.node (o60 P) (.node (o92 P) .nil .nil) (.node (o124 P) .nil .nil))))) (.node (boot_o_6 P) (.node (boot_o_10 P) (.node (o18 P) (.node (o34 P) (.node (o66 P) (.node (o130 P) .nil .nil) .nil) (.node (o98 P) .nil .nil)) (.node (o50 P) (.node (o82 P) .nil .nil) (.node (o114 P) .nil .nil))) (.node (o26 P) (.node (o42 P) (.node (o74 P) (.node (o138 P) .nil .nil) .nil) (.node (o106 P) .nil .nil)) (.node (o58 P) (.node (o90 P) .nil .nil) (.node (o122 P) .nil .nil)))) (.node (o14 P) (.node (o22 P) (.node (o38 P) (.node (o70 P) (.node (o134 P) .nil .nil) .nil) (.node (o102 P) .nil .nil)) (.node (o54 P) (.node (o86 P) .nil .nil) (.node (o118 P) .nil .nil))) (.node (o30 P) (.node (o46 P) (.node (o78 P) (.node (o142 P) .nil .nil) .nil) (.node (o110 P) .nil .nil)) (.node (o62 P) (.node (o94 P) .nil .nil) (.node (o126 P) .nil .nil)))))))
noncomputable def o144v11 (P : Params) : Obj := ⟨.type "set", none, .set #[(917505, .int 917505 350), (917536, .int 917536 356), (917537, .int 917537 357), (917538, .int 917538 358), (917539, .int 917539 359), (917540, .int 917540 360), (917541, .int 917541 361), (917542, .int 917542 362), (917543, .int 917543 363), (917544, .int 917544 364), (917545, .int 917545 365), (917546, .int 917546 366), (917547, .int 917547 367), (917548, .int 917548 368), (917549, .int 917549 369), (917550, .int 917550 370), (917551, .int 917551 371), (917552, .int 917552 372), (917553, .int 917553 373), (917554, .int 917554 374), (917555, .int 917555 375), (917556, .int 917556 376), (917557, .int 917557 377), (917558, .int 917558 378), (917559, .int 917559 379), (917560, .int 917560 380), (917561, .int 917561 381), (917562, .int 917562 382), (917563, .int 917563 383), (917564, .int 917564 384), (917565, .int 917565 385), (917566, .int 917566 386), (917567, .int 917567 387), (917568, .int 917568 388), (917569, .int 917569 389), (917570, .int 917570 390), (917571, .int 917571 391), (917572, .int 917572 392), (917573, .int 917573 393), (917574, .int 917574 394), (917575, .int 917575 395), (917576, .int 917576 396), (917577, .int 917577 397), (917578, .int 917578 398), (917579, .int 917579 399), (917580, .int 917580 400), (917581, .int 917581 401), (917582, .int 917582 402), (917583, .int 917583 403), (917584, .int 917584 404), (917585, .int 917585 405), (917586, .int 917586 406), (917587, .int 917587 407), (917588, .int 917588 408), (917589, .int 917589 409), (917590, .int 917590 410), (917591, .int 917591 411), (917592, .int 917592 412), (917593, .int 917593 413), (917594, .int 917594 414), (917595, .int 917595 415), (917596, .int 917596 416), (917597, .int 917597 417), (917598, .int 917598 418), (917599, .int 917599 419), (917600, .int 917600 420), (917601, .int 917601 421), (917602, .int 917602 422), (917603, .int 917603 423), (917604, .int 917604 424), (917605, .int 917605 425), (917606, .int 917606 426), (917607, .int 917607 427), (917608, .int 917608 428), (917609, .int 917609 429), (917610, .int 917610 430), (917611, .int 917611 431), (917612, .int 917612 432), (917613, .int 917613 433), (917614, .int 917614 434), (917615, .int 917615 435), (917616, .int 917616 436), (917617, .int 917617 437), (917618, .int 917618 438), (917619, .int 917619 439), (917620, .int 917620 440), (917621, .int 917621 441), (917622, .int 917622 442), (917623, .int 917623 443), (917624, .int 917624 444), (917625, .int 917625 445), (917626, .int 917626 446), (917627, .int 917627 447), (917628, .int 917628 448), (917629, .int 917629 449), (917630, .int 917630 450), (917631, .int 917631 451)] 100 { mask := 511, place := #[1, 32, 33, 34, 35, 36, 37, 38, 39, 40, 41, 42, 43, 44, 45, 46, 47, 48, 49, 50, 51, 52, 53, 54, 55, 56, 57, 58, 59, 60, 61, 62, 63, 64, 65, 66, 67, 68, 69, 70, 71, 72, 73, 74, 75, 76, 77, 78, 79, 80, 81, 82, 83, 84, 85, 86, 87, 88, 89, 90, 91, 92, 93, 94, 95, 96, 97, 98, 99, 100, 101, 102, 103, 104, 105, 106, 107, 108, 109, 110, 111, 112, 113, 114, 115, 116, 117, 118, 119, 120, 121, 122, 123, 124, 125, 126, 127], dummies := #[], finger := 0, led := !P.followText "set-order", moves := 3, plain := true }, #[]⟩
noncomputable def o145v11 (P : Params) : Obj := ⟨.type "list_iterator", none, .fields #[.ref 143, .int 97 0], #[]⟩
noncomputable def treeL11 (P : Params) : BT := (.node (boot_o_0 P) (.node (boot_o_1 P) (.node (o3v3 P) (.node (boot_o_7 P) (.node (o15 P) (.node (o31 P) (.node (o63 P) (.node (o127 P) .nil .nil) .nil) (.node (o95 P) .nil .nil)) (.node (o47 P) (.node (o79 P) (.node (o143 P) .nil .nil) .nil) (.node (o111 P) .nil .nil))) (.node (o23 P) (.node (o39 P) (.node (o71 P) (.node (o135 P) .nil .nil) .nil) (.node (o103 P) .nil .nil)) (.node (o55 P) (.node (o87 P) .nil .nil) (.node (o119 P) .nil .nil)))) (.node (o11 P) (.node (o19 P) (.node (o35 P) (.node (o67 P) (.node (o131 P) .nil .nil) .nil) (.node (o99 P) .nil .nil)) (.node (o51 P) (.node (o83 P) .nil .nil) (.node (o115 P) .nil .nil))) (.node (o27 P) (.node (o43 P) (.node (o75 P) (.node (o139 P) .nil .nil) .nil) (.node (o107 P) .nil .nil)) (.node (o59 P) (.node (o91 P) .nil .nil) (.node (o123 P) .nil .nil))))) (.node (boot_o_5 P) (.node (boot_o_9 P) (.node (o17 P) (.node (o33 P) (.node (o65 P) (.node (o129 P) .nil .nil) .nil) (.node (o97 P) .nil .nil)) (.node (o49 P) (.node (o81 P) (.node (o145v11 P) .nil .nil) .nil) (.node (o113 P) .nil .nil))) (.node (o25 P) (.node (o41 P) (.node (o73 P) (.node (o137 P) .nil .nil) .nil) (.node (o105 P) .nil .nil)) (.node (o57 P) (.node (o89 P) .nil .nil) (.node (o121 P) .nil .nil)))) (.node (o13 P) (.node (o21 P) (.node (o37 P) (.node (o69 P) (.node (o133 P) .nil .nil) .nil) (.node (o101 P) .nil .nil)) (.node (o53 P) (.node (o85 P) .nil .nil) (.node (o117 P) .nil .nil))) (.node (o29 P) (.node (o45 P) (.node (o77 P) (.node (o141 P) .nil .nil) .nil) (.node (o109 P) .nil .nil)) (.node (o61 P) (.node (o93 P) .nil .nil) (.node (o125 P) .nil .nil)))))) (.node (boot_o_2 P) (.node (boot_o_4 P) (.node (boot_o_8 P) (.node (o16 P) (.node (o32 P) (.node (o64 P) (.node (o128 P) .nil .nil) .nil) (.node (o96 P) .nil .nil)) (.node (o48 P) (.node (o80 P) (.node (o144v11 P) .nil .nil) .nil) (.node (o112 P) .nil .nil))) (.node (o24 P) (.node (o40 P) (.node (o72 P) (.node (o136 P) .nil .nil) .nil) (.node (o104 P) .nil .nil)) (.node (o56 P) (.node (o88 P) .nil .nil) (.node (o120 P) .nil .nil)))) (.node (o12v2 P) (.node (o20 P) (.node (o36 P) (.node (o68 P) (.node (o132 P) .nil .nil) .nil) (.node (o100 P) .nil .nil)) (.node (o52 P) (.node (o84 P) .nil .nil) (.node (o116 P) .nil .nil))) (.node (o28 P) (.node (o44 P) (.node (o76 P) (.node (o140 P) .nil .nil) .nil) (.node (o108 P) .nil .nil)) (.node (o60 P) (.node (o92 P) .nil .nil) (.node (o124 P) .nil .nil))))) (.node (boot_o_6 P) (.node (boot_o_10 P) (.node (o18 P) (.node (o34 P) (.node (o66 P) (.node (o130 P) .nil .nil) .nil) (.node (o98 P) .nil .nil)) (.node (o50 P) (.node (o82 P) .nil .nil) (.node (o114 P) .nil .nil))) (.node (o26 P) (.node (o42 P) (.node (o74 P) (.node (o138 P) .nil .nil) .nil) (.node (o106 P) .nil .nil)) (.node (o58 P) (.node (o90 P) .nil .nil) (.node (o122 P) .nil .nil)))) (.node (o14 P) (.node (o22 P) (.node (o38 P) (.node (o70 P) (.node (o134 P) .nil .nil) .nil) (.node (o102 P) .nil .nil)) (.node (o54 P) (.node (o86 P) .nil .nil) (.node (o118 P) .nil .nil))) (.node (o30 P) (.node (o46 P) (.node (o78 P) (.node (o142 P) .nil .nil) .nil) (.node (o110 P) .nil .nil)) (.node (o62 P) (.node (o94 P) .nil .nil) (.node (o126 P) .nil .nil)))))))
noncomputable def o3v4 (P : Params) : Obj := ⟨.type "dict", none, .dict #[⟨PyData.keyHash P (Str.ofString "__name__"), .str (Str.ofString "__name__") 165, .str (Str.ofString "cpy313.stringprep") 293⟩, ⟨PyData.keyHash P (Str.ofString "__doc__"), .str (Str.ofString "__doc__") 166, .none⟩, ⟨PyData.keyHash P (Str.ofString "__package__"), .str (Str.ofString "__package__") 167, .none⟩, ⟨PyData.keyHash P (Str.ofString "__loader__"), .str (Str.ofString "__loader__") 168, .builtin "__main__.__loader__#opaque"⟩, ⟨PyData.keyHash P (Str.ofString "__spec__"), .str (Str.ofString "__spec__") 169, .none⟩, ⟨PyData.keyHash P (Str.ofString "__annotations__"), .str (Str.ofString "__annotations__") 170, .ref 6⟩, ⟨PyData.keyHash P (Str.ofString "__builtins__"), .str (Str.ofString "__builtins__") 171, .ref 4⟩, ⟨PyData.keyHash P (Str.ofString "__file__"), .str (Str.ofString "__file__") 173, .str (Str.ofString "/claim/cut.py") 172⟩, ⟨PyData.keyHash P (Str.ofString "__cached__"), .str (Str.ofString "__cached__") 174, .none⟩, ⟨PyData.keyHash P (Str.ofString "_wall"), .str (Str.ofString "_wall") 193, .ref 21⟩, ⟨PyData.keyHash P (Str.ofString "EMPTYSTRING"), .str (Str.ofString "EMPTYSTRING") 197, .str (Str.ofString "") 196⟩, ⟨PyData.keyHash P (Str.ofString "_Accumulator"), .str (Str.ofString "_Accumulator") 292, .ref 101⟩, ⟨PyData.keyHash P (Str.ofString "in_table_c11"), .str (Str.ofString "in_table_c11") 301, .ref 112⟩, ⟨PyData.keyHash P (Str.ofString "c8_set"), .str (Str.ofString "c8_set") 342, .ref 126⟩, ⟨PyData.keyHash P (Str.ofString "in_table_c8"), .str (Str.ofString "in_table_c8") 349, .ref 136⟩, ⟨PyData.keyHash P (Str.ofString "c9_set"), .str (Str.ofString "c9_set") 549, .ref 144⟩] 16, #[]⟩
noncomputable def o145v12 (P : Params) : Obj := ⟨.type "list_iterator", none, .fields #[.none, .int 97 0], #[]⟩
noncomputable def o146 (P : Params) : Obj := ⟨.type "tuple", none, .seq #[] 0, #[]⟩
noncomputable def o147 (P : Params) : Obj := ⟨.type "StopIteration", none, .fields #[.ref 146, .none, .none, .none, .bool false, .none], #[]⟩
noncomputable def treeD (P : Params) : BT := (.node (boot_o_0 P) (.node (boot_o_1 P) (.node (o3v4 P) (.node (boot_o_7 P) (.node (o15 P) (.node (o31 P) (.node (o63 P) (.node (o127 P) .nil .nil) .nil) (.node (o95 P) .nil .nil)) (.node (o47 P) (.node (o79 P) (.node (o143 P) .nil .nil) .nil) (.node (o111 P) .nil .nil))) (.node (o23 P) (.node (o39 P) (.node (o71 P) (.node (o135 P) .nil .nil) .nil) (.node (o103 P) .nil .nil)) (.node (o55 P) (.node (o87 P) .nil .nil) (.node (o119 P) .nil .nil)))) (.node (o11 P) (.node (o19 P) (.node (o35 P) (.node (o67 P) (.node (o131 P) .nil .nil) .nil) (.node (o99 P) .nil .nil)) (.node (o51 P) (.node (o83 P) (.node (o147 P) .nil .nil) .nil) (.node (o115 P) .nil .nil))) (.node (o27 P) (.node (o43 P) (.node (o75 P) (.node (o139 P) .nil .nil) .nil) (.node (o107 P) .nil .nil)) (.node (o59 P) (.node (o91 P) .nil .nil) (.node (o123 P) .nil .nil))))) (.node (boot_o_5 P) (.node (boot_o_9 P) (.node (o17 P) (.node (o33 P) (.node (o65 P) (.node (o129 P) .nil .nil) .nil) (.node (o97 P) .nil .nil)) (.node (o49 P) (.node (o81 P) (.node (o145v12 P) .nil .nil) .nil) (.node (o113 P) .nil .nil))) (.node (o25 P) (.node (o41 P) (.node (o73 P) (.node (o137 P) .nil .nil) .nil) (.node (o105 P) .nil .nil)) (.node (o57 P) (.node (o89 P) .nil .nil) (.node (o121 P) .nil .nil)))) (.node (o13 P) (.node (o21 P) (.node (o37 P) (.node (o69 P) (.node (o133 P) .nil .nil) .nil) (.node (o101 P) .nil .nil)) (.node (o53 P) (.node (o85 P) .nil .nil) (.node (o117 P) .nil .nil))) (.node (o29 P) (.node (o45 P) (.node (o77 P) (.node (o141 P) .nil .nil) .nil) (.node (o109 P) .nil .nil)) (.node (o61 P) (.node (o93 P) .nil .nil) (.node (o125 P) .nil .nil)))))) (.node (boot_o_2 P) (.node (boot_o_4 P) (.node (boot_o_8 P) (.node (o16 P) (.node (o32 P) (.node (o64 P) (.node (o128 P) .nil .nil) .nil) (.node (o96 P) .nil .nil)) (.node (o48 P) (.node (o80 P) (.node (o144v11 P) .nil .nil) .nil) (.node (o112 P) .nil .nil))) (.node (o24 P) (.node (o40 P) (.node (o72 P) (.node (o136 P) .nil .nil) .nil) (.node (o104 P) .nil .nil)) (.node (o56 P) (.node (o88 P) .nil .nil) (.node (o120 P) .nil .nil)))) (.node (o12v2 P) (.node (o20 P) (.node (o36 P) (.node (o68 P) (.node (o132 P) .nil .nil) .nil) (.node (o100 P) .nil .nil)) (.node (o52 P) (.node (o84 P) .nil .nil) (.node (o116 P) .nil .nil))) (.node (o28 P) (.node (o44 P) (.node (o76 P) (.node (o140 P) .nil .nil) .nil) (.node (o108 P) .nil .nil)) (.node (o60 P) (.node (o92 P) .nil .nil) (.node (o124 P) .nil .nil))))) (.node (boot_o_6 P) (.node (boot_o_10 P) (.node (o18 P) (.node (o34 P) (.node (o66 P) (.node (o130 P) .nil .nil) .nil) (.node (o98 P) .nil .nil)) (.node (o50 P) (.node (o82 P) (.node (o146 P) .nil .nil) .nil) (.node (o114 P) .nil .nil))) (.node (o26 P) (.node (o42 P) (.node (o74 P) (.node (o138 P) .nil .nil) .nil) (.node (o106 P) .nil .nil)) (.node (o58 P) (.node (o90 P) .nil .nil) (.node (o122 P) .nil .nil)))) (.node (o14 P) (.node (o22 P) (.node (o38 P) (.node (o70 P) (.node (o134 P) .nil .nil) .nil) (.node (o102 P) .nil .nil)) (.node (o54 P) (.node (o86 P) .nil .nil) (.node (o118 P) .nil .nil))) (.node (o30 P) (.node (o46 P) (.node (o78 P) (.node (o142 P) .nil .nil) .nil) (.node (o110 P) .nil .nil)) (.node (o62 P) (.node (o94 P) .nil .nil) (.node (o126 P) .nil .nil)))))))
noncomputable def o3v5 (P : Params) : Obj := ⟨.type "dict", none, .dict #[⟨PyData.keyHash P (Str.ofString "__name__"), .str (Str.ofString "__name__") 165, .str (Str.ofString "law_wo0008_01") 567⟩, ⟨PyData.keyHash P (Str.ofString "__doc__"), .str (Str.ofString "__doc__") 166, .none⟩, ⟨PyData.keyHash P (Str.ofString "__package__"), .str (Str.ofString "__package__") 167, .none⟩, ⟨PyData.keyHash P (Str.ofString "__loader__"), .str (Str.ofString "__loader__") 168, .builtin "__main__.__loader__#opaque"⟩, ⟨PyData.keyHash P (Str.ofString "__spec__"), .str (Str.ofString "__spec__") 169, .none⟩, ⟨PyData.keyHash P (Str.ofString "__annotations__"), .str (Str.ofString "__annotations__") 170, .ref 6⟩, ⟨PyData.keyHash P (Str.ofString "__builtins__"), .str (Str.ofString "__builtins__") 171, .ref 4⟩, ⟨PyData.keyHash P (Str.ofString "__file__"), .str (Str.ofString "__file__") 173, .str (Str.ofString "/claim/cut.py") 172⟩, ⟨PyData.keyHash P (Str.ofString "__cached__"), .str (Str.ofString "__cached__") 174, .none⟩, ⟨PyData.keyHash P (Str.ofString "_wall"), .str (Str.ofString "_wall") 193, .ref 21⟩, ⟨PyData.keyHash P (Str.ofString "EMPTYSTRING"), .str (Str.ofString "EMPTYSTRING") 197, .str (Str.ofString "") 196⟩, ⟨PyData.keyHash P (Str.ofString "_Accumulator"), .str (Str.ofString "_Accumulator") 292, .ref 101⟩, ⟨PyData.keyHash P (Str.ofString "in_table_c11"), .str (Str.ofString "in_table_c11") 301, .ref 112⟩, ⟨PyData.keyHash P (Str.ofString "c8_set"), .str (Str.ofString "c8_set") 342, .ref 126⟩, ⟨PyData.keyHash P (Str.ofString "in_table_c8"), .str (Str.ofString "in_table_c8") 349, .ref 136⟩, ⟨PyData.keyHash P (Str.ofString "c9_set"), .str (Str.ofString "c9_set") 549, .ref 144⟩, ⟨PyData.keyHash P (Str.ofString "in_table_c9"), .str (Str.ofString "in_table_c9") 556, .ref 154⟩, ⟨PyData.keyHash P (Str.ofString "capwords"), .str (Str.ofString "capwords") 566, .ref 162⟩, ⟨PyData.keyHash P (Str.ofString "_law_cells"), .str (Str.ofString "_law_cells") 578, .ref 169⟩, ⟨PyData.keyHash P (Str.ofString "_law_kind"), .str (Str.ofString "_law_kind") 584, .ref 174⟩, ⟨PyData.keyHash P (Str.ofString "_law_boxes"), .str (Str.ofString "_law_boxes") 590, .ref 179⟩, ⟨PyData.keyHash P (Str.ofString "_law_free"), .str (Str.ofString "_law_free") 598, .ref 186⟩, ⟨PyData.keyHash P (Str.ofString "_law_read"), .str (Str.ofString "_law_read") 611, .ref 193⟩, ⟨PyData.keyHash P (Str.ofString "_law_step"), .str (Str.ofString "_law_step") 627, .ref 200⟩, ⟨PyData.keyHash P (Str.ofString "_law_turn"), .str (Str.ofString "_law_turn") 639, .ref 207⟩, ⟨PyData.keyHash P (Str.ofString "_law_counts"), .str (Str.ofString "_law_counts") 655, .ref 214⟩, ⟨PyData.keyHash P (Str.ofString "_law_sizes"), .str (Str.ofString "_law_sizes") 666, .ref 221⟩, ⟨PyData.keyHash P (Str.ofString "_law_closed"), .str (Str.ofString "_law_closed") 679, .ref 228⟩, ⟨PyData.keyHash P (Str.ofString "law"), .str (Str.ofString "law") 685, .ref 233⟩] 29, #[]⟩
noncomputable def o12v3 (P : Params) : Obj := ⟨.none, none, .fields #[.int 1 0, .int 0 0, .ref 20, .int 6 0, .int 0 0, .ref 28, .int 38 0, .int 0 0, .ref 111, .int 41 0, .int 0 0, .ref 135, .int 44 0, .int 0 0, .ref 153, .int 47 0, .int 0 0, .ref 161, .int 50 0, .int 0 0, .ref 168, .int 55 0, .int 0 0, .ref 173, .int 65 0, .int 0 0, .ref 178, .int 75 0, .int 0 0, .ref 185, .int 81 0, .int 0 0, .ref 192, .int 94 0, .int 0 0, .ref 199, .int 108 0, .int 0 0, .ref 206, .int 114 0, .int 0 0, .ref 213, .int 130 0, .int 0 0, .ref 220, .int 138 0, .int 0 0, .ref 227, .int 149 0, .int 0 0, .ref 232], #[]⟩
noncomputable def o148 (P : Params) : Obj := ⟨.type "tuple", none, .seq #[] 0, #[]⟩
noncomputable def o149 (P : Params) : Obj := ⟨.none, none, .fields #[], #[]⟩
noncomputable def o150 (P : Params) : Obj := ⟨.type "tuple", none, .seq #[.str (Str.ofString "code") 553] 0, #[]⟩
noncomputable def o151 (P : Params) : Obj := ⟨.type "tuple", none, .seq #[] 0, #[]⟩
noncomputable def o152 (P : Params) : Obj := ⟨.none, none, .func (fdOf (topSt 9) (Str.ofString "in_table_c9") 0 [] (.none) (.none) (.none) (.none) (.none)), #[]⟩
noncomputable def o153 (P : Params) : Obj := ⟨.type "code", none, .fields #[.str (Str.ofString "in_table_c9") 550, .str (Str.ofString "in_table_c9") 551, .str (Str.ofString "/claim/cut.py") 552, .int 44 0, .int 1 0, .int 0 0, .int 0 0, .int 3 0, .ref 148, .bool true, .int 181 0, .ref 149, .none, .ref 150, .ref 151, .ref 152, .int 554 0, .int 44 0, .str (Str.ofString "/claim/cut.py") 555], #[]⟩
noncomputable def o154 (P : Params) : Obj := ⟨.type "function", none, .func (fdOf (topSt 9) (Str.ofString "in_table_c9") 3 [] (.none) (.none) (.str (Str.ofString "cpy313.stringprep") 293) (.ref 153) (.none)), #[]⟩
noncomputable def o155 (P : Params) : Obj := ⟨.type "tuple", none, .seq #[.none] 0, #[]⟩
noncomputable def o156 (P : Params) : Obj := ⟨.type "tuple", none, .seq #[] 0, #[]⟩
noncomputable def o157 (P : Params) : Obj := ⟨.none, none, .fields #[], #[]⟩
noncomputable def o158 (P : Params) : Obj := ⟨.type "tuple", none, .seq #[.str (Str.ofString "s") 562, .str (Str.ofString "sep") 563] 0, #[]⟩
noncomputable def o159 (P : Params) : Obj := ⟨.type "tuple", none, .seq #[] 0, #[]⟩
noncomputable def o160 (P : Params) : Obj := ⟨.none, none, .func (fdOf (topSt 11) (Str.ofString "capwords") 0 [] (.none) (.none) (.none) (.none) (.none)), #[]⟩
noncomputable def o161 (P : Params) : Obj := ⟨.type "code", none, .fields #[.str (Str.ofString "capwords") 559, .str (Str.ofString "capwords") 560, .str (Str.ofString "/claim/cut.py") 561, .int 47 0, .int 2 0, .int 0 0, .int 0 0, .int 3 0, .ref 156, .bool true, .int 181 0, .ref 157, .none, .ref 158, .ref 159, .ref 160, .int 564 0, .int 47 0, .str (Str.ofString "/claim/cut.py") 565], #[]⟩
noncomputable def o162 (P : Params) : Obj := ⟨.type "function", none, .func (fdOf (topSt 11) (Str.ofString "capwords") 3 [] (.ref 155) (.none) (.str (Str.ofString "cpy313.string") 557) (.ref 161) (.none)), #[]⟩
noncomputable def o163 (P : Params) : Obj := ⟨.type "tuple", none, .seq #[] 0, #[]⟩
noncomputable def o164 (P : Params) : Obj := ⟨.none, none, .fields #[], #[]⟩
noncomputable def o165 (P : Params) : Obj := ⟨.type "tuple", none, .seq #[.str (Str.ofString "script") 572, .str (Str.ofString "cells") 573, .str (Str.ofString "at") 574, .str (Str.ofString "number") 575] 0, #[]⟩
noncomputable def o166 (P : Params) : Obj := ⟨.type "tuple", none, .seq #[] 0, #[]⟩
noncomputable def o167 (P : Params) : Obj := ⟨.none, none, .func (fdOf (topSt 13) (Str.ofString "_law_cells") 0 [] (.none) (.none) (.none) (.none) (.none)), #[]⟩
noncomputable def o168 (P : Params) : Obj := ⟨.type "code", none, .fields #[.str (Str.ofString "_law_cells") 569, .str (Str.ofString "_law_cells") 570, .str (Str.ofString "/claim/cut.py") 571, .int 50 0, .int 1 0, .int 0 0, .int 0 0, .int 3 0, .ref 163, .bool true, .int 181 0, .ref 164, .none, .ref 165, .ref 166, .ref 167, .int 576 0, .int 50 0, .str (Str.ofString "/claim/cut.py") 577], #[]⟩
noncomputable def o169 (P : Params) : Obj := ⟨.type "function", none, .func (fdOf (topSt 13) (Str.ofString "_law_cells") 3 [] (.none) (.none) (.str (Str.ofString "law_wo0008_01") 567) (.ref 168) (.none)), #[]⟩
noncomputable def o170 (P : Params) : Obj := ⟨.type "tuple", none, .seq #[] 0, #[]⟩
noncomputable def o171 (P : Params) : Obj := ⟨.none, none, .fields #[], #[]⟩
noncomputable def o172 (P : Params) : Obj := ⟨.none, none, .func (fdOf (topSt 14) (Str.ofString "_law_kind") 0 [] (.none) (.none) (.none) (.none) (.none)), #[]⟩
noncomputable def o173 (P : Params) : Obj := ⟨.type "code", none, .fields #[.str (Str.ofString "_law_kind") 579, .str (Str.ofString "_law_kind") 580, .str (Str.ofString "/claim/cut.py") 581, .int 55 0, .int 1 0, .int 0 0, .int 0 0, .int 3 0, .ref 170, .bool true, .int 181 0, .ref 171, .none, .none, .none, .ref 172, .int 582 0, .int 55 0, .str (Str.ofString "/claim/cut.py") 583], #[]⟩
noncomputable def o174 (P : Params) : Obj := ⟨.type "function", none, .func (fdOf (topSt 14) (Str.ofString "_law_kind") 3 [] (.none) (.none) (.str (Str.ofString "law_wo0008_01") 567) (.ref 173) (.none)), #[]⟩
noncomputable def o175 (P : Params) : Obj := ⟨.type "tuple", none, .seq #[] 0, #[]⟩
noncomputable def o176 (P : Params) : Obj := ⟨.none, none, .fields #[], #[]⟩
noncomputable def o177 (P : Params) : Obj := ⟨.none, none, .func (fdOf (topSt 15) (Str.ofString "_law_boxes") 0 [] (.none) (.none) (.none) (.none) (.none)), #[]⟩
noncomputable def o178 (P : Params) : Obj := ⟨.type "code", none, .fields #[.str (Str.ofString "_law_boxes") 585, .str (Str.ofString "_law_boxes") 586, .str (Str.ofString "/claim/cut.py") 587, .int 65 0, .int 4 0, .int 0 0, .int 0 0, .int 3 0, .ref 175, .bool true, .int 181 0, .ref 176, .none, .none, .none, .ref 177, .int 588 0, .int 65 0, .str (Str.ofString "/claim/cut.py") 589], #[]⟩
noncomputable def o179 (P : Params) : Obj := ⟨.type "function", none, .func (fdOf (topSt 15) (Str.ofString "_law_boxes") 3 [] (.none) (.none) (.str (Str.ofString "law_wo0008_01") 567) (.ref 178) (.none)), #[]⟩
noncomputable def o180 (P : Params) : Obj := ⟨.type "tuple", none, .seq #[] 0, #[]⟩
noncomputable def o181 (P : Params) : Obj := ⟨.none, none, .fields #[], #[]⟩
noncomputable def o182 (P : Params) : Obj := ⟨.type "tuple", none, .seq #[.str (Str.ofString "kind") 594, .str (Str.ofString "sign") 595] 0, #[]⟩
noncomputable def o183 (P : Params) : Obj := ⟨.type "tuple", none, .seq #[] 0, #[]⟩
noncomputable def o184 (P : Params) : Obj := ⟨.none, none, .func (fdOf (topSt 16) (Str.ofString "_law_free") 0 [] (.none) (.none) (.none) (.none) (.none)), #[]⟩
noncomputable def o185 (P : Params) : Obj := ⟨.type "code", none, .fields #[.str (Str.ofString "_law_free") 591, .str (Str.ofString "_law_free") 592, .str (Str.ofString "/claim/cut.py") 593, .int 75 0, .int 2 0, .int 0 0, .int 0 0, .int 3 0, .ref 180, .bool true, .int 181 0, .ref 181, .none, .ref 182, .ref 183, .ref 184, .int 596 0, .int 75 0, .str (Str.ofString "/claim/cut.py") 597], #[]⟩
noncomputable def o186 (P : Params) : Obj := ⟨.type "function", none, .func (fdOf (topSt 16) (Str.ofString "_law_free") 3 [] (.none) (.none) (.str (Str.ofString "law_wo0008_01") 567) (.ref 185) (.none)), #[]⟩
noncomputable def o187 (P : Params) : Obj := ⟨.type "tuple", none, .seq #[] 0, #[]⟩
noncomputable def o188 (P : Params) : Obj := ⟨.none, none, .fields #[], #[]⟩
noncomputable def o189 (P : Params) : Obj := ⟨.type "tuple", none, .seq #[.str (Str.ofString "kind") 602, .str (Str.ofString "line") 603, .str (Str.ofString "pile") 604, .str (Str.ofString "ahead") 605, .str (Str.ofString "sign") 606, .str (Str.ofString "signs") 607, .str (Str.ofString "ball") 608] 0, #[]⟩
noncomputable def o190 (P : Params) : Obj := ⟨.type "tuple", none, .seq #[] 0, #[]⟩
noncomputable def o191 (P : Params) : Obj := ⟨.none, none, .func (fdOf (topSt 17) (Str.ofString "_law_read") 0 [] (.none) (.none) (.none) (.none) (.none)), #[]⟩
noncomputable def o192 (P : Params) : Obj := ⟨.type "code", none, .fields #[.str (Str.ofString "_law_read") 599, .str (Str.ofString "_law_read") 600, .str (Str.ofString "/claim/cut.py") 601, .int 81 0, .int 2 0, .int 0 0, .int 0 0, .int 3 0, .ref 187, .bool true, .int 181 0, .ref 188, .none, .ref 189, .ref 190, .ref 191, .int 609 0, .int 81 0, .str (Str.ofString "/claim/cut.py") 610], #[]⟩
noncomputable def o193 (P : Params) : Obj := ⟨.type "function", none, .func (fdOf (topSt 17) (Str.ofString "_law_read") 3 [] (.none) (.none) (.str (Str.ofString "law_wo0008_01") 567) (.ref 192) (.none)), #[]⟩
noncomputable def o194 (P : Params) : Obj := ⟨.type "tuple", none, .seq #[] 0, #[]⟩
noncomputable def o195 (P : Params) : Obj := ⟨.none, none, .fields #[], #[]⟩
noncomputable def o196 (P : Params) : Obj := ⟨.type "tuple", none, .seq #[.str (Str.ofString "kind") 615, .str (Str.ofString "line") 616, .str (Str.ofString "free") 617, .str (Str.ofString "pile") 618, .str (Str.ofString "behind") 619, .str (Str.ofString "carrier") 620, .str (Str.ofString "laid") 621, .str (Str.ofString "signs") 622, .str (Str.ofString "ball") 623, .str (Str.ofString "box") 624] 0, #[]⟩
noncomputable def o197 (P : Params) : Obj := ⟨.type "tuple", none, .seq #[] 0, #[]⟩
noncomputable def o198 (P : Params) : Obj := ⟨.none, none, .func (fdOf (topSt 18) (Str.ofString "_law_step") 0 [] (.none) (.none) (.none) (.none) (.none)), #[]⟩
noncomputable def o199 (P : Params) : Obj := ⟨.type "code", none, .fields #[.str (Str.ofString "_law_step") 612, .str (Str.ofString "_law_step") 613, .str (Str.ofString "/claim/cut.py") 614, .int 94 0, .int 3 0, .int 0 0, .int 0 0, .int 3 0, .ref 194, .bool true, .int 181 0, .ref 195, .none, .ref 196, .ref 197, .ref 198, .int 625 0, .int 94 0, .str (Str.ofString "/claim/cut.py") 626], #[]⟩
noncomputable def o200 (P : Params) : Obj := ⟨.type "function", none, .func (fdOf (topSt 18) (Str.ofString "_law_step") 3 [] (.none) (.none) (.str (Str.ofString "law_wo0008_01") 567) (.ref 199) (.none)), #[]⟩
noncomputable def o201 (P : Params) : Obj := ⟨.type "tuple", none, .seq #[] 0, #[]⟩
noncomputable def o202 (P : Params) : Obj := ⟨.none, none, .fields #[], #[]⟩
noncomputable def o203 (P : Params) : Obj := ⟨.type "tuple", none, .seq #[.str (Str.ofString "kind") 631, .str (Str.ofString "line") 632, .str (Str.ofString "pile") 633, .str (Str.ofString "turned") 634, .str (Str.ofString "signs") 635, .str (Str.ofString "ball") 636] 0, #[]⟩
noncomputable def o204 (P : Params) : Obj := ⟨.type "tuple", none, .seq #[] 0, #[]⟩
noncomputable def o205 (P : Params) : Obj := ⟨.none, none, .func (fdOf (topSt 19) (Str.ofString "_law_turn") 0 [] (.none) (.none) (.none) (.none) (.none)), #[]⟩
noncomputable def o206 (P : Params) : Obj := ⟨.type "code", none, .fields #[.str (Str.ofString "_law_turn") 628, .str (Str.ofString "_law_turn") 629, .str (Str.ofString "/claim/cut.py") 630, .int 108 0, .int 2 0, .int 0 0, .int 0 0, .int 3 0, .ref 201, .bool true, .int 181 0, .ref 202, .none, .ref 203, .ref 204, .ref 205, .int 637 0, .int 108 0, .str (Str.ofString "/claim/cut.py") 638], #[]⟩
noncomputable def o207 (P : Params) : Obj := ⟨.type "function", none, .func (fdOf (topSt 19) (Str.ofString "_law_turn") 3 [] (.none) (.none) (.str (Str.ofString "law_wo0008_01") 567) (.ref 206) (.none)), #[]⟩
noncomputable def o208 (P : Params) : Obj := ⟨.type "tuple", none, .seq #[] 0, #[]⟩
noncomputable def o209 (P : Params) : Obj := ⟨.none, none, .fields #[], #[]⟩
noncomputable def o210 (P : Params) : Obj := ⟨.type "tuple", none, .seq #[.str (Str.ofString "kind") 643, .str (Str.ofString "line") 644, .str (Str.ofString "free") 645, .str (Str.ofString "counts") 646, .str (Str.ofString "turned") 647, .str (Str.ofString "pile") 648, .str (Str.ofString "behind") 649, .str (Str.ofString "great") 650, .str (Str.ofString "signs") 651, .str (Str.ofString "ball") 652] 0, #[]⟩
noncomputable def o211 (P : Params) : Obj := ⟨.type "tuple", none, .seq #[] 0, #[]⟩
noncomputable def o212 (P : Params) : Obj := ⟨.none, none, .func (fdOf (topSt 20) (Str.ofString "_law_counts") 0 [] (.none) (.none) (.none) (.none) (.none)), #[]⟩
noncomputable def o213 (P : Params) : Obj := ⟨.type "code", none, .fields #[.str (Str.ofString "_law_counts") 640, .str (Str.ofString "_law_counts") 641, .str (Str.ofString "/claim/cut.py") 642, .int 114 0, .int 3 0, .int 0 0, .int 0 0, .int 3 0, .ref 208, .bool true, .int 181 0, .ref 209, .none, .ref 210, .ref 211, .ref 212, .int 653 0, .int 114 0, .str (Str.ofString "/claim/cut.py") 654], #[]⟩
noncomputable def o214 (P : Params) : Obj := ⟨.type "function", none, .func (fdOf (topSt 20) (Str.ofString "_law_counts") 3 [] (.none) (.none) (.str (Str.ofString "law_wo0008_01") 567) (.ref 213) (.none)), #[]⟩
noncomputable def o215 (P : Params) : Obj := ⟨.type "tuple", none, .seq #[] 0, #[]⟩
noncomputable def o216 (P : Params) : Obj := ⟨.none, none, .fields #[], #[]⟩
noncomputable def o217 (P : Params) : Obj := ⟨.type "tuple", none, .seq #[.str (Str.ofString "kind") 659, .str (Str.ofString "text") 660, .str (Str.ofString "sizes") 661, .str (Str.ofString "signs") 662, .str (Str.ofString "ball") 663] 0, #[]⟩
noncomputable def o218 (P : Params) : Obj := ⟨.type "tuple", none, .seq #[] 0, #[]⟩
noncomputable def o219 (P : Params) : Obj := ⟨.none, none, .func (fdOf (topSt 21) (Str.ofString "_law_sizes") 0 [] (.none) (.none) (.none) (.none) (.none)), #[]⟩
noncomputable def o220 (P : Params) : Obj := ⟨.type "code", none, .fields #[.str (Str.ofString "_law_sizes") 656, .str (Str.ofString "_law_sizes") 657, .str (Str.ofString "/claim/cut.py") 658, .int 130 0, .int 2 0, .int 0 0, .int 0 0, .int 3 0, .ref 215, .bool true, .int 181 0, .ref 216, .none, .ref 217, .ref 218, .ref 219, .int 664 0, .int 130 0, .str (Str.ofString "/claim/cut.py") 665], #[]⟩
noncomputable def o221 (P : Params) : Obj := ⟨.type "function", none, .func (fdOf (topSt 21) (Str.ofString "_law_sizes") 3 [] (.none) (.none) (.str (Str.ofString "law_wo0008_01") 567) (.ref 220) (.none)), #[]⟩
noncomputable def o222 (P : Params) : Obj := ⟨.type "tuple", none, .seq #[] 0, #[]⟩
noncomputable def o223 (P : Params) : Obj := ⟨.none, none, .fields #[], #[]⟩
noncomputable def o224 (P : Params) : Obj := ⟨.type "tuple", none, .seq #[.str (Str.ofString "boxes") 670, .str (Str.ofString "free") 671, .str (Str.ofString "laid") 672, .str (Str.ofString "at") 673, .str (Str.ofString "box") 674, .str (Str.ofString "depth") 675, .str (Str.ofString "to") 676] 0, #[]⟩
noncomputable def o225 (P : Params) : Obj := ⟨.type "tuple", none, .seq #[] 0, #[]⟩
noncomputable def o226 (P : Params) : Obj := ⟨.none, none, .func (fdOf (topSt 22) (Str.ofString "_law_closed") 0 [] (.none) (.none) (.none) (.none) (.none)), #[]⟩
noncomputable def o227 (P : Params) : Obj := ⟨.type "code", none, .fields #[.str (Str.ofString "_law_closed") 667, .str (Str.ofString "_law_closed") 668, .str (Str.ofString "/claim/cut.py") 669, .int 138 0, .int 2 0, .int 0 0, .int 0 0, .int 3 0, .ref 222, .bool true, .int 181 0, .ref 223, .none, .ref 224, .ref 225, .ref 226, .int 677 0, .int 138 0, .str (Str.ofString "/claim/cut.py") 678], #[]⟩
noncomputable def o228 (P : Params) : Obj := ⟨.type "function", none, .func (fdOf (topSt 22) (Str.ofString "_law_closed") 3 [] (.none) (.none) (.str (Str.ofString "law_wo0008_01") 567) (.ref 227) (.none)), #[]⟩
noncomputable def o229 (P : Params) : Obj := ⟨.type "tuple", none, .seq #[] 0, #[]⟩
noncomputable def o230 (P : Params) : Obj := ⟨.none, none, .fields #[], #[]⟩
noncomputable def o231 (P : Params) : Obj := ⟨.none, none, .func (fdOf (topSt 23) (Str.ofString "law") 0 [] (.none) (.none) (.none) (.none) (.none)), #[]⟩
noncomputable def o232 (P : Params) : Obj := ⟨.type "code", none, .fields #[.str (Str.ofString "law") 680, .str (Str.ofString "law") 681, .str (Str.ofString "/claim/cut.py") 682, .int 149 0, .int 1 0, .int 0 0, .int 0 0, .int 3 0, .ref 229, .bool true, .int 181 0, .ref 230, .none, .none, .none, .ref 231, .int 683 0, .int 149 0, .str (Str.ofString "/claim/cut.py") 684], #[]⟩
noncomputable def o233 (P : Params) : Obj := ⟨.type "function", none, .func (fdOf (topSt 23) (Str.ofString "law") 3 [] (.none) (.none) (.str (Str.ofString "law_wo0008_01") 567) (.ref 232) (.none)), #[]⟩
noncomputable def treeE (P : Params) : BT := (.node (boot_o_0 P) (.node (boot_o_1 P) (.node (o3v5 P) (.node (boot_o_7 P) (.node (o15 P) (.node (o31 P) (.node (o63 P) (.node (o127 P) .nil .nil) (.node (o191 P) .nil .nil)) (.node (o95 P) (.node (o159 P) .nil .nil) (.node (o223 P) .nil .nil))) (.node (o47 P) (.node (o79 P) (.node (o143 P) .nil .nil) (.node (o207 P) .nil .nil)) (.node (o111 P) (.node (o175 P) .nil .nil) .nil))) (.node (o23 P) (.node (o39 P) (.node (o71 P) (.node (o135 P) .nil .nil) (.node (o199 P) .nil .nil)) (.node (o103 P) (.node (o167 P) .nil .nil) (.node (o231 P) .nil .nil))) (.node (o55 P) (.node (o87 P) (.node (o151 P) .nil .nil) (.node (o215 P) .nil .nil)) (.node (o119 P) (.node (o183 P) .nil .nil) .nil)))) (.node (o11 P) (.node (o19 P) (.node (o35 P) (.node (o67 P) (.node (o131 P) .nil .nil) (.node (o195 P) .nil .nil)) (.node (o99 P) (.node (o163 P) .nil .nil) (.node (o227 P) .nil .nil))) (.node (o51 P) (.node (o83 P) (.node (o147 P) .nil .nil) (.node (o211 P) .nil .nil)) (.node (o115 P) (.node (o179 P) .nil .nil) .nil))) (.node (o27 P) (.node (o43 P) (.node (o75 P) (.node (o139 P) .nil .nil) (.node (o203 P) .nil .nil)) (.node (o107 P) (.node (o171 P) .nil .nil) .nil)) (.node (o59 P) (.node (o91 P) (.node (o155 P) .nil .nil) (.node (o219 P) .nil .nil)) (.node (o123 P) (.node (o187 P) .nil .nil) .nil))))) (.node (boot_o_5 P) (.node (boot_o_9 P) (.node (o17 P) (.node (o33 P) (.node (o65 P) (.node (o129 P) .nil .nil) (.node (o193 P) .nil .nil)) (.node (o97 P) (.node (o161 P) .nil .nil) (.node (o225 P) .nil .nil))) (.node (o49 P) (.node (o81 P) (.node (o145v12 P) .nil .nil) (.node (o209 P) .nil .nil)) (.node (o113 P) (.node (o177 P) .nil .nil) .nil))) (.node (o25 P) (.node (o41 P) (.node (o73 P) (.node (o137 P) .nil .nil) (.node (o201 P) .nil .nil)) (.node (o105 P) (.node (o169 P) .nil .nil) (.node (o233 P) .nil .nil))) (.node (o57 P) (.node (o89 P) (.node (o153 P) .nil .nil) (.node (o217 P) .nil .nil)) (.node (o121 P) (.node (o185 P) .nil .nil) .nil)))) (.node (o13 P) (.node (o21 P) (.node (o37 P) (.node (o69 P) (.node (o133 P) .nil .nil) (.node (o197 P) .nil .nil)) (.node (o101 P) (.node (o165 P) .nil .nil) (.node (o229 P) .nil .nil))) (.node (o53 P) (.node (o85 P) (.node (o149 P) .nil .nil) (.node (o213 P) .nil .nil)) (.node (o117 P) (.node (o181 P) .nil .nil) .nil))) (.node (o29 P) (.node (o45 P) (.node (o77 P) (.node (o141 P) .nil .nil) (.node (o205 P) .nil .nil)) (.node (o109 P) (.node (o173 P) .nil .nil) .nil)) (.node (o61 P) (.node (o93 P) (.node (o157 P) .nil .nil) (.node (o221 P) .nil .nil)) (.node (o125 P) (.node (o189 P) .nil .nil) .nil)))))) (.node (boot_o_2 P) (.node (boot_o_4 P) (.node (boot_o_8 P) (.node (o16 P) (.node (o32 P) (.node (o64 P) (.node (o128 P) .nil .nil) (.node (o192 P) .nil .nil)) (.node (o96 P) (.node (o160 P) .nil .nil) (.node (o224 P) .nil .nil))) (.node (o48 P) (.node (o80 P) (.node (o144v11 P) .nil .nil) (.node (o208 P) .nil .nil)) (.node (o112 P) (.node (o176 P) .nil .nil) .nil))) (.node (o24 P) (.node (o40 P) (.node (o72 P) (.node (o136 P) .nil .nil) (.node (o200 P) .nil .nil)) (.node (o104 P) (.node (o168 P) .nil .nil) (.node (o232 P) .nil .nil))) (.node (o56 P) (.node (o88 P) (.node (o152 P) .nil .nil) (.node (o216 P) .nil .nil)) (.node (o120 P) (.node (o184 P) .nil .nil) .nil)))) (.node (o12v3 P) (.node (o20 P) (.node (o36 P) (.node (o68 P) (.node (o132 P) .nil .nil) (.node (o196 P) .nil .nil)) (.node (o100 P) (.node (o164 P) .nil .nil) (.node (o228 P) .nil .nil))) (.node (o52 P) (.node (o84 P) (.node (o148 P) .nil .nil) (.node (o212 P) .nil .nil)) (.node (o116 P) (.node (o180 P) .nil .nil) .nil))) (.node (o28 P) (.node (o44 P) (.node (o76 P) (.node (o140 P) .nil .nil) (.node (o204 P) .nil .nil)) (.node (o108 P) (.node (o172 P) .nil .nil) .nil)) (.node (o60 P) (.node (o92 P) (.node (o156 P) .nil .nil) (.node (o220 P) .nil .nil)) (.node (o124 P) (.node (o188 P) .nil .nil) .nil))))) (.node (boot_o_6 P) (.node (boot_o_10 P) (.node (o18 P) (.node (o34 P) (.node (o66 P) (.node (o130 P) .nil .nil) (.node (o194 P) .nil .nil)) (.node (o98 P) (.node (o162 P) .nil .nil) (.node (o226 P) .nil .nil))) (.node (o50 P) (.node (o82 P) (.node (o146 P) .nil .nil) (.node (o210 P) .nil .nil)) (.node (o114 P) (.node (o178 P) .nil .nil) .nil))) (.node (o26 P) (.node (o42 P) (.node (o74 P) (.node (o138 P) .nil .nil) (.node (o202 P) .nil .nil)) (.node (o106 P) (.node (o170 P) .nil .nil) .nil)) (.node (o58 P) (.node (o90 P) (.node (o154 P) .nil .nil) (.node (o218 P) .nil .nil)) (.node (o122 P) (.node (o186 P) .nil .nil) .nil)))) (.node (o14 P) (.node (o22 P) (.node (o38 P) (.node (o70 P) (.node (o134 P) .nil .nil) (.node (o198 P) .nil .nil)) (.node (o102 P) (.node (o166 P) .nil .nil) (.node (o230 P) .nil .nil))) (.node (o54 P) (.node (o86 P) (.node (o150 P) .nil .nil) (.node (o214 P) .nil .nil)) (.node (o118 P) (.node (o182 P) .nil .nil) .nil))) (.node (o30 P) (.node (o46 P) (.node (o78 P) (.node (o142 P) .nil .nil) (.node (o206 P) .nil .nil)) (.node (o110 P) (.node (o174 P) .nil .nil) .nil)) (.node (o62 P) (.node (o94 P) (.node (o158 P) .nil .nil) (.node (o222 P) .nil .nil)) (.node (o126 P) (.node (o190 P) .nil .nil) .nil)))))))
section force
variable {R : Type}
noncomputable def fNat (n : Nat) (k : Nat → R) : R := match n with
  | 0 => k 0
  | m + 1 => k (m + 1)
theorem fNat_eq (n : Nat) (k : Nat → R) : fNat n k = k n := by cases n <;> rfl
noncomputable def fBool (b : Bool) (k : Bool → R) : R := match b with
  | true => k true
  | false => k false
theorem fBool_eq (b : Bool) (k : Bool → R) : fBool b k = k b := by cases b <;> rfl
noncomputable def fInt (i : Int) (k : Int → R) : R := match i with
  | .ofNat n => fNat n fun n => k (.ofNat n)
  | .negSucc n => fNat n fun n => k (.negSucc n)
theorem fInt_eq (i : Int) (k : Int → R) : fInt i k = k i := by cases i <;> simp only [fInt, fNat_eq]
noncomputable def fVal (v : Value) (k : Value → R) : R := match v with
  | .int i t => fInt i fun i => fNat t fun t => k (.int i t)
  | .ref a => fNat a fun a => k (.ref a)
  | v => k v
theorem fVal_eq (v : Value) (k : Value → R) : fVal v k = k v := by
  cases v <;> first | rfl | (simp only [fVal, fInt_eq, fNat_eq])
noncomputable def fList {α : Type} (f : α → (α → R) → R) : List α → (List α → R) → R
  | [], k => k []
  | x :: r, k => f x fun x => fList f r fun r => k (x :: r)
theorem fList_eq {α : Type} {f : α → (α → R) → R} (h : ∀ x k, f x k = k x) : ∀ (l : List α) (k : List α → R), fList f l k = k l
  | [], _ => rfl
  | x :: r, k => by simp only [fList, h, fList_eq h r]
noncomputable def fArr {α : Type} (f : α → (α → R) → R) (a : Array α) (k : Array α → R) : R := match a with
  | ⟨l⟩ => fList f l fun l => k ⟨l⟩
theorem fArr_eq {α : Type} {f : α → (α → R) → R} (h : ∀ x k, f x k = k x) (a : Array α) (k : Array α → R) : fArr f a k = k a := by
  obtain ⟨l⟩ := a; exact fList_eq h l _
noncomputable def fPair (p : Int × Value) (k : Int × Value → R) : R := match p with
  | (i, v) => fInt i fun i => fVal v fun v => k (i, v)
theorem fPair_eq (p : Int × Value) (k : Int × Value → R) : fPair p k = k p := by
  obtain ⟨i, v⟩ := p; simp only [fPair, fInt_eq, fVal_eq]
noncomputable def fTab (t : SetTable) (k : SetTable → R) : R := match t with
  | ⟨m, p, d, f, l, mv, pl⟩ => fNat m fun m => fArr fNat p fun p => fArr fNat d fun d => fNat f fun f => fNat mv fun mv => fBool pl fun pl => k ⟨m, p, d, f, l, mv, pl⟩
theorem fTab_eq (t : SetTable) (k : SetTable → R) : fTab t k = k t := by
  obtain ⟨⟩ := t; simp only [fTab, fNat_eq, fBool_eq, fArr_eq fNat_eq]
noncomputable def fData (d : Data) (k : Data → R) : R := match d with
  | .set es n t => fArr fPair es fun es => fNat n fun n => fTab t fun t => k (.set es n t)
  | .seq xs n => fArr fVal xs fun xs => fNat n fun n => k (.seq xs n)
  | .fields vs => fArr fVal vs fun vs => k (.fields vs)
  | d => k d
theorem fData_eq (d : Data) (k : Data → R) : fData d k = k d := by
  cases d <;> first | rfl | (simp only [fData, fNat_eq, fArr_eq fVal_eq, fArr_eq fPair_eq, fTab_eq])
noncomputable def fObj (o : Obj) (k : Obj → R) : R := match o with
  | ⟨c, d, x, s⟩ => fData x fun x => k ⟨c, d, x, s⟩
theorem fObj_eq (o : Obj) (k : Obj → R) : fObj o k = k o := by obtain ⟨⟩ := o; simp only [fObj, fData_eq]
noncomputable def fBT : BT → (BT → R) → R
  | .nil, k => k .nil
  | .node v l r, k => fObj v fun v => fBT l fun l => fBT r fun r => k (.node v l r)
theorem fBT_eq : ∀ (t : BT) (k : BT → R), fBT t k = k t
  | .nil, _ => rfl
  | .node v l r, k => by simp only [fBT, fObj_eq, fBT_eq l, fBT_eq r]
noncomputable def fSh (s : SharedT) (k : SharedT → R) : R := match s with
  | ⟨t, n, l, g, d, tk, os⟩ => fBT t fun t => fNat n fun n => fNat tk fun tk => k ⟨t, n, l, g, d, tk, os⟩
theorem fSh_eq (s : SharedT) (k : SharedT → R) : fSh s k = k s := by obtain ⟨⟩ := s; simp only [fSh, fBT_eq, fNat_eq]
end force
noncomputable def env0 : Env := { scope := pw.main.scope, locals := mainNs, globals := mainNs, cells := [], code := .ref 13, frame := some 14 }
noncomputable def pos0 : Pos := ⟨0, 0, 0, 0⟩
noncomputable def sts (i j : Nat) : List Stmt := (pw.main.body.drop i).take (j - i)
noncomputable def cE : Code := .body (behindTheImports pw) env0
noncomputable def sh (t : BT) (n k : Nat) (os : OsState) : SharedT := ⟨t, n, {}, #[], boot_drawn, k, os⟩
noncomputable abbrev annV : Option Value := some (.ref 6)
noncomputable abbrev tT := PySem.W.Fast.tw14364793385576792824
noncomputable abbrev tS := PySem.W.Fast.tw10110043849684766642
noncomputable abbrev tG := PySem.W.Fast.tw10295753902157049106
theorem tS_eq : @segRunT = @tS := PySem.W.Fast.te10110043849684766642
theorem tG_eq : @segGoT = @tG := PySem.W.Fast.te10295753902157049106
theorem tT_eq : treeTable = tT := PySem.W.Fast.te14364793385576792824
noncomputable def goF (w : World) : Nat → Nat → SharedT → Thread → Option (SharedT × Thread)
  | 0, _, s, t => some (s, t)
  | c + 1, m, s, t => match tG tT pw w 11 annV 1 m s t with
    | none => none
    | some st => fSh st.1 fun s' => goF w c m s' st.2
noncomputable abbrev Runs1 (w : World) (N : Nat) (s : Shared) (t : Thread) (r : Flow × Shared × Code × Pos) : Prop := segRun treeTable pw w 11 annV 1 N s t = some r
theorem goF_ok (w : World) : ∀ (c m : Nat) (s s' : SharedT) (t t' : Thread), goF w c m s t = some (s', t') → ∀ {N : Nat} {r}, Runs1 w N s'.abs t' r → Runs1 w (c * m + N) s.abs t r
  | 0, m, s, s', t, t', h, N, r, k => by
    cases h; rw [Nat.zero_mul, Nat.zero_add]; exact k
  | c + 1, m, s, s', t, t', h, N, r, k => by
    unfold goF at h
    split at h
    · cases h
    · rename_i st e
      rw [fSh_eq] at h
      have k' := goF_ok w c m _ _ _ _ h k
      rw [← tG_eq, ← tT_eq] at e
      have := seg_go (segGo_of (s' := st.1) (t' := st.2) e) k'
      rw [show (c + 1) * m + N = m + (c * m + N) by rw [Nat.succ_mul]; omega]
      exact this
theorem tS_ok {w : World} {m : Nat} {s s' : SharedT} {t : Thread} {f : Flow} {cd : Code} {q : Pos} (h : tS tT pw w 11 annV 1 m s t = some (f, s', cd, q)) : Runs1 w m s.abs t (f, s'.abs, cd, q) := by
  rw [← tS_eq, ← tT_eq] at h; exact segRun_of h
theorem headA (w : World) (os : OsState) : topGo treeTable pw w 11 annV 12 ⟨boot_heap w.params, #[], boot_drawn, boot_toks, os⟩ (topStub pw) = some ((sh (treeA w.params) 15 187 os).abs, ⟨denote treeTable cE, cE, pos0, [topFrame pos0]⟩) := by kernel_rfl
theorem headB (w : World) (os : OsState) : tS tT pw w 11 annV 1 600 (sh (treeA w.params) 15 187 os) (piecesOf (sts 0 6) env0 cE pos0 [topFrame pos0]) = some (.next, sh (treeB w.params) 113 302 os, cE, ⟨38, 0, 39, 22⟩) := by kernel_rfl
noncomputable abbrev WF (b : Bool) (w : World) : World := w.withFollow "special-get-raises" b
noncomputable def chunks (w : World) : Nat → Nat → SharedT → Thread → Option (Flow × SharedT × Code × Pos)
  | 0, m, s, t => tS tT pw w 11 annV 1 m s t
  | c + 1, m, s, t => match tG tT pw w 11 annV 1 m s t with
    | none => none
    | some st => fSh st.1 fun s' => chunks w c m s' st.2
theorem chunks_ok (w : World) : ∀ (c m : Nat) (s s' : SharedT) (t : Thread) (f : Flow) (cd : Code) (q : Pos), chunks w c m s t = some (f, s', cd, q) →
    Runs1 w (c * m + m) s.abs t (f, s'.abs, cd, q)
  | 0, m, s, s', t, f, cd, q, h => by
    have h' : tS tT pw w 11 annV 1 m s t = some (f, s', cd, q) := h
    have := tS_ok h'
    rw [Nat.zero_mul, Nat.zero_add]; exact this
  | c + 1, m, s, s', t, f, cd, q, h => by
    unfold chunks at h
    split at h
    · cases h
    · rename_i st e
      rw [fSh_eq] at h
      have k := chunks_ok w c m _ _ _ _ _ _ h
      rw [← tG_eq, ← tT_eq] at e
      have := seg_go (segGo_of (s' := st.1) (t' := st.2) e) k
      rw [show (c + 1) * m + m = m + (c * m + m) by rw [Nat.succ_mul]; omega]
      exact this
theorem headCt (w : World) (os : OsState) : chunks (WF true w) 6 120 (sh (treeB (WF true w).params) 113 302 os) (piecesOf (sts 6 7) env0 cE ⟨38, 0, 39, 22⟩ [topFrame pos0]) = some (.next, sh (treeC (WF true w).params) 130 343 os, cE, ⟨40, 0, 40, 6⟩) := by kernel_rfl
theorem headCf (w : World) (os : OsState) : chunks (WF false w) 6 120 (sh (treeB (WF false w).params) 113 302 os) (piecesOf (sts 6 7) env0 cE ⟨38, 0, 39, 22⟩ [topFrame pos0]) = some (.next, sh (treeC (WF false w).params) 130 343 os, cE, ⟨40, 0, 40, 6⟩) := by kernel_rfl
noncomputable def loopC : Code := .builtin "set.update.loop" ⟨[.ref 144, .ref 145], []⟩
noncomputable def fr (w : World) (os : OsState) (i : Nat) : Frame := match goF w 7 261 (sh (treeC w.params) 130 343 os) (piecesOf (sts 7 9) env0 cE ⟨40, 0, 40, 6⟩ [topFrame pos0]) with
  | some x => x.2.stack.getD i (topFrame pos0)
  | none => topFrame pos0
noncomputable def tl (w : World) (os : OsState) : Thread := ⟨PySem.W.Fast.tw11892475500146522536 tT loopC, loopC, ⟨43, 9, 43, 52⟩, [fr w os 0, fr w os 1, fr w os 2, topFrame pos0]⟩
theorem headL0t (w : World) (os : OsState) : goF (WF true w) 7 261 (sh (treeC (WF true w).params) 130 343 os) (piecesOf (sts 7 9) env0 cE ⟨40, 0, 40, 6⟩ [topFrame pos0]) = some (sh (treeL0 (WF true w).params) 146 453 os, tl (WF true w) os) := by kernel_rfl
theorem headL0f (w : World) (os : OsState) : goF (WF false w) 7 261 (sh (treeC (WF false w).params) 130 343 os) (piecesOf (sts 7 9) env0 cE ⟨40, 0, 40, 6⟩ [topFrame pos0]) = some (sh (treeL0 (WF false w).params) 146 453 os, tl (WF false w) os) := by kernel_rfl
theorem headL1t (w : World) (os : OsState) : goF (WF true w) 3 20 (sh (treeL0 (WF true w).params) 146 453 os) (tl (WF true w) os) = some (sh (treeL1 (WF true w).params) 146 456 os, tl (WF true w) os) := by kernel_rfl
theorem headL1f (w : World) (os : OsState) : goF (WF false w) 3 20 (sh (treeL0 (WF false w).params) 146 453 os) (tl (WF false w) os) = some (sh (treeL1 (WF false w).params) 146 456 os, tl (WF false w) os) := by kernel_rfl
theorem headL2t (w : World) (os : OsState) : goF (WF true w) 1 22 (sh (treeL1 (WF true w).params) 146 456 os) (tl (WF true w) os) = some (sh (treeL2 (WF true w).params) 146 457 os, tl (WF true w) os) := by kernel_rfl
theorem headL2f (w : World) (os : OsState) : goF (WF false w) 1 22 (sh (treeL1 (WF false w).params) 146 456 os) (tl (WF false w) os) = some (sh (treeL2 (WF false w).params) 146 457 os, tl (WF false w) os) := by kernel_rfl
theorem headL3t (w : World) (os : OsState) : goF (WF true w) 13 20 (sh (treeL2 (WF true w).params) 146 457 os) (tl (WF true w) os) = some (sh (treeL3 (WF true w).params) 146 470 os, tl (WF true w) os) := by kernel_rfl
theorem headL3f (w : World) (os : OsState) : goF (WF false w) 13 20 (sh (treeL2 (WF false w).params) 146 457 os) (tl (WF false w) os) = some (sh (treeL3 (WF false w).params) 146 470 os, tl (WF false w) os) := by kernel_rfl
theorem headL4t (w : World) (os : OsState) : goF (WF true w) 1 22 (sh (treeL3 (WF true w).params) 146 470 os) (tl (WF true w) os) = some (sh (treeL4 (WF true w).params) 146 471 os, tl (WF true w) os) := by kernel_rfl
theorem headL4f (w : World) (os : OsState) : goF (WF false w) 1 22 (sh (treeL3 (WF false w).params) 146 470 os) (tl (WF false w) os) = some (sh (treeL4 (WF false w).params) 146 471 os, tl (WF false w) os) := by kernel_rfl
theorem headL5t (w : World) (os : OsState) : goF (WF true w) 16 20 (sh (treeL4 (WF true w).params) 146 471 os) (tl (WF true w) os) = some (sh (treeL5 (WF true w).params) 146 487 os, tl (WF true w) os) := by kernel_rfl
theorem headL5f (w : World) (os : OsState) : goF (WF false w) 16 20 (sh (treeL4 (WF false w).params) 146 471 os) (tl (WF false w) os) = some (sh (treeL5 (WF false w).params) 146 487 os, tl (WF false w) os) := by kernel_rfl
theorem headL6t (w : World) (os : OsState) : goF (WF true w) 16 20 (sh (treeL5 (WF true w).params) 146 487 os) (tl (WF true w) os) = some (sh (treeL6 (WF true w).params) 146 503 os, tl (WF true w) os) := by kernel_rfl
theorem headL6f (w : World) (os : OsState) : goF (WF false w) 16 20 (sh (treeL5 (WF false w).params) 146 487 os) (tl (WF false w) os) = some (sh (treeL6 (WF false w).params) 146 503 os, tl (WF false w) os) := by kernel_rfl
theorem headL7t (w : World) (os : OsState) : goF (WF true w) 13 20 (sh (treeL6 (WF true w).params) 146 503 os) (tl (WF true w) os) = some (sh (treeL7 (WF true w).params) 146 516 os, tl (WF true w) os) := by kernel_rfl
theorem headL7f (w : World) (os : OsState) : goF (WF false w) 13 20 (sh (treeL6 (WF false w).params) 146 503 os) (tl (WF false w) os) = some (sh (treeL7 (WF false w).params) 146 516 os, tl (WF false w) os) := by kernel_rfl
theorem headL8t (w : World) (os : OsState) : goF (WF true w) 12 20 (sh (treeL7 (WF true w).params) 146 516 os) (tl (WF true w) os) = some (sh (treeL8 (WF true w).params) 146 528 os, tl (WF true w) os) := by kernel_rfl
theorem headL8f (w : World) (os : OsState) : goF (WF false w) 12 20 (sh (treeL7 (WF false w).params) 146 516 os) (tl (WF false w) os) = some (sh (treeL8 (WF false w).params) 146 528 os, tl (WF false w) os) := by kernel_rfl
theorem headL9t (w : World) (os : OsState) : goF (WF true w) 1 22 (sh (treeL8 (WF true w).params) 146 528 os) (tl (WF true w) os) = some (sh (treeL9 (WF true w).params) 146 529 os, tl (WF true w) os) := by kernel_rfl
theorem headL9f (w : World) (os : OsState) : goF (WF false w) 1 22 (sh (treeL8 (WF false w).params) 146 528 os) (tl (WF false w) os) = some (sh (treeL9 (WF false w).params) 146 529 os, tl (WF false w) os) := by kernel_rfl
theorem headL10t (w : World) (os : OsState) : goF (WF true w) 10 20 (sh (treeL9 (WF true w).params) 146 529 os) (tl (WF true w) os) = some (sh (treeL10 (WF true w).params) 146 539 os, tl (WF true w) os) := by kernel_rfl
theorem headL10f (w : World) (os : OsState) : goF (WF false w) 10 20 (sh (treeL9 (WF false w).params) 146 529 os) (tl (WF false w) os) = some (sh (treeL10 (WF false w).params) 146 539 os, tl (WF false w) os) := by kernel_rfl
theorem headL11t (w : World) (os : OsState) : goF (WF true w) 10 20 (sh (treeL10 (WF true w).params) 146 539 os) (tl (WF true w) os) = some (sh (treeL11 (WF true w).params) 146 549 os, tl (WF true w) os) := by kernel_rfl
theorem headL11f (w : World) (os : OsState) : goF (WF false w) 10 20 (sh (treeL10 (WF false w).params) 146 539 os) (tl (WF false w) os) = some (sh (treeL11 (WF false w).params) 146 549 os, tl (WF false w) os) := by kernel_rfl
theorem headLet (w : World) (os : OsState) : tS tT pw (WF true w) 11 annV 1 60 (sh (treeL11 (WF true w).params) 146 549 os) (tl (WF true w) os) = some (.next, sh (treeD (WF true w).params) 148 550 os, cE, ⟨43, 0, 43, 6⟩) := by kernel_rfl
theorem headLef (w : World) (os : OsState) : tS tT pw (WF false w) 11 annV 1 60 (sh (treeL11 (WF false w).params) 146 549 os) (tl (WF false w) os) = some (.next, sh (treeD (WF false w).params) 148 550 os, cE, ⟨43, 0, 43, 6⟩) := by kernel_rfl
theorem headE (w : World) (os : OsState) : tS tT pw w 11 annV 1 600 (sh (treeD w.params) 148 550 os) (piecesOf (sts 9 24) env0 cE ⟨43, 0, 43, 6⟩ [topFrame pos0]) = some (.next, sh (treeE w.params) 234 686 os, cE, ⟨149, 0, 184, 67⟩) := by kernel_rfl
noncomputable def KF (P : Params) : Frag := [(2, boot_o_2 P), (3, o3v5 P), (4, boot_o_4 P), (22, o22 P), (25, o25 P), (30, o30 P), (31, o31 P), (37, o37 P), (38, o38 P), (44, o44 P), (45, o45 P), (54, o54 P), (60, o60 P), (61, o61 P), (63, o63 P), (67, o67 P), (68, o68 P), (70, o70 P), (74, o74 P), (75, o75 P), (91, o91 P), (97, o97 P), (98, o98 P), (100, o100 P), (101, o101 P), (111, o111 P), (112, o112 P), (126, o126 P), (135, o135 P), (136, o136 P), (144, o144v11 P), (153, o153 P), (154, o154 P), (155, o155 P), (161, o161 P), (162, o162 P), (168, o168 P), (169, o169 P), (173, o173 P), (174, o174 P), (178, o178 P), (179, o179 P), (185, o185 P), (186, o186 P), (192, o192 P), (193, o193 P), (199, o199 P), (200, o200 P), (206, o206 P), (207, o207 P), (213, o213 P), (214, o214 P), (220, o220 P), (221, o221 P), (227, o227 P), (228, o228 P), (232, o232 P), (233, o233 P)]
noncomputable def KAs : List Addr := [2, 3, 4, 22, 25, 30, 31, 37, 38, 44, 45, 54, 60, 61, 63, 67, 68, 70, 74, 75, 91, 97, 98, 100, 101, 111, 112, 126, 135, 136, 144, 153, 154, 155, 161, 162, 168, 169, 173, 174, 178, 179, 185, 186, 192, 193, 199, 200, 206, 207, 213, 214, 220, 221, 227, 228, 232, 233]
theorem byB {P : World → Prop} (ht : ∀ w, P (WF true w)) (hf : ∀ w, P (WF false w)) (w : World) : P w := byRow2 "special-get-raises" hf ht w
theorem runC (w : World) (os : OsState) : Runs1 w 840 (sh (treeB w.params) 113 302 os).abs (piecesOf (sts 6 7) env0 cE ⟨38, 0, 39, 22⟩ [topFrame pos0]) (.next, (sh (treeC w.params) 130 343 os).abs, cE, ⟨40, 0, 40, 6⟩) :=
  byB (P := fun w => ∀ os, Runs1 w 840 (sh (treeB w.params) 113 302 os).abs (piecesOf (sts 6 7) env0 cE ⟨38, 0, 39, 22⟩ [topFrame pos0]) (.next, (sh (treeC w.params) 130 343 os).abs, cE, ⟨40, 0, 40, 6⟩))
    (fun w os => by have k := chunks_ok _ _ _ _ _ _ _ _ _ (headCt w os); exact k) (fun w os => by have k := chunks_ok _ _ _ _ _ _ _ _ _ (headCf w os); exact k) w os
theorem runDt (w : World) (os : OsState) : Runs1 (WF true w) 3813 (sh (treeC (WF true w).params) 130 343 os).abs (piecesOf (sts 7 9) env0 cE ⟨40, 0, 40, 6⟩ [topFrame pos0]) (.next, (sh (treeD (WF true w).params) 148 550 os).abs, cE, ⟨43, 0, 43, 6⟩) := by
  have k := tS_ok (headLet w os)
  have k := goF_ok _ _ _ _ _ _ _ (headL11t w os) k
  have k := goF_ok _ _ _ _ _ _ _ (headL10t w os) k
  have k := goF_ok _ _ _ _ _ _ _ (headL9t w os) k
  have k := goF_ok _ _ _ _ _ _ _ (headL8t w os) k
  have k := goF_ok _ _ _ _ _ _ _ (headL7t w os) k
  have k := goF_ok _ _ _ _ _ _ _ (headL6t w os) k
  have k := goF_ok _ _ _ _ _ _ _ (headL5t w os) k
  have k := goF_ok _ _ _ _ _ _ _ (headL4t w os) k
  have k := goF_ok _ _ _ _ _ _ _ (headL3t w os) k
  have k := goF_ok _ _ _ _ _ _ _ (headL2t w os) k
  have k := goF_ok _ _ _ _ _ _ _ (headL1t w os) k
  have k := goF_ok _ _ _ _ _ _ _ (headL0t w os) k
  exact k
theorem runDf (w : World) (os : OsState) : Runs1 (WF false w) 3813 (sh (treeC (WF false w).params) 130 343 os).abs (piecesOf (sts 7 9) env0 cE ⟨40, 0, 40, 6⟩ [topFrame pos0]) (.next, (sh (treeD (WF false w).params) 148 550 os).abs, cE, ⟨43, 0, 43, 6⟩) := by
  have k := tS_ok (headLef w os)
  have k := goF_ok _ _ _ _ _ _ _ (headL11f w os) k
  have k := goF_ok _ _ _ _ _ _ _ (headL10f w os) k
  have k := goF_ok _ _ _ _ _ _ _ (headL9f w os) k
  have k := goF_ok _ _ _ _ _ _ _ (headL8f w os) k
  have k := goF_ok _ _ _ _ _ _ _ (headL7f w os) k
  have k := goF_ok _ _ _ _ _ _ _ (headL6f w os) k
  have k := goF_ok _ _ _ _ _ _ _ (headL5f w os) k
  have k := goF_ok _ _ _ _ _ _ _ (headL4f w os) k
  have k := goF_ok _ _ _ _ _ _ _ (headL3f w os) k
  have k := goF_ok _ _ _ _ _ _ _ (headL2f w os) k
  have k := goF_ok _ _ _ _ _ _ _ (headL1f w os) k
  have k := goF_ok _ _ _ _ _ _ _ (headL0f w os) k
  exact k
theorem runD (w : World) (os : OsState) : Runs1 w 3813 (sh (treeC w.params) 130 343 os).abs (piecesOf (sts 7 9) env0 cE ⟨40, 0, 40, 6⟩ [topFrame pos0]) (.next, (sh (treeD w.params) 148 550 os).abs, cE, ⟨43, 0, 43, 6⟩) :=
  byB (P := fun w => ∀ os, Runs1 w 3813 (sh (treeC w.params) 130 343 os).abs (piecesOf (sts 7 9) env0 cE ⟨40, 0, 40, 6⟩ [topFrame pos0]) (.next, (sh (treeD w.params) 148 550 os).abs, cE, ⟨43, 0, 43, 6⟩))
    (fun w os => runDt w os) (fun w os => runDf w os) w os
theorem body_is : behindTheImports pw = sts 0 6 ++ (sts 6 7 ++ (sts 7 9 ++ (sts 9 24 ++ []))) := by kernel_rfl
theorem block_is (w : World) (os : OsState) : segRun treeTable pw w 11 annV 1 1 (sh (treeA w.params) 15 187 os).abs (blockOf (behindTheImports pw) env0 cE pos0 [topFrame pos0]) = some (.next, (sh (treeA w.params) 15 187 os).abs, cE, pos0) := by kernel_rfl
theorem fin_is (w : World) (os : OsState) : topRun treeTable pw w 11 annV 2 (sh (treeE w.params) 234 686 os).abs ⟨doneF .next, cE, ⟨149, 0, 184, 67⟩, [topFrame pos0]⟩ = some (sh (treeE w.params) 234 686 os).abs := by kernel_rfl
theorem run_top (w : World) (os : OsState) : topRun treeTable pw w 11 annV (12 + (1 + (600 + (840 + (3813 + (600 + 2)))))) ⟨boot_heap w.params, #[], boot_drawn, boot_toks, os⟩ (topStub pw) = some (sh (treeE w.params) 234 686 os).abs := by
  refine go_top (headA w os) (piece_block (block_is w os) ?_)
  rw [body_is]
  exact piece_app (tS_ok (headB w os)) (piece_app (runC w os) (piece_app (runD w os) (piece_app (tS_ok (headE w os)) (piece_nil (fin_is w os)))))
noncomputable abbrev lst : Stmt := topSt 23
noncomputable def qv : Program := { pw with main := { pw.main with body := [topSt 23] } }
noncomputable def loose : List Str := ["_wall", "EMPTYSTRING", "_Accumulator", "in_table_c11", "c8_set", "in_table_c8", "c9_set", "in_table_c9", "capwords", "_law_cells", "_law_kind", "_law_boxes", "_law_free", "_law_read", "_law_step", "_law_turn", "_law_counts", "_law_sizes", "_law_closed"]
noncomputable def Xt : Shared → Bool := fun _ => true
noncomputable def Yf (s : Shared) : List (Option Obj) := KAs.map s.heap.get?
noncomputable def Ya (w : World) : List (Option Obj) := (KF w.params).map fun p => some p.2
noncomputable abbrev tO := PySem.W.Fast.tw4187177175401517315
theorem tO_eq : @openSeen = @tO := PySem.W.Fast.te4187177175401517315
noncomputable abbrev He (P : Params) : Heap := absHeap (treeE P) 234 {}
theorem look1 (w : World) (os : OsState) : (staticsOk (importedModules pw.main.body) (boot_heap w.params) (He w.params) && namesBound pw (He w.params) && gensDone ⟨He w.params, #[], boot_drawn, 686, os⟩ && laidKept (boot_heap w.params) (He w.params)) = true := by kernel_rfl
theorem look2 (w : World) (os : OsState) : tO qv loose (importedModules pw.main.body) Xt true ⟨He w.params, #[], boot_drawn, 686, os⟩ = openGood qv loose := by kernel_rfl
theorem look3 (w : World) (os : OsState) : Yf ⟨He w.params, #[], boot_drawn, 686, os⟩ = Ya w := by kernel_rfl
theorem boot_is (w : World) : (fencedOpening treeTable pw w 12000).map (fun s => (s.heap, s.gens, s.drawn, s.toks)) = some (boot_heap w.params, Array.mk [], boot_drawn, boot_toks) :=
  boot_open (by kernel_rfl) (by kernel_rfl) (fun s => by kernel_rfl) w
theorem size_is (w : World) : ((boot_heap w.params).isNs mainGlobals && (Array.mk [] : Array GenState).size == 0, (boot_heap w.params).objs.size, (boot_heap w.params).nsMap mainGlobals "__annotations__") = (true, 11, annV) := by kernel_rfl
theorem left : LeftO pw qv loose Xt Yf Ya 12000 true :=
  LeftO.of_pieces (H₀ := boot_heap) (H₁ := He) (gs₀ := Array.mk []) (gs₁ := Array.mk []) (d₀ := boot_drawn) (d₁ := boot_drawn) (k₀ := boot_toks) (k₁ := 686) (m₀ := 11) (ann := annV) (M := 12 + (1 + (600 + (840 + (3813 + (600 + 2))))))
    boot_is size_is (fun w os => run_top w os) (by kernel_rfl) fun w => funext fun os => by
      have h1 := look1 w os
      have h2 := look2 w os
      rw [← tO_eq] at h2
      exact Prod.ext h1 (Prod.ext h2 (look3 w os))
end Mine
end
section
namespace Mine
inductive Fv where
  | none | bool (b : Bool) | int (i : Int) | str (x : Str) | ref (a : Addr) | val (v : Value)
noncomputable def FIs (v : Value) : Fv → Prop
  | .none => v = .none
  | .bool b => v = .bool b
  | .int i => ∃ t, v = .int i t
  | .str x => ∃ t, v = .str x t
  | .ref a => v = .ref a
  | .val w => v = w
inductive FL : List Value → List Fv → Prop
  | nil : FL [] []
  | cons {v f vs fs} : FIs v f → FL vs fs → FL (v :: vs) (f :: fs)
theorem FL.length {vs fs} (h : FL vs fs) : vs.length = fs.length := by induction h <;> simp_all
theorem FL.get {vs fs} (h : FL vs fs) : ∀ {i : Nat} {f : Fv}, fs[i]? = some f → ∃ v, vs[i]? = some v ∧ FIs v f := by
  induction h with
  | nil => intro i f e; simp at e
  | cons h1 h2 ih =>
    intro i f e
    cases i with
    | zero => simp only [List.getElem?_cons_zero, Option.some.injEq] at e ⊢; subst e; exact ⟨_, rfl, h1⟩
    | succ i => simp only [List.getElem?_cons_succ] at e ⊢; exact ih e
theorem FL.append {vs fs} (h : FL vs fs) {ws gs} (k : FL ws gs) : FL (vs ++ ws) (fs ++ gs) := by
  induction h with
  | nil => exact k
  | cons a b ih => exact .cons a ih
noncomputable def IsTupO (o : Obj) : Prop := o.cls = .type "tuple" ∧ ∃ vs n, o.data = .seq vs n
noncomputable def TupIs (h : Heap) (a : Addr) (fs : List Fv) : Prop := ∃ vs, h.get? a = some { cls := .type "tuple", data := .seq vs } ∧ FL vs.toList fs
inductive Own where
  | list (fs : List Fv)
  | tup (fs : List Fv)
  | acc (d : Addr) (z : Int) (ps : List (Str × Str))
  | ns (bs : List (Str × Fv))
  | cell (f : Option Fv)
  | raw (P : Obj → Prop)
noncomputable def NsB (h : Heap) (a : Addr) (bs : List (Str × Fv)) : Prop := ∃ m, h.Ns a m ∧ ∀ x f, bs.lookup x = some f → ∃ v, m x = some v ∧ FIs v f
noncomputable def PairIs (h : Heap) (v : Value) (p : Str × Str) : Prop := ∃ t, v = .ref t ∧ TupIs h t [.str p.1, .str p.2]
inductive PL (h : Heap) : List Value → List (Str × Str) → Prop
  | nil : PL h [] []
  | cons {v p vs ps} : PairIs h v p → PL h vs ps → PL h (v :: vs) (p :: ps)
/-- all but the object at a stands as it stood, and that was no tuple -/
noncomputable def Mut (a : Addr) (h h' : Heap) : Prop := (∀ o, h.get? a = some o → ¬ IsTupO o) ∧ Heap.ExtBut a h h'
noncomputable def Ext (h h' : Heap) : Prop := ∀ b o, h.get? b = some o → h'.get? b = some o
theorem Ext.refl (h : Heap) : Ext h h := fun _ _ e => e
theorem Ext.trans {h₁ h₂ h₃ : Heap} (x : Ext h₁ h₂) (y : Ext h₂ h₃) : Ext h₁ h₃ := fun b o e => y b o (x b o e)
theorem Ext.push (h : Heap) (o : Obj) : Ext h (h.push o) := fun _ _ e => Heap.get?_push_of_some o e
noncomputable def accO (d : Addr) (vs : Array Value) (n : Nat) : Obj := ⟨.ref 101, some d, .seq vs n, #[]⟩
noncomputable def InitD (h : Heap) (d : Addr) (z : Int) : Prop := ∃ t, h.Ns d (fun x => if x = ("_initial_size" : Str) then some (.int z t) else Option.none)
theorem InitD.ext {h h' : Heap} {d z} (x : InitD h d z) (k : Ext h h') : InitD h' d z := let ⟨t, n⟩ := x; ⟨t, n.keeps k⟩
theorem InitD.mut {h h' : Heap} {d b z} (x : InitD h d z) (hb : d ≠ b) (k : Mut b h h') : InitD h' d z := let ⟨t, n⟩ := x; ⟨t, n.extBut k.2 hb⟩
noncomputable def Own.At (h : Heap) (a : Addr) : Own → Prop
  | .list fs => ∃ vs n, h.get? a = some { cls := .type "list", data := .seq vs n } ∧ FL vs.toList fs
  | .tup fs => TupIs h a fs
  | .acc d z ps => (∃ vs n, h.get? a = some (accO d vs n) ∧ PL h vs.toList ps) ∧ InitD h d z
  | .ns bs => NsB h a bs
  | .cell f => (∃ o, h.get? a = some o ∧ o.data = .cell Option.none ∧ f = Option.none) ∨ ∃ o v g, h.get? a = some o ∧ o.data = .cell (some v) ∧ f = some g ∧ FIs v g
  | .raw P => ∃ o, h.get? a = some o ∧ P o
theorem TupIs.ext {h h' : Heap} {a fs} (x : TupIs h a fs) (k : Ext h h') : TupIs h' a fs := let ⟨vs, e, f⟩ := x; ⟨vs, k _ _ e, f⟩
theorem TupIs.mut {h h' : Heap} {a b fs} (x : TupIs h a fs) (k : Mut b h h') : TupIs h' a fs := by
  obtain ⟨vs, e, f⟩ := x
  refine ⟨vs, k.2 _ _ ?_ e, f⟩
  rintro rfl
  exact k.1 _ e ⟨rfl, vs, 0, rfl⟩
theorem PL.ext {h h' : Heap} {vs ps} (x : PL h vs ps) (k : Ext h h') : PL h' vs ps := by
  induction x with
  | nil => exact .nil
  | cons a b ih => exact .cons (let ⟨t, e, y⟩ := a; ⟨t, e, y.ext k⟩) ih
theorem PL.mut {h h' : Heap} {vs ps b} (x : PL h vs ps) (k : Mut b h h') : PL h' vs ps := by
  induction x with
  | nil => exact .nil
  | cons a _ ih => exact .cons (let ⟨t, e, y⟩ := a; ⟨t, e, y.mut k⟩) ih
theorem NsB.ext {h h' : Heap} {a bs} (x : NsB h a bs) (k : Ext h h') : NsB h' a bs := let ⟨m, n, y⟩ := x; ⟨m, n.keeps k, y⟩
theorem NsB.mut {h h' : Heap} {a b bs} (x : NsB h a bs) (hab : a ≠ b) (k : Mut b h h') : NsB h' a bs := let ⟨m, n, y⟩ := x; ⟨m, n.extBut k.2 hab, y⟩
theorem Own.At.ext {h h' : Heap} {a} {w : Own} (x : w.At h a) (k : Ext h h') : w.At h' a := by
  cases w with
  | list => obtain ⟨vs, n, e, f⟩ := x; exact ⟨vs, n, k _ _ e, f⟩
  | tup => exact TupIs.ext x k
  | acc => obtain ⟨⟨vs, n, e, f⟩, g⟩ := x; exact ⟨⟨vs, n, k _ _ e, f.ext k⟩, g.ext k⟩
  | ns => exact NsB.ext x k
  | cell => rcases x with ⟨o, e, f, g⟩ | ⟨o, v, g, e, f, r⟩
            · exact .inl ⟨o, k _ _ e, f, g⟩
            · exact .inr ⟨o, v, g, k _ _ e, f, r⟩
  | raw => obtain ⟨o, e, f⟩ := x; exact ⟨o, k _ _ e, f⟩
noncomputable def Own.ads (a : Addr) : Own → List Addr
  | .tup _ => []
  | .acc d _ _ => [a, d]
  | _ => [a]
theorem Own.At.mut {h h' : Heap} {a b} {w : Own} (x : w.At h a) (hab : b ∉ w.ads a) (k : Mut b h h') : w.At h' a := by
  cases w with
  | list => obtain ⟨vs, n, e, f⟩ := x; exact ⟨vs, n, k.2 _ _ (fun q => hab (by simp [Own.ads, q])) e, f⟩
  | tup => exact TupIs.mut x k
  | acc => obtain ⟨⟨vs, n, e, f⟩, g⟩ := x; exact ⟨⟨vs, n, k.2 _ _ (fun q => hab (by simp [Own.ads, q])) e, f.mut k⟩, g.mut (fun q => hab (by simp [Own.ads, q])) k⟩
  | ns => exact NsB.mut x (fun q => hab (by simp [Own.ads, q])) k
  | cell => rcases x with ⟨o, e, f, g⟩ | ⟨o, v, g, e, f, r⟩
            · exact .inl ⟨o, k.2 _ _ (fun q => hab (by simp [Own.ads, q])) e, f, g⟩
            · exact .inr ⟨o, v, g, k.2 _ _ (fun q => hab (by simp [Own.ads, q])) e, f, r⟩
  | raw => obtain ⟨o, e, f⟩ := x; exact ⟨o, k.2 _ _ (fun q => hab (by simp [Own.ads, q])) e, f⟩
theorem NsB.alive {h : Heap} {a bs} (x : NsB h a bs) : ∃ o, h.get? a = some o ∧ ¬ IsTupO o := by
  obtain ⟨m, ⟨o, es, ep, e, d, _⟩, _⟩ := x
  exact ⟨o, e, fun q => by obtain ⟨_, vs, n, q⟩ := q; rw [d] at q; cases q⟩
theorem Own.At.alive {h : Heap} {a} {w : Own} (x : w.At h a) : ∃ o, h.get? a = some o := by
  cases w with
  | list => obtain ⟨vs, n, e, f⟩ := x; exact ⟨_, e⟩
  | tup => obtain ⟨vs, e, f⟩ := x; exact ⟨_, e⟩
  | acc => obtain ⟨⟨vs, n, e, f⟩, g⟩ := x; exact ⟨_, e⟩
  | ns => obtain ⟨o, e, _⟩ := NsB.alive x; exact ⟨o, e⟩
  | cell => rcases x with ⟨o, e, f, g⟩ | ⟨o, v, g, e, f, r⟩ <;> exact ⟨o, e⟩
  | raw => obtain ⟨o, e, f⟩ := x; exact ⟨o, e⟩
noncomputable abbrev Kn := OsState
theorem Own.At.alives {h : Heap} {a} {w : Own} (x : w.At h a) : ∀ b ∈ w.ads a, ∃ o, h.get? b = some o := fun b hb => by
  have ha := x.alive
  cases w with
  | tup => cases hb
  | acc d z ps =>
    rcases List.mem_cons.mp hb with rfl | hb
    · exact ha
    · obtain rfl := List.mem_singleton.mp hb
      obtain ⟨_, _, ⟨o, _, _, e, _⟩⟩ := x
      exact ⟨o, e⟩
  | _ => obtain rfl := List.mem_singleton.mp hb; exact ha
theorem Own.At.lt {h : Heap} {a} {w : Own} (x : w.At h a) : ∀ b ∈ w.ads a, b < h.objs.size := fun b hb => let ⟨_, e⟩ := x.alives b hb; Heap.lt_size e
noncomputable def ads (own : List (Addr × Own)) : List Addr := own.flatMap fun p => p.2.ads p.1
theorem ads_mem {own : List (Addr × Own)} {p b} (h : p ∈ own) (n : b ∈ p.2.ads p.1) : b ∈ ads own := List.mem_flatMap.mpr ⟨p, h, n⟩
theorem ads_app (a b : List (Addr × Own)) : ads (a ++ b) = ads a ++ ads b := List.flatMap_append ..
theorem ads_cons (p) (b : List (Addr × Own)) : ads (p :: b) = p.2.ads p.1 ++ ads b := List.flatMap_cons ..
theorem ads_sub {a b : List (Addr × Own)} (h : a.Sublist b) : (ads a).Sublist (ads b) := by
  induction h with
  | slnil => exact .slnil
  | cons x _ ih => rw [ads_cons]; exact ih.trans (List.sublist_append_right ..)
  | cons_cons x _ ih => rw [ads_cons, ads_cons]; exact (List.Sublist.refl _).append ih
structure St (H : Heap) (K : Kn) (L : Addr) (bs : List (Str × Fv)) (own : List (Addr × Own)) (s : Shared) : Prop where
  rest : AllBare s.gens ∧ s.os = K
  keep : Ext H s.heap
  loc : NsB s.heap L bs
  has : ∀ p ∈ own, p.2.At s.heap p.1
  nd : (L :: ads own).Nodup
  fresh : ∀ a ∈ L :: ads own, H.get? a = Option.none
section
variable {H : Heap} {K : Kn} {L : Addr} {bs : List (Str × Fv)} {own : List (Addr × Own)} {s : Shared}
theorem St.toks (S : St H K L bs own s) (t : Nat) : St H K L bs own { s with toks := t } := ⟨S.rest, S.keep, S.loc, S.has, S.nd, S.fresh⟩
theorem St.weak (S : St H K L bs own s) {own' : List (Addr × Own)} (h : own'.Sublist own) : St H K L bs own' s :=
  ⟨S.rest, S.keep, S.loc, fun p hp => S.has p (h.subset hp), List.Nodup.sublist ((ads_sub h).cons_cons _) S.nd, fun a ha => S.fresh a (((ads_sub h).cons_cons L).subset ha)⟩
theorem St.names (S : St H K L bs own s) {bs' : List (Str × Fv)} (h : ∀ x f, bs'.lookup x = some f → bs.lookup x = some f) : St H K L bs' own s :=
  ⟨S.rest, S.keep, let ⟨m, n, y⟩ := S.loc; ⟨m, n, fun x f e => y x f (h x f e)⟩, S.has, S.nd, S.fresh⟩
/-- the heap grows: nothing of it changes -/
theorem St.ext (S : St H K L bs own s) {s' : Shared} (hg : AllBare s'.gens) (ho : s'.os = s.os) (k : Ext s.heap s'.heap) : St H K L bs own s' :=
  ⟨⟨hg, ho.trans S.rest.2⟩, S.keep.trans k, S.loc.ext k, fun p hp => (S.has p hp).ext k, S.nd, S.fresh⟩
theorem fresh_size {H h : Heap} (k : Ext H h) : H.get? h.objs.size = Option.none := by
  cases e : H.get? h.objs.size with
  | none => rfl
  | some o => exact absurd (Heap.lt_size (k _ _ e)) (Nat.lt_irrefl _)
theorem St.lt (S : St H K L bs own s) : ∀ a ∈ L :: ads own, a < s.heap.objs.size := fun a ha => by
  rcases List.mem_cons.mp ha with rfl | ha
  · obtain ⟨o, e, _⟩ := S.loc.alive; exact Heap.lt_size e
  · obtain ⟨p, hp, hb⟩ := List.mem_flatMap.mp ha
    exact (S.has p hp).lt _ hb
/-- a tuple that is seen -/
theorem St.tup (S : St H K L bs own s) {a : Addr} {fs : List Fv} (h : TupIs s.heap a fs) : St H K L bs ((a, .tup fs) :: own) s :=
  ⟨S.rest, S.keep, S.loc, fun p hp => by
    rcases List.mem_cons.mp hp with rfl | hp
    · exact h
    · exact S.has p hp, S.nd, S.fresh⟩
/-- a new object, at addresses that nobody has -/
theorem St.new (S : St H K L bs own s) {s' : Shared} {a : Addr} {w : Own} (hg : AllBare s'.gens) (ho : s'.os = s.os) (k : Ext s.heap s'.heap) (ha : ∀ b ∈ w.ads a, s.heap.objs.size ≤ b) (hn : (w.ads a).Nodup) (hw : w.At s'.heap a) :
    St H K L bs ((a, w) :: own) s' := by
  have S' := S.ext hg ho k
  refine ⟨S'.rest, S'.keep, S'.loc, fun p hp => ?_, ?_, ?_⟩
  · rcases List.mem_cons.mp hp with rfl | hp
    · exact hw
    · exact S'.has p hp
  · have nd := S.nd
    rw [List.nodup_cons] at nd
    rw [ads_cons, List.nodup_cons, List.mem_append, List.nodup_append]
    have hL := S.lt L (.head _)
    exact ⟨fun q => q.elim (fun q => absurd (ha _ q) (Nat.not_le_of_lt hL)) nd.1, hn, nd.2, fun x hx y hy => Ne.symm (Nat.ne_of_lt (Nat.lt_of_lt_of_le (S.lt y (.tail _ hy)) (ha x hx)))⟩
  · rw [ads_cons]
    intro b hb
    rcases List.mem_cons.mp hb with rfl | hb
    · exact S.fresh _ (.head _)
    · rcases List.mem_append.mp hb with hb | hb
      · cases e : H.get? b with
        | none => rfl
        | some o => exact absurd (Heap.lt_size (S.keep _ _ e)) (Nat.not_lt_of_le (ha b hb))
      · exact S.fresh _ (.tail _ hb)
theorem St.push (S : St H K L bs own s) {o : Obj} {w : Own} {t : Nat} (hw : w.At (s.heap.push o) s.heap.objs.size) (h1 : w.ads s.heap.objs.size = [s.heap.objs.size] ∨ w.ads s.heap.objs.size = [] := by first | exact .inl rfl | exact .inr rfl) :
    St H K L bs ((s.heap.objs.size, w) :: own) { s with heap := s.heap.push o, toks := t } := S.new S.rest.1 rfl (Ext.push s.heap o) (by rcases h1 with h1 | h1 <;> simp [h1]) (by rcases h1 with h1 | h1 <;> simp [h1]) hw
/-- one owned object changes -/
theorem St.mut {i : Nat} {a b : Addr} {w w' : Own} (S : St H K L bs own s) (e : own[i]? = some (a, w)) {h' : Heap} {t : Nat} (k : Mut b s.heap h') (hw : w'.At h' a)
    (n1 : b ∈ w.ads a := by exact .head _) (n2 : w'.ads a = w.ads a := by rfl) : St H K L bs (own.set i (a, w')) { s with heap := h', toks := t } := by
  obtain ⟨hi, e⟩ := List.getElem?_eq_some_iff.mp e
  have e1 : own = own.take i ++ (a, w) :: own.drop (i + 1) := by rw [← e, List.getElem_cons_drop, List.take_append_drop]
  have e2 : own.set i (a, w') = own.take i ++ (a, w') :: own.drop (i + 1) := List.set_eq_take_append_cons_drop .. ▸ by simp [hi]
  generalize own.take i = l₁ at e1 e2
  generalize own.drop (i + 1) = l₂ at e1 e2
  rw [e2]
  clear e2 e hi
  subst e1
  have nd := S.nd
  have e : ads (l₁ ++ (a, w') :: l₂) = ads (l₁ ++ (a, w) :: l₂) := by rw [ads_app, ads_app, ads_cons, ads_cons, n2]
  have nd' := nd
  rw [ads_app, ads_cons] at nd
  rw [List.nodup_cons] at nd
  have hLa : L ≠ b := by
    rintro rfl
    exact nd.1 (by simp [n1])
  refine ⟨S.rest, fun c o hb => k.2 c o ?_ (S.keep c o hb), S.loc.mut hLa k, fun p hp => ?_, e ▸ nd', e ▸ S.fresh⟩
  · rintro rfl
    rw [S.fresh _ (List.mem_cons_of_mem _ (ads_mem (p := (a, w)) (by simp) n1))] at hb
    cases hb
  · have nd2 := nd.2
    rw [List.nodup_append] at nd2
    rcases List.mem_append.mp hp with hp | hp
    · exact (S.has p (List.mem_append_left _ hp)).mut (fun nt => nd2.2.2 b (ads_mem hp nt) b (List.mem_append_left _ n1) rfl) k
    · rcases List.mem_cons.mp hp with rfl | hp
      · exact hw
      · refine (S.has p (List.mem_append_right _ (List.mem_cons_of_mem _ hp))).mut (fun nt => ?_) k
        exact (List.nodup_append.mp nd2.2.1).2.2 b n1 b (ads_mem hp nt) rfl
/-- the frame's own names change -/
theorem St.local' (S : St H K L bs own s) {h' : Heap} {t : Nat} {bs' : List (Str × Fv)} (k : Heap.ExtBut L s.heap h') (hb : NsB h' L bs') : St H K L bs' own { s with heap := h', toks := t } := by
  have nd := S.nd
  rw [List.nodup_cons] at nd
  have m : Mut L s.heap h' := ⟨fun o e => by obtain ⟨o', e', q⟩ := S.loc.alive; rw [e] at e'; cases e'; exact q, k⟩
  refine ⟨S.rest, fun b o hx => k b o ?_ (S.keep b o hx), hb, fun p hp => (S.has p hp).mut (fun nt => nd.1 (ads_mem hp nt)) m, S.nd, S.fresh⟩
  rintro rfl
  rw [S.fresh _ (.head _)] at hx
  cases hx
end
noncomputable def setB (x : Str) (f : Fv) : List (Str × Fv) → List (Str × Fv)
  | [] => [(x, f)]
  | (y, g) :: r => match x == y with
    | true => (y, f) :: r
    | false => (y, g) :: setB x f r
theorem lookup_setB (x : Str) (f : Fv) (y : Str) : ∀ bs : List (Str × Fv), (setB x f bs).lookup y = if y = x then some f else bs.lookup y
  | [] => by
    by_cases h : y = x
    · subst h; simp [setB]
    · have : (y == x) = false := beq_eq_false_iff_ne.mpr h
      simp [setB, h, this, List.lookup]
  | (z, g) :: r => by
    unfold setB
    cases hz : x == z with
    | true =>
      have hz := eq_of_beq hz
      subst hz
      by_cases h : y = x
      · subst h; simp
      · have : (y == x) = false := beq_eq_false_iff_ne.mpr h
        simp [h, this, List.lookup]
    | false =>
      have hz := beq_eq_false_iff_ne.mp hz
      by_cases h : y = z
      · subst h
        have : y ≠ x := Ne.symm hz
        simp [this, List.lookup]
      · have e : (y == z) = false := beq_eq_false_iff_ne.mpr h
        simp only [List.lookup, e]
        exact lookup_setB x f y r
end Mine
end
section
namespace Mine
/-- room for n more levels of calls -/
structure Room (n : Nat) (A : Around) : Prop where
  hd : A.handled = none
  dp : A.depth + n ≤ 900
  un : A.units + 20 * n ≤ 9000
theorem Room.le {n m : Nat} {A : Around} (r : Room n A) (h : m ≤ n) : Room m A := ⟨r.hd, by have := r.dp; omega, by have := r.un; omega⟩
theorem Room.in1 {n : Nat} {A : Around} (r : Room (n + 1) A) : Room n A.in1 := ⟨r.hd, by have := r.dp; show A.depth + n ≤ 900; omega, by have := r.un; show A.units + 1 + 20 * n ≤ 9000; omega⟩
theorem Room.deeper {n : Nat} {A : Around} {env : Env} (r : Room (n + 1) A) : Room n (A.deeper env) :=
  ⟨r.hd, by have := r.dp; show A.depth + 1 + n ≤ 900; omega, by have := r.un; show A.units + 3 + 20 * n ≤ 9000; omega⟩
theorem Room.mark {n : Nat} {A : Around} (r : Room n A) : Room n (A.mark none) := by
  have : A.mark none = A := by obtain ⟨⟩ := A; rfl
  rw [this]; exact r
theorem Room.limit {n : Nat} {A : Around} (r : Room n A) : A.depth < recursionLimit := by have := r.dp; show A.depth < 1000; omega
theorem Room.cline {n : Nat} {A : Around} (r : Room n A) : A.units < cLine := by have := r.un; show A.units < 9900; omega
noncomputable abbrev noE : Value → Shared → Prop := fun _ _ => False
noncomputable abbrev Owns := List (Addr × Own)
noncomputable abbrev Bs := List (Str × Fv)
section
variable (w : World) (H : Heap) (K : Kn) (n : Nat) (L : Addr) (bs : Bs) (own : Owns)
/-- a tree that ends in a value -/
noncomputable def Tv (t : Sem Value) (R : Fv → Owns → Prop) : Prop := ∀ A s Q, Room n A → St H K L bs own s →
  (∀ v s' f own', R f own' → FIs v f → St H K L bs own' s' → Q v s') → wpAny (model pw w) A t Q noE s
/-- .. in a bool -/
noncomputable def Tb (t : Sem Bool) (R : Bool → Owns → Prop) : Prop := ∀ A s Q, Room n A → St H K L bs own s →
  (∀ b s' own', R b own' → St H K L bs own' s' → Q b s') → wpAny (model pw w) A t Q noE s
/-- .. in values -/
noncomputable def Ts (t : Sem (List Value)) (R : List Fv → Owns → Prop) : Prop := ∀ A s Q, Room n A → St H K L bs own s →
  (∀ vs s' fs own', R fs own' → FL vs fs → St H K L bs own' s' → Q vs s') → wpAny (model pw w) A t Q noE s
/-- .. in nothing; the names may turn -/
noncomputable def Tu (t : Sem Unit) (R : Bs → Owns → Prop) : Prop := ∀ A s Q, Room n A → St H K L bs own s →
  (∀ s' bs' own', R bs' own' → St H K L bs' own' s' → Q () s') → wpAny (model pw w) A t Q noE s
inductive Fl where
  | next | brk | cont | ret (f : Fv)
noncomputable def FlIs : Flow → Fl → Prop
  | .next, .next => True
  | .brk, .brk => True
  | .cont, .cont => True
  | .ret v, .ret f => FIs v f
  | _, _ => False
/-- .. in a flow -/
noncomputable def Tf (t : Sem Flow) (R : Fl → Bs → Owns → Prop) : Prop := ∀ A s Q, Room n A → St H K L bs own s →
  (∀ v s' f bs' own', R f bs' own' → FlIs v f → St H K L bs' own' s' → Q v s') → wpAny (model pw w) A t Q noE s
end
section
variable {w : World} {H : Heap} {K : Kn} {n : Nat} {L : Addr} {bs : Bs} {own : Owns} {env : Env}
theorem Tv.mono {t : Sem Value} {R R' : Fv → Owns → Prop} (h : Tv w H K n L bs own t R) (k : ∀ f o, R f o → R' f o) : Tv w H K n L bs own t R' :=
  fun A s Q r S q => h A s Q r S fun v s' f o x => q v s' f o (k f o x)
theorem Tb.mono {t : Sem Bool} {R R' : Bool → Owns → Prop} (h : Tb w H K n L bs own t R) (k : ∀ f o, R f o → R' f o) : Tb w H K n L bs own t R' :=
  fun A s Q r S q => h A s Q r S fun v s' o x => q v s' o (k v o x)
theorem Tf.mono {t : Sem Flow} {R R' : Fl → Bs → Owns → Prop} (h : Tf w H K n L bs own t R) (k : ∀ f b o, R f b o → R' f b o) : Tf w H K n L bs own t R' :=
  fun A s Q r S q => h A s Q r S fun v s' f b o x => q v s' f b o (k f b o x)
/- the constants -/
theorem Tv.int {i k pos} {R : Fv → Owns → Prop} (h : R (.int i) own) : Tv w H K n L bs own (eval (.Constant (.int i) k pos) env) R :=
  fun A s Q r S q => wpAny_Constant_int (q _ _ _ _ h ⟨_, rfl⟩ (S.toks _))
theorem Tv.bool {b k pos} {R : Fv → Owns → Prop} (h : R (.bool b) own) : Tv w H K n L bs own (eval (.Constant (.bool b) k pos) env) R :=
  fun A s Q r S q => wpAny_pure (q _ _ _ _ h rfl S)
theorem Tv.none {k pos} {R : Fv → Owns → Prop} (h : R .none own) : Tv w H K n L bs own (eval (.Constant .none k pos) env) R :=
  fun A s Q r S q => wpAny_pure (q _ _ _ _ h rfl S)
/- names -/
theorem Tv.name {x pos} {f : Fv} {R : Fv → Owns → Prop} (hl : env.kindOf x = some .local) (e : bs.lookup x = some f) (h : R f own)
    (hk : env.scope.kind = .function := by rfl) (hd : (x == ("__debug__" : Str)) = false := by decide) : Tv w H K n env.locals bs own (eval (.Name x pos) env) R :=
  fun A s Q r S q => by
    obtain ⟨m, hn, hm⟩ := S.loc
    obtain ⟨v, hv, hf⟩ := hm x f e
    exact wpAny_Name (wpAny_loadName_local hk hl hn hv (q _ _ _ _ h hf S)) hd
/- operations -/
theorem Tv.binop {l op e pos} {R : Fv → Owns → Prop}
    (h : Tv w H K n L bs own (eval l env) fun f o₁ => Tv w H K n L bs o₁ (eval e env) fun g o₂ => ∀ v u, FIs v f → FIs u g → Tv w H K n L bs o₂ (binaryOp op v u) R) :
    Tv w H K n L bs own (eval (.BinOp l op e pos) env) R := fun A s Q r S q =>
  wpAny_BinOp (h A s _ r S fun v s₁ f o₁ x hv S₁ => x A s₁ _ r S₁ fun u s₂ g o₂ y hu S₂ => y v u hv hu A s₂ _ r S₂ q)
theorem Tv.compare1 {l op e pos} {R : Fv → Owns → Prop}
    (h : Tv w H K n L bs own (eval l env) fun f o₁ => Tv w H K n L bs o₁ (eval e env) fun g o₂ => ∀ v u, FIs v f → FIs u g → Tv w H K n L bs o₂ (compareOp op v u) R)
    (hm : behindInMarks op e = false := by with_unfolding_all rfl) :
    Tv w H K n L bs own (eval (.Compare l [op] [e] pos) env) R := fun A s Q r S q =>
  wpAny_Compare1 (h A s _ r S fun v s₁ f o₁ x hv S₁ => x A s₁ _ r S₁ fun u s₂ g o₂ y hu S₂ => y v u hv hu A s₂ _ r S₂ q) hm
theorem Tb.compare1 {l op e pos whole} {R : Bool → Owns → Prop}
    (h : Tv w H K n L bs own (eval l env) fun f o₁ => Tv w H K n L bs o₁ (eval e env) fun g o₂ => ∀ v u, FIs v f → FIs u g → Tv w H K n L bs o₂ (compareOp op v u) fun c o₃ => ∃ b, c = .bool b ∧ R b o₃)
    (hm : behindInMarks op e = false := by with_unfolding_all rfl) :
    Tb w H K n L bs own (isTrue (.Compare l [op] [e] pos) env whole) R := fun A s Q r S q =>
  wpAny_isTrue_Compare1 (h A s _ r S fun v s₁ f o₁ x hv S₁ => x A s₁ _ r S₁ fun u s₂ g o₂ y hu S₂ => y v u hv hu A s₂ _ r S₂ fun c s₃ f' o₃ z hc S₃ => by
    obtain ⟨b, rfl, z⟩ := z
    cases hc
    exact wpAny_truthy_bool (q _ _ _ z S₃)) hm
theorem add_i {v u i j} {R : Fv → Owns → Prop} (hv : FIs v (.int i)) (hu : FIs u (.int j)) (h : R (.int (i + j)) own) : Tv w H K n L bs own (binaryOp .Add v u) R := fun A s Q r S q => by
  obtain ⟨t, rfl⟩ := hv; obtain ⟨t', rfl⟩ := hu
  exact wpAny_add_int (q _ _ _ _ h ⟨_, rfl⟩ (S.toks _))
theorem add_s {v u x y} {R : Fv → Owns → Prop} (hv : FIs v (.str x)) (hu : FIs u (.str y)) (hz : x.length + y.length ≤ sizeLine) (h : R (.str (x ++ y)) own) : Tv w H K n L bs own (binaryOp .Add v u) R := fun A s Q r S q => by
  obtain ⟨t, rfl⟩ := hv; obtain ⟨t', rfl⟩ := hu
  exact SBL.add (fun t' k _ => q _ _ _ _ h ⟨_, rfl⟩ (S.toks _)) hz
theorem mod_i {v u i j} {R : Fv → Owns → Prop} (hv : FIs v (.int i)) (hu : FIs u (.int j)) (hj : j ≠ 0) (h : R (.int (i.fmod j)) own) : Tv w H K n L bs own (binaryOp .Mod v u) R := fun A s Q r S q => by
  obtain ⟨t, rfl⟩ := hv; obtain ⟨t', rfl⟩ := hu
  exact mod_int' hj (q _ _ _ _ h ⟨_, rfl⟩ (S.toks _))
theorem eq_i {v u i j} {R : Fv → Owns → Prop} (hv : FIs v (.int i)) (hu : FIs u (.int j)) (h : R (.bool (i == j)) own) : Tv w H K n L bs own (compareOp .Eq v u) R := fun A s Q r S q => by
  obtain ⟨t, rfl⟩ := hv; obtain ⟨t', rfl⟩ := hu
  exact wpAny_eq_int (q _ _ _ _ h rfl S)
theorem eq_s {v u x y} {R : Fv → Owns → Prop} (hv : FIs v (.str x)) (hu : FIs u (.str y)) (h : R (.bool (x == y)) own) : Tv w H K n L bs own (compareOp .Eq v u) R := fun A s Q r S q => by
  obtain ⟨t, rfl⟩ := hv; obtain ⟨t', rfl⟩ := hu
  exact eq_str (q _ _ _ _ h rfl S)
theorem ne_s {v u x y} {R : Fv → Owns → Prop} (hv : FIs v (.str x)) (hu : FIs u (.str y)) (h : R (.bool (x != y)) own) : Tv w H K n L bs own (compareOp .NotEq v u) R := fun A s Q r S q => by
  obtain ⟨t, rfl⟩ := hv; obtain ⟨t', rfl⟩ := hu
  exact ne_str (q _ _ _ _ h rfl S)
/- statements -/
theorem Tf.nil {R : Fl → Bs → Owns → Prop} (h : R .next bs own) : Tf w H K n L bs own (execs [] env) R := fun A s Q r S q => wpAny_execs_nil (q _ _ _ _ _ h trivial S)
theorem Tf.cons {st rest} {R : Fl → Bs → Owns → Prop}
    (h : Tf w H K n L bs own (exec st env) fun f bs₁ o₁ => match f with | .next => Tf w H K n L bs₁ o₁ (execs rest env) R | f => R f bs₁ o₁) :
    Tf w H K n L bs own (execs (st :: rest) env) R := fun A s Q r S q =>
  wpAny_execs_cons (h A s _ r S fun v s₁ f bs₁ o₁ x hv S₁ => by
    cases v <;> cases f <;> first | exact hv.elim | exact x A s₁ Q r S₁ q | exact q _ _ _ _ _ x hv S₁)
theorem Tf.ret {e pos} {R : Fl → Bs → Owns → Prop} (h : Tv w H K n L bs own (eval e env) fun f o => R (.ret f) bs o) : Tf w H K n L bs own (exec (.Return (some e) pos) env) R := fun A s Q r S q =>
  wpAny_Return_some (h A s _ r S fun v s₁ f o x hv S₁ => q _ _ _ _ _ x hv S₁)
theorem Tf.if_ {test body orelse pos} {R : Fl → Bs → Owns → Prop}
    (h : Tb w H K n L bs own (isTrue test env (eval test env)) fun b o => match b with | true => Tf w H K n L bs o (execs body env) R | false => Tf w H K n L bs o (execs orelse env) R) :
    Tf w H K n L bs own (exec (.If test body orelse pos) env) R := fun A s Q r S q =>
  wpAny_If (h A s _ r S fun b s₁ o x S₁ => by cases b <;> exact x A s₁ Q r S₁ q)
theorem store_local {x : Str} {v : Value} {f : Fv} {A : Around} {s : Shared} {Q : Unit → Shared → Prop} (hl : env.kindOf x = some .local) (S : St H K env.locals bs own s) (hv : FIs v f)
    (h : ∀ s', St H K env.locals (setB x f bs) own s' → Q () s')
    (hp : (env.scope.kind == .class || (env.scope.kind == .module && env.locals != env.globals)) = false := by rfl) : wpAny (model pw w) A (storeName env x v) Q noE s := by
  obtain ⟨m, hn, hm⟩ := S.loc
  refine wpAny_storeName_local hl hn (fun h' hn' hs => h _ (S.local' hs.extBut ⟨_, hn', fun y g e => ?_⟩)) hp
  rw [lookup_setB] at e
  by_cases hy : y = x
  · rw [if_pos hy] at e ⊢; cases e; exact ⟨v, rfl, hv⟩
  · rw [if_neg hy] at e ⊢; exact hm y g e
theorem Tf.assign {x pos' value pos} {R : Fl → Bs → Owns → Prop} (hl : env.kindOf x = some .local)
    (h : Tv w H K n env.locals bs own (eval value env) fun f o => R .next (setB x f bs) o)
    (hs : swapsWith value (some (.Name x pos')) pos.line env = Pure.pure false := by rfl)
    (hp : (env.scope.kind == .class || (env.scope.kind == .module && env.locals != env.globals)) = false := by rfl) :
    Tf w H K n env.locals bs own (exec (.Assign [.Name x pos'] value pos) env) R := fun A s Q r S q =>
  wpAny_Assign_Name (h A s _ r S fun v s₁ f o x' hv S₁ => store_local hl S₁ hv (fun s' S' => q _ _ _ _ _ x' trivial S') hp) hs
end
end Mine
end
section
namespace Mine
/-- what the heap behind the top bears, but for two code tables -/
structure Base (w : World) (mg mb : Str → Option Value) (h : Heap) : Prop where
  k : ∀ a o, (KF w.params).lookup a = some o → a ≠ 63 → a ≠ 70 → h.get? a = some o
  g : h.Ns mainGlobals mg
  b : h.Ns builtinsNs mb
  nl : h.NoLimit
  mgs : ∀ x v, nsIn (KF w.params) mainGlobals x = some v → mg x = v
  mbs : ∀ x : Str, x ≠ "__name__" → mb x = bootBuiltins x
theorem Base.ext {w mg mb h h'} (B : Base w mg mb h) (k : Ext h h') : Base w mg mb h' :=
  ⟨fun a o e n1 n2 => k _ _ (B.k a o e n1 n2), B.g.keeps k, B.b.keeps k, B.nl.keeps k, B.mgs, B.mbs⟩
/-- what a call hands back: the heap has grown, and new objects are said -/
structure Ret (s s' : Shared) (new : Owns) : Prop where
  gens : AllBare s.gens → AllBare s'.gens
  os : s'.os = s.os
  ext : Ext s.heap s'.heap
  has : ∀ p ∈ new, p.2.At s'.heap p.1
  nd : (ads new).Nodup
  fresh : ∀ a ∈ ads new, s.heap.get? a = Option.none
theorem St.ret {H K L bs own s s' new} (S : St H K L bs own s) (R : Ret s s' new) : St H K L bs (new ++ own) s' := by
  have S' : St H K L bs own s' := S.ext (R.gens S.rest.1) R.os R.ext
  have off : ∀ a ∈ ads new, ∀ b ∈ L :: ads own, a ≠ b := by
    rintro a ha b hb rfl
    have h1 := R.fresh a ha
    rcases List.mem_cons.mp hb with rfl | hb
    · obtain ⟨o, e, _⟩ := S.loc.alive; rw [e] at h1; cases h1
    · have := S.lt a (.tail _ hb)
      obtain ⟨p, hp, hb⟩ := List.mem_flatMap.mp hb
      obtain ⟨o, e⟩ := (S.has p hp).alives a hb; rw [e] at h1; cases h1
  have nd := S.nd
  rw [List.nodup_cons] at nd
  refine ⟨S'.rest, S'.keep, S'.loc, fun p hp => (List.mem_append.mp hp).elim (R.has p) (S'.has p), ?_, fun a ha => ?_⟩
  · rw [ads_app, List.nodup_cons, List.mem_append, List.nodup_append]
    refine ⟨fun q => q.elim (fun q => off _ q _ (.head _) rfl) nd.1, R.nd, nd.2, fun a ha b hb => off a ha b (List.mem_cons_of_mem _ hb)⟩
  · rw [ads_app] at ha
    rcases List.mem_cons.mp ha with rfl | ha
    · exact S.fresh _ (.head _)
    · rcases List.mem_append.mp ha with ha | ha
      · cases e : H.get? a with
        | none => rfl
        | some o => exact absurd (S.keep _ _ e) (by rw [R.fresh a ha]; exact fun q => nomatch q)
      · exact S.fresh _ (List.mem_cons_of_mem _ ha)
/-- a contract: the def at fa, called with values that are fs, over a heap where G holds -/
noncomputable def Fn (w : World) (mg mb : Str → Option Value) (n : Nat) (f : Value) (fs : List Fv) (G : Heap → Prop) (R : Fv → Owns → Prop) : Prop :=
  ∀ A s vals Q, Room n A → Base w mg mb s.heap → AllBare s.gens → G s.heap → FL vals fs →
    (∀ v s' g new, R g new → FIs v g → Ret s s' new → Q v s') → wpAny (model pw w) A (call f vals) Q noE s
section
variable {w : World} {mg mb : Str → Option Value} {H : Heap} {K : Kn} {n : Nat} {L : Addr} {bs : Bs} {own : Owns} {env : Env}
theorem Ts.nil {pos} {R : List Fv → Owns → Prop} (h : R [] own) : Ts w H K n L bs own (spliced (backTo pos (starEach [] env))) R :=
  fun A s Q r S q => Calls.spliced_nil (q _ _ _ _ h .nil S)
theorem Ts.cons {pos e rest} {R : List Fv → Owns → Prop}
    (h : Tv w H K n L bs own (eval e env) fun f o => Ts w H K n L bs o (spliced (backTo pos (starEach rest env))) fun fs o' => R (f :: fs) o')
    (he : starEach (e :: rest) env = (false, eval e env) :: starEach rest env := by rfl) :
    Ts w H K n L bs own (spliced (backTo pos (starEach (e :: rest) env))) R := fun A s Q r S q => by
  rw [he]
  exact Calls.spliced_cons (h A s _ r S fun v s₁ f o x hv S₁ => wpAny_mono (x A s₁ (fun vs s₂ => Q (v :: vs) s₂) r S₁ fun vs s₂ fs o' y hvs S₂ => q _ _ _ _ y (.cons hv hvs) S₂) (fun _ _ y => y) fun _ _ y => y)
theorem evalArgs_nilT {M : Model} {A : Around} {E : Value → Shared → Prop} {s : Shared} {f : Value} {Q : Args → Shared → Prop}
    (h : wpAny M A (spliced []) (fun vs s' => Q ⟨vs, []⟩ s') E s) : wpAny M A (evalArgs f true [] []) Q E s := by
  unfold evalArgs
  show wpAny M A (spliced [] >>= _) Q E s
  refine wpAny_bind (wpAny_mono h (fun vs s' h' => ?_) fun _ _ x => x)
  refine wpAny_bind (wpAny_pure ?_)
  refine wpAny_holding ?_
  exact wpAny_bind (wpAny_pure (wpAny_bind (wpAny_pure (wpAny_pure h'))))
/-- a call of a top def by its name -/
theorem Tv.callFn {x : Str} {fa : Addr} {o : Obj} {fd : FuncData} {args pos pos'} {G : Heap → Prop} {R : Fv → Owns → Prop} (BH : Base w mg mb H)
    (hx : nsIn (KF w.params) mainGlobals x = some (some (.ref fa))) (hl : env.kindOf x = some .globalImplicit)
    (hK : (KF w.params).lookup fa = some o) (hd : o.data = .func fd) (n1 : fa ≠ 63) (n2 : fa ≠ 70)
    (h : Ts w H K n L bs own (spliced (backTo pos (starEach args env))) fun fs o₁ => (∀ s, St H K L bs o₁ s → G s.heap) ∧ Fn w mg mb n (.ref fa) fs G fun g new => R g (new ++ o₁))
    (hs : args = [] ∨ ∃ e rest, args = e :: rest ∧ starEach (e :: rest) env = (false, eval e env) :: starEach rest env)
    (hg : env.globals = mainGlobals := by rfl) (hk : env.scope.kind = .function := by rfl) (hdb : (x == ("__debug__" : Str)) = false := by decide) :
    Tv w H K n L bs own (eval (.Call (.Name x pos') args [] pos) env) R := fun A s Q r S q => by
  have hn : H.get? fa = some o := BH.k _ _ hK n1 n2
  show wpAny (model pw w) A (do callWith pos (← eval (.Name x pos') env) [] (backTo pos (starEach args env)) (backToKw pos (keywordEach [] env))) Q noE s
  refine wpAny_bind (Calls.Name_function_global hk hl (Calls.loadGlobal_global (by rw [hg]; exact BH.g.keeps S.keep) (BH.mgs _ _ hx) ?_) hdb)
  show wpAny (model pw w) A (callWith pos (.ref fa) [] (backTo pos (starEach args env)) []) Q noE s
  have fin : ∀ vs s₁ fs o₁, ((∀ s, St H K L bs o₁ s → G s.heap) ∧ Fn w mg mb n (.ref fa) fs G fun g new => R g (new ++ o₁)) → FL vs fs → St H K L bs o₁ s₁ →
      (s₁.heap.get? fa = some o ∧ o.data = .func fd) ∧ wpAny (model pw w) A (call (.ref fa) ([] ++ vs) []) Q noE s₁ := fun vs s₁ fs o₁ x hvs S₁ =>
    ⟨⟨S₁.keep _ _ hn, hd⟩, x.2 A s₁ vs Q r (BH.ext S₁.keep) S₁.rest.1 (x.1 _ S₁) hvs fun v s' g new y hv z => q v s' g _ y hv (S₁.ret z)⟩
  rcases hs with rfl | ⟨e, rest, rfl, he⟩
  · exact Calls.callWith_function (evalArgs_nilT (h A s _ r S fun vs s₁ fs o₁ x hvs S₁ => fin vs s₁ fs o₁ x hvs S₁))
  · rw [he] at h ⊢
    exact Calls.callWith_function (Calls.evalArgs_plain (h A s _ r S fun vs s₁ fs o₁ x hvs S₁ => fin vs s₁ fs o₁ x hvs S₁))
theorem Fn.mono {f : Value} {fs : List Fv} {G : Heap → Prop} {R R' : Fv → Owns → Prop} (x : Fn w mg mb n f fs G R) (k : ∀ g o, R g o → R' g o) : Fn w mg mb n f fs G R' :=
  fun A s vals Q r B hg hG hv q => x A s vals Q r B hg hG hv fun v s' g new y => q v s' g new (k _ _ y)
theorem Fn.le {m : Nat} {f : Value} {fs : List Fv} {G : Heap → Prop} {R : Fv → Owns → Prop} (x : Fn w mg mb n f fs G R) (k : n ≤ m := by decide) : Fn w mg mb m f fs G R :=
  fun A s vals Q r => x A s vals Q (r.le k)
theorem lookup_zip {names : List Str} : ∀ {vals : List Value} {fs : List Fv}, FL vals fs → ∀ x f, (names.zip fs).lookup x = some f → ∃ v, (names.zip vals).lookup x = some v ∧ FIs v f := by
  induction names with
  | nil => intro vals fs h x f e; simp at e
  | cons y r ih =>
    intro vals fs h x f e
    cases h with
    | nil => simp at e
    | cons h1 h2 =>
      simp only [List.zip_cons_cons, List.lookup] at e ⊢
      cases q : x == y with
      | true => rw [q] at e; cases e; exact ⟨_, rfl, h1⟩
      | false => rw [q] at e; exact ih h2 x f e
theorem lookup_rev {names : List Str} (nd : names.Nodup) : ∀ (vals : List Value) (x : Str), (names.zip vals).reverse.lookup x = (names.zip vals).lookup x := by
  induction names with
  | nil => intro vals x; simp
  | cons y r ih =>
    intro vals x
    cases vals with
    | nil => simp
    | cons v vs =>
      rw [List.nodup_cons] at nd
      simp only [List.zip_cons_cons, List.reverse_cons, List.lookup_append, List.lookup]
      rw [ih nd.2]
      cases q : x == y with
      | false => simp
      | true =>
        have q := eq_of_beq q
        subst q
        have : (r.zip vs).lookup x = none := by
          rw [List.lookup_eq_none_iff]
          intro p hp
          have hm : p.1 ∈ r := (List.of_mem_zip (a := p.1) (b := p.2) hp).1
          have ne : x ≠ p.1 := fun e => nd.1 (by rw [e]; exact hm)
          simp [ne]
        simp [this]
noncomputable def envF (fd : FuncData) (fa a : Addr) : Env := newEnv fd.scope a fd.globals fd.closure (fd.qualname ++ ".<locals>.") (some fa) fd.code Option.none fd.builtins
theorem FL.one {vs f} (h : FL vs [f]) : ∃ v, vs = [v] ∧ FIs v f := by
  cases h with | cons h1 h2 => cases h2; exact ⟨_, rfl, h1⟩
theorem FL.two {vs f g} (h : FL vs [f, g]) : ∃ v u, vs = [v, u] ∧ FIs v f ∧ FIs u g := by
  cases h with | cons h1 h2 => obtain ⟨u, rfl, h3⟩ := h2.one; exact ⟨_, _, rfl, h1, h3⟩
theorem FL.three {vs f g k} (h : FL vs [f, g, k]) : ∃ v u x, vs = [v, u, x] ∧ FIs v f ∧ FIs u g ∧ FIs x k := by
  cases h with | cons h1 h2 => obtain ⟨u, x, rfl, h3, h4⟩ := h2.two; exact ⟨_, _, _, rfl, h1, h3, h4⟩
/-- the contract of a def: its body, over its own frame -/
theorem Fn.intro {fa : Addr} {fd : FuncData} {body : List Stmt} {names : List Str} {fs : List Fv} {G : Heap → Prop} {R : Fv → Owns → Prop} {c : Addr} {vs : Array Value} {t : Tok}
    (hK : (KF w.params).lookup fa = some ⟨.type "function", none, .func fd, #[]⟩) (hC : (KF w.params).lookup c = some ⟨.type "code", none, .fields vs, #[]⟩)
    (hlen : fs.length = names.length)
    (h : ∀ (H : Heap) (K : Kn), Base w mg mb H → G H →
      Tf w H K n (envF fd fa H.objs.size).locals (names.zip fs) [] (execs body (envF fd fa H.objs.size)) fun f _ o => match f with | .ret g => R g o | _ => R .none o)
    (hbody : fd.body = .stmts body) (hbind : ∀ vals : List Value, vals.length = names.length → bindArgs fd ⟨vals, []⟩ = Pure.pure (names.zip vals))
    (hcode : fd.code = .ref c := by rfl) (hq : vs[1]? = some (.str fd.qualname t) := by rfl) (nds : names.Nodup := by decide +kernel)
    (hloc : ∀ x ∈ names, fd.scope.names.lookup x = some .local := by decide +kernel) (hcell : ∀ x ∈ fd.scope.names, x.2 ≠ .cell := by decide +kernel)
    (hco : fd.scope.isCoroutine = false := by rfl) (hgen : fd.scope.isGenerator = false := by rfl) (hk : fd.scope.kind = .function := by rfl)
    (n1 : fa ≠ 63 ∧ fa ≠ 70 ∧ c ≠ 63 ∧ c ≠ 70 := by decide) : Fn w mg mb (n + 1) (.ref fa) fs G R := fun A s vals Q r B hg hG hv q => by
  have ho := B.k _ _ hK n1.1 n1.2.1
  have hc := B.k _ _ hC n1.2.2.1 n1.2.2.2
  refine wpAny_call (codeAny_call_function r.limit ho rfl hco hgen hbody ⟨c, _, vs, t, hcode, hc, rfl, hq⟩ ?_)
  rw [hbind vals (by rw [hv.length, hlen])]
  refine wpAny_pure (wpAny_newFunctionEnv hcell (fun x hx => hloc x.1 (List.of_mem_zip (a := x.1) (b := x.2) hx).1) (fun h' hn hs => ?_) hk)
  have k : Ext s.heap h' := fun b o e => hs.extBut b o (Nat.ne_of_lt (Heap.lt_size e)) (Heap.get?_push_of_some _ e)
  refine ⟨B.nl.keeps k, codeAny_func ?_⟩
  have S : St s.heap s.os s.heap.objs.size (names.zip fs) [] { s with heap := h', toks := s.toks + (names.zip vals).length } :=
    ⟨⟨hg, rfl⟩, k, ⟨_, hn, fun x f e => by rw [lookup_rev nds]; exact lookup_zip hv x f e⟩, fun _ hp => (nomatch hp), by simp [ads], fun a ha => by
      rcases List.mem_cons.mp ha with rfl | ha
      · exact fresh_size (Ext.refl _)
      · exact nomatch ha⟩
  refine wpAny_mono (h s.heap s.os B hG _ _ (fun f s' => Q (match f with | .ret v => v | _ => .none) s') r.deeper S (fun v s' f bs' own' x hf S' => ?_)) (fun f s' x => x) (fun _ _ x => x.elim)
  have fin : Ret s s' own' := ⟨fun _ => S'.rest.1, S'.rest.2, S'.keep, S'.has, (List.nodup_cons.mp S'.nd).2, fun a ha => S'.fresh a (List.mem_cons_of_mem _ ha)⟩
  cases v <;> cases f <;> first | exact hf.elim | exact q _ _ _ _ x hf fin | exact q _ _ _ _ x rfl fin
end
end Mine
end
section
namespace Mine
noncomputable def bodyOf (st : Stmt) : List Stmt := match st with
  | .FunctionDef _ _ b _ _ _ _ _ _ _ => b
  | _ => []
noncomputable def noG : Heap → Prop := fun _ => True
section
variable {w : World} {mg mb : Str → Option Value} {H : Heap} {K : Kn} {n : Nat} {L : Addr} {bs : Bs} {own : Owns} {env : Env}
theorem Tv.str {i k pos} {R : Fv → Owns → Prop} (h : R (.str i) own) : Tv w H K n L bs own (eval (.Constant (.str i) k pos) env) R :=
  fun A s Q r S q => Calls.Constant_str (q _ _ _ _ h ⟨_, rfl⟩ (S.toks _))
/-- a global of the module -/
theorem Tv.glob {x : Str} {pos : Pos} {v : Value} {R : Fv → Owns → Prop} (BH : Base w mg mb H) (hx : nsIn (KF w.params) mainGlobals x = some (some v)) (hl : env.kindOf x = some .globalImplicit)
    (h : R (.val v) own) (hg : env.globals = mainGlobals := by rfl) (hk : env.scope.kind = .function := by rfl) (hdb : (x == ("__debug__" : Str)) = false := by decide) :
    Tv w H K n L bs own (eval (.Name x pos) env) R := fun A s Q r S q =>
  Calls.Name_function_global hk hl (Calls.loadGlobal_global (by rw [hg]; exact BH.g.keeps S.keep) (BH.mgs _ _ hx) (q _ _ _ _ h rfl S)) hdb
/-- a call of a builtin by its name -/
theorem Tv.callB {x : Str} {id : String} {e rest pos pos'} {R : Fv → Owns → Prop} (BH : Base w mg mb H)
    (hx : nsIn (KF w.params) mainGlobals x = some Option.none) (hb : bootBuiltins x = some (.builtin id)) (hl : env.kindOf x = some .globalImplicit)
    (h : Ts w H K n L bs own (spliced (backTo pos (starEach (e :: rest) env))) fun fs o₁ => ∀ vals, FL vals fs → Tv w H K n L bs o₁ (call (.builtin id) vals) R)
    (hs : starEach (e :: rest) env = (false, eval e env) :: starEach rest env := by rfl) (hp : (starEach (e :: rest) env).any (·.1) = false := by rfl)
    (hg : env.globals = mainGlobals := by rfl) (hbu : env.builtins = builtinsNs := by rfl) (hk : env.scope.kind = .function := by rfl) (hdb : (x == ("__debug__" : Str)) = false := by decide)
    (hn : x ≠ "__name__" := by decide) :
    Tv w H K n L bs own (eval (.Call (.Name x pos') (e :: rest) [] pos) env) R := fun A s Q r S q => by
  show wpAny (model pw w) A (do callWith pos (← eval (.Name x pos') env) [] (backTo pos (starEach (e :: rest) env)) (backToKw pos (keywordEach [] env))) Q noE s
  refine wpAny_bind (Calls.Name_function_global hk hl (Calls.loadGlobal_builtin (by rw [hg]; exact BH.g.keeps S.keep) (BH.mgs _ _ hx) (by rw [hbu]; exact BH.b.keeps S.keep) ((BH.mbs _ hn).trans hb) ?_) hdb)
  show wpAny (model pw w) A (callWith pos (.builtin id) [] (backTo pos (starEach (e :: rest) env)) []) Q noE s
  rw [hs] at h ⊢
  refine Calls.callWith_builtin ?_ (Calls.evalArgs_plain (h A s _ r S fun vs s₁ fs o₁ x hvs S₁ => x vs hvs A s₁ Q r S₁ q))
  rw [hs] at hp
  rw [← hp]
  simp [backTo]
/- the builtins -/
theorem chr_ {v i} {R : Fv → Owns → Prop} (hv : FIs v (.int i)) (h0 : 0 ≤ i) (h1 : i < 0x110000) (h : R (.str ⟨#[i.toNat]⟩) own) : Tv w H K n L bs own (call (.builtin "chr") [v]) R := fun A s Q r S q => by
  obtain ⟨t, rfl⟩ := hv
  exact P.chr_of_int (by simp only [Bool.or_eq_false_iff, decide_eq_false_iff_not]; omega) (q _ _ _ _ h ⟨_, rfl⟩ (S.toks _))
theorem ord_ {v c} {R : Fv → Owns → Prop} (hv : FIs v (.str ⟨#[c]⟩)) (h : R (.int c) own) : Tv w H K n L bs own (call (.builtin "ord") [v]) R := fun A s Q r S q => by
  obtain ⟨t, rfl⟩ := hv
  exact P.ord_of_char (q _ _ _ _ h ⟨_, rfl⟩ (S.toks _))
theorem len_s {v x} {R : Fv → Owns → Prop} (hv : FIs v (.str x)) (hz : x.length ≤ sizeLine) (h : R (.int x.length) own) : Tv w H K n L bs own (call (.builtin "len") [v]) R := fun A s Q r S q => by
  obtain ⟨t, rfl⟩ := hv
  refine P.len_str ?_ (q _ _ _ _ h ⟨_, rfl⟩ (S.toks _))
  have : sizeLine < 2 ^ 62 := by decide
  omega
/- numbers -/
theorem mul_i {v u i j} {R : Fv → Owns → Prop} (hv : FIs v (.int i)) (hu : FIs u (.int j)) (hm : IntMulOk i j) (h : R (.int (i * j)) own) : Tv w H K n L bs own (binaryOp .Mult v u) R := fun A s Q r S q => by
  obtain ⟨t, rfl⟩ := hv; obtain ⟨t', rfl⟩ := hu
  exact mul_int (q _ _ _ _ h ⟨_, rfl⟩ (S.toks _)) hm
theorem fdiv_i {v u i j} {R : Fv → Owns → Prop} (hv : FIs v (.int i)) (hu : FIs u (.int j)) (hj : j ≠ 0) (hp : Builtin.divisionGoesByPylong i j = false) (h : R (.int (i.fdiv j)) own) : Tv w H K n L bs own (binaryOp .FloorDiv v u) R := fun A s Q r S q => by
  obtain ⟨t, rfl⟩ := hv; obtain ⟨t', rfl⟩ := hu
  exact floordiv_int hj (q _ _ _ _ h ⟨_, rfl⟩ (S.toks _)) (.inl hp)
theorem lt_i {v u i j} {R : Fv → Owns → Prop} (hv : FIs v (.int i)) (hu : FIs u (.int j)) (h : R (.bool (decide (i < j))) own) : Tv w H K n L bs own (compareOp .Lt v u) R := fun A s Q r S q => by
  obtain ⟨t, rfl⟩ := hv; obtain ⟨t', rfl⟩ := hu
  exact PyProof.Rows.lt_int (q _ _ _ _ h rfl S)
theorem gt_i {v u i j} {R : Fv → Owns → Prop} (hv : FIs v (.int i)) (hu : FIs u (.int j)) (h : R (.bool (decide (j < i))) own) : Tv w H K n L bs own (compareOp .Gt v u) R := fun A s Q r S q => by
  obtain ⟨t, rfl⟩ := hv; obtain ⟨t', rfl⟩ := hu
  exact PyProof.Rows.gt_int (q _ _ _ _ h rfl S)
theorem ne_i {v u i j} {R : Fv → Owns → Prop} (hv : FIs v (.int i)) (hu : FIs u (.int j)) (h : R (.bool (i != j)) own) : Tv w H K n L bs own (compareOp .NotEq v u) R := fun A s Q r S q => by
  obtain ⟨t, rfl⟩ := hv; obtain ⟨t', rfl⟩ := hu
  exact PyProof.Rows.ne_int (q _ _ _ _ h rfl S)
theorem neg_i {v i} {R : Fv → Owns → Prop} (hv : FIs v (.int i)) (h : R (.int (-i)) own) : Tv w H K n L bs own (unaryOp .USub v) R := fun A s Q r S q => by
  obtain ⟨t, rfl⟩ := hv
  exact PyProof.Rows.neg_int (q _ _ _ _ h ⟨_, rfl⟩ (S.toks _))
theorem le_s {v u x y} {R : Fv → Owns → Prop} (hv : FIs v (.str x)) (hu : FIs u (.str y)) (h : R (.bool (!(decide (y.cps.toList < x.cps.toList)))) own) : Tv w H K n L bs own (compareOp .LtE v u) R := fun A s Q r S q => by
  obtain ⟨t, rfl⟩ := hv; obtain ⟨t', rfl⟩ := hu
  exact P.le_str (q _ _ _ _ h rfl S)
/-- a number in a set of numbers -/
theorem in_set {a : Addr} {v k} {Sf : Int → Bool} {m : Nat} {R : Fv → Owns → Prop} (hS : H.SetOf (intKind pw w) a Sf m) (hv : FIs v (.int k)) (h : R (.bool (Sf k)) own) :
    Tv w H K n L bs own (compareOp .In v (.ref a)) R := fun A s Q r S q => by
  obtain ⟨t, rfl⟩ := hv
  obtain ⟨o, es, ep, t', ho, hr⟩ := hS
  exact wpAny_inSet_of (knd := intKind pw w) (k := k) (by simp [intKind, Value.isInt]) rfl ⟨o, es, ep, t', S.keep _ _ ho, hr⟩ (q _ _ _ _ h rfl (S.toks _))
/- truth -/
theorem Tb.value {e} {R : Bool → Owns → Prop} (h : Tv w H K n L bs own (eval e env) fun f o => ∀ v, FIs v f → Tb w H K n L bs o (truthy v) R)
    (he : isTrue e env (eval e env) = (do let v ← eval e env; standAt e.pos; holding [v] (truthy v)) := by rfl) : Tb w H K n L bs own (isTrue e env (eval e env)) R := fun A s Q r S q =>
  wpAny_isTrue_value (h A s _ r S fun v s₁ f o x hv S₁ => x v hv A s₁ Q r S₁ q) he
theorem tr_b {v b} {R : Bool → Owns → Prop} (hv : FIs v (.bool b)) (h : R b own) : Tb w H K n L bs own (truthy v) R := fun A s Q r S q => by
  obtain rfl := hv
  exact wpAny_truthy_bool (q _ _ _ h S)
theorem tr_s {v x} {R : Bool → Owns → Prop} (hv : FIs v (.str x)) (hz : x.length ≤ sizeLine) (h : R ((x.length : Int) != 0) own) : Tb w H K n L bs own (truthy v) R := fun A s Q r S q => by
  obtain ⟨t, rfl⟩ := hv
  refine P.truthy_str ?_ (q _ _ _ h (S.toks _))
  have : sizeLine < 2 ^ 62 := by decide
  omega
theorem Tb.boolOp {op es pos whole} {R : Bool → Owns → Prop} (h : Tb w H K n L bs own (allTrue op es env) R) : Tb w H K n L bs own (isTrue (.BoolOp op es pos) env whole) R := fun A s Q r S q =>
  wpAny_isTrue_BoolOp (h A s Q r S q)
theorem Tb.and_nil {R : Bool → Owns → Prop} (h : R true own) : Tb w H K n L bs own (allTrue .And [] env) R := fun A s Q r S q => wpAny_allTrue_And_nil (q _ _ _ h S)
theorem Tb.or_nil {R : Bool → Owns → Prop} (h : R false own) : Tb w H K n L bs own (allTrue .Or [] env) R := fun A s Q r S q => wpAny_allTrue_Or_nil (q _ _ _ h S)
theorem Tb.and_cons {e rest} {R : Bool → Owns → Prop} (h : Tb w H K n L bs own (isTrue e env (eval e env)) fun b o => if b = true then Tb w H K n L bs o (allTrue .And rest env) R else R false o) :
    Tb w H K n L bs own (allTrue .And (e :: rest) env) R := fun A s Q r S q =>
  wpAny_allTrue_And_cons (h A s _ r S fun b s₁ o x S₁ => by cases b <;> first | exact q _ _ _ x S₁ | exact x A s₁ Q r S₁ q)
theorem Tb.or_cons {e rest} {R : Bool → Owns → Prop} (h : Tb w H K n L bs own (isTrue e env (eval e env)) fun b o => if b = true then R true o else Tb w H K n L bs o (allTrue .Or rest env) R) :
    Tb w H K n L bs own (allTrue .Or (e :: rest) env) R := fun A s Q r S q =>
  wpAny_allTrue_Or_cons (h A s _ r S fun b s₁ o x S₁ => by cases b <;> first | exact q _ _ _ x S₁ | exact x A s₁ Q r S₁ q)
theorem Tv.ifExp {test body orelse pos} {R : Fv → Owns → Prop}
    (h : Tb w H K n L bs own (isTrue test env (eval test env)) fun b o => if b = true then Tv w H K n L bs o (eval body env) R else Tv w H K n L bs o (eval orelse env) R) :
    Tv w H K n L bs own (eval (.IfExp test body orelse pos) env) R := fun A s Q r S q =>
  wpAny_IfExp (h A s _ r S fun b s₁ o x S₁ => by cases b <;> exact x A s₁ Q r S₁ q)
/-- two links: a op b op' c -/
theorem Tb.chain2 {l op₁ op₂ r₁ r₂ pos whole} {R : Bool → Owns → Prop}
    (h : Tv w H K n L bs own (eval l env) fun f o₁ => Tv w H K n L bs o₁ (eval r₁ env) fun g o₂ => ∀ v u, FIs v f → FIs u g → Tv w H K n L bs o₂ (compareOp op₁ v u) fun c o₃ =>
      ∃ b, c = .bool b ∧ if b = true then Tv w H K n L bs o₃ (eval r₂ env) (fun k o₄ => ∀ y, FIs y k → Tv w H K n L bs o₄ (compareOp op₂ u y) fun d o₅ => ∃ b', d = .bool b' ∧ R b' o₅) else R false o₃)
    (hm : lastMarks [op₁, op₂] [r₁, r₂] = false := by with_unfolding_all rfl) : Tb w H K n L bs own (isTrue (.Compare l [op₁, op₂] [r₁, r₂] pos) env whole) R := fun A s Q r S q => by
  refine isTrue_chain (h A s _ r S fun v s₁ f o₁ x hv S₁ => test_link (x A s₁ _ r S₁ fun u s₂ g o₂ y hu S₂ => y v u hv hu A s₂ _ r S₂ fun c s₃ cf o₃ z hc S₃ => ?_)) hm
  obtain ⟨b, rfl, z⟩ := z
  obtain rfl := hc
  refine wpAny_truthy_bool ?_
  cases b with
  | false => exact q _ _ _ z S₃
  | true => exact test_last (z A s₃ _ r S₃ fun y s₄ k o₄ z hy S₄ => z y hy A s₄ _ r S₄ fun d s₅ df o₅ z hd S₅ => by
      obtain ⟨b', rfl, z⟩ := z
      obtain rfl := hd
      exact wpAny_truthy_bool (q _ _ _ z S₅))
end
end Mine
end
section
namespace Mine
noncomputable def c8s : List Nat := [832, 833, 8206, 8207, 8234, 8235, 8236, 8237, 8238, 8298, 8299, 8300, 8301, 8302, 8303]
noncomputable def isC8 (i : Int) : Bool := [832, 833, 8234, 8235, 8236, 8237, 8206, 8207, 8238, 8298, 8299, 8300, 8301, 8302, 8303].any (· == i)
noncomputable def c9s : List Nat := 917505 :: (List.range 96).map (917536 + ·)
noncomputable def isC9 (i : Int) : Bool := c9s.any fun c => (c : Int) == i
theorem setOf_lit {h : Heap} {a : Addr} {o : Obj} {w : World} {es : Array (Int × Value)} {ep : Nat} {t : SetTable} {Sf : Int → Bool} (ho : h.get? a = some o) (hc : o.ExactSet) (hd : o.data = .set es ep t)
    (hall : es.toList.all (fun e => match e.2 with | .int k _ => e.1 == hashInt k | _ => false) = true) (hS : ∀ k, Sf k = es.toList.any (fun e => match e.2 with | .int k' _ => k' == k | _ => false))
    (h1 : es.size < scanBound) (h2 : t.fits es.size = true) : h.SetOf (intKind pw w) a Sf es.size := by
  refine ⟨o, es, ep, t, ho, hc, hd, fun e he => ?_, fun k => ?_, h1, h2, rfl⟩
  · have := List.all_eq_true.mp hall e he
    obtain ⟨x, v⟩ := e
    cases v <;> simp_all [intKind, Value.isInt, Value.scannable]
  · rw [hS k, List.any_eq_true]
    refine exists_congr fun e => and_congr_right fun he => ?_
    have := List.all_eq_true.mp hall e he
    obtain ⟨x, v⟩ := e
    cases v <;> simp_all [intKind, Value.isInt]
theorem fn_c11 {w mg mb} (x : Str) : Fn w mg mb 1 (.ref 112) [.str x] noG fun f o => f = .bool (x == (" " : Str)) ∧ o = [] := by
  refine Fn.intro (names := [Str.ofString "code"]) (body := bodyOf (topSt 5)) (c := 111) (by rfl) (by rfl) rfl (fun H K B hG => ?_) (by rfl) (fun vals e => ?_)
  · exact Tf.cons (Tf.ret (Tv.compare1 (Tv.name (by rfl) (by rfl) (Tv.str fun v u hv hu => eq_s hv hu ⟨rfl, rfl⟩))))
  · match vals, e with
    | [v], _ => rfl
theorem fn_c8 {w mg mb} (c : Nat) : Fn w mg mb 1 (.ref 136) [.str ⟨#[c]⟩] noG fun f o => f = .bool (isC8 c) ∧ o = [] := by
  refine Fn.intro (names := [Str.ofString "code"]) (body := bodyOf (topSt 7)) (c := 135) (by rfl) (by rfl) rfl (fun H K B hG => ?_) (by rfl) (fun vals e => ?_)
  · refine Tf.cons (Tf.ret (Tv.compare1 (Tv.callB (id := "ord") B (by rfl) (by decide +kernel) (by rfl) (Ts.cons (Tv.name (by rfl) (by rfl) (Ts.nil fun vals hvs => ?_))))))
    obtain ⟨v, rfl, hv⟩ := hvs.one
    refine ord_ hv (Tv.glob B (by rfl) (by rfl) fun v u hv hu => ?_)
    obtain rfl := hu
    refine in_set (Sf := isC8) (setOf_lit (B.k 126 (o126 w.params) (by rfl) (by decide) (by decide)) ⟨rfl, rfl, rfl⟩ rfl (by decide +kernel) (fun k => rfl) (by decide) (by kernel_rfl)) hv ⟨rfl, rfl⟩
  · match vals, e with
    | [v], _ => rfl
theorem fn_c9 {w mg mb} (c : Nat) : Fn w mg mb 1 (.ref 154) [.str ⟨#[c]⟩] noG fun f o => f = .bool (isC9 c) ∧ o = [] := by
  refine Fn.intro (names := [Str.ofString "code"]) (body := bodyOf (topSt 9)) (c := 153) (by rfl) (by rfl) rfl (fun H K B hG => ?_) (by rfl) (fun vals e => ?_)
  · refine Tf.cons (Tf.ret (Tv.compare1 (Tv.callB (id := "ord") B (by rfl) (by decide +kernel) (by rfl) (Ts.cons (Tv.name (by rfl) (by rfl) (Ts.nil fun vals hvs => ?_))))))
    obtain ⟨v, rfl, hv⟩ := hvs.one
    refine ord_ hv (Tv.glob B (by rfl) (by rfl) fun v u hv hu => ?_)
    obtain rfl := hu
    refine in_set (Sf := isC9) (setOf_lit (B.k 144 (o144v11 w.params) (by rfl) (by decide) (by decide)) ⟨rfl, rfl, rfl⟩ rfl (by decide +kernel) (fun k => by rfl) (by decide) (by kernel_rfl)) hv ⟨rfl, rfl⟩
  · match vals, e with
    | [v], _ => rfl
noncomputable def isFree (k : Int) (c : Nat) : Bool := if (k == 0) = true then c == 32 else if (k == 1) = true then isC8 c else isC9 c
theorem sp_eq (c : Nat) : ((⟨#[c]⟩ : Str) == (" " : Str)) = (c == 32) := by
  have : (" " : Str) = ⟨#[32]⟩ := by decide +kernel
  rw [this, Bool.eq_iff_iff, beq_iff_eq, beq_iff_eq]
  constructor
  · intro h; simpa using congrArg (fun s : Str => s.cps.toList) h
  · rintro rfl; rfl
theorem fn_free {w mg mb} (k : Int) (c : Nat) : Fn w mg mb 2 (.ref 186) [.int k, .str ⟨#[c]⟩] noG fun f o => f = .bool (isFree k c) ∧ o = [] := by
  refine Fn.intro (names := [Str.ofString "kind", Str.ofString "sign"]) (body := bodyOf (topSt 16)) (c := 185) (by rfl) (by rfl) rfl (fun H K B hG => ?_) (by rfl) (fun vals e => ?_)
  · refine Tf.cons (Tf.if_ (Tb.compare1 (Tv.name (by rfl) (by rfl) (Tv.int fun v u hv hu => eq_i hv hu ⟨_, rfl, ?_⟩))))
    unfold isFree
    cases h0 : (k == 0) with
    | true =>
      refine Tf.cons (Tf.ret (Tv.callFn (G := noG) B (by rfl) (by rfl) (by rfl) rfl (by decide) (by decide) (Ts.cons (Tv.name (by rfl) (by rfl) (Ts.nil ⟨fun _ _ => trivial, (fn_c11 _).mono ?_⟩))) (.inr ⟨_, _, rfl, rfl⟩)))
      rintro g o ⟨rfl, rfl⟩
      exact ⟨by rw [sp_eq]; rfl, rfl⟩
    | false =>
      refine Tf.nil (Tf.cons (Tf.if_ (Tb.compare1 (Tv.name (by rfl) (by rfl) (Tv.int fun v u hv hu => eq_i hv hu ⟨_, rfl, ?_⟩)))))
      cases h1 : (k == 1) with
      | true =>
        refine Tf.cons (Tf.ret (Tv.callFn (G := noG) B (by rfl) (by rfl) (by rfl) rfl (by decide) (by decide) (Ts.cons (Tv.name (by rfl) (by rfl) (Ts.nil ⟨fun _ _ => trivial, (fn_c8 _).mono ?_⟩))) (.inr ⟨_, _, rfl, rfl⟩)))
        rintro g o ⟨rfl, rfl⟩
        exact ⟨rfl, rfl⟩
      | false =>
        refine Tf.nil (Tf.cons (Tf.ret (Tv.callFn (G := noG) B (by rfl) (by rfl) (by rfl) rfl (by decide) (by decide) (Ts.cons (Tv.name (by rfl) (by rfl) (Ts.nil ⟨fun _ _ => trivial, (fn_c9 _).mono ?_⟩))) (.inr ⟨_, _, rfl, rfl⟩))))
        rintro g o ⟨rfl, rfl⟩
        exact ⟨rfl, rfl⟩
  · match vals, e with
    | [v, u], _ => rfl
end Mine
end
section
open PySem.Calls
namespace Mine
noncomputable def KB (P : Params) : Frag := (KF P).filter fun p => !(p.1 == 63 || p.1 == 70)
theorem lookup_filt {α : Type} (f : Addr → Bool) : ∀ (l : List (Addr × α)) (a : Addr) (o : α), (l.filter fun p => !(f p.1)).lookup a = some o → l.lookup a = some o ∧ f a = false
  | [], a, o, e => by cases e
  | (b, x) :: r, a, o, e => by
    simp only [List.filter_cons] at e
    cases hb : f b with
    | true =>
      rw [hb] at e
      obtain ⟨h1, h2⟩ := lookup_filt f r a o e
      refine ⟨?_, h2⟩
      have : (a == b) = false := beq_eq_false_iff_ne.mpr (by rintro rfl; rw [hb] at h2; cases h2)
      simp only [List.lookup, this]; exact h1
    | false =>
      rw [hb] at e
      simp only [Bool.not_false, if_true, List.lookup] at e ⊢
      cases hab : a == b with
      | true => rw [hab] at e; cases e; exact ⟨rfl, by rw [eq_of_beq hab]; exact hb⟩
      | false => rw [hab] at e; exact lookup_filt f r a o e
theorem Base.frag {w mg mb h} (B : Base w mg mb h) : (KB w.params).In h := fun a o e => by
  obtain ⟨e1, e2⟩ := lookup_filt (fun a => a == 63 || a == 70) _ _ _ e
  simp only [Bool.or_eq_false_iff, beq_eq_false_iff_ne] at e2
  exact B.k a o e1 e2.1 e2.2
section
variable {P : Params} {M : Model} {h : Heap}
theorem acc_cd : clsIn (KB P) 101 = some { name := (Str.ofString "_Accumulator"), bases := [.type "list"], mro := [.ref 101, .type "list", .type "object"], ns := 100, qualname := (Str.ofString "_Accumulator"), hasDict := true, slotNames := [], subclasses := [], abstract := false, collection := none, hasDel := false } := by kernel_rfl
theorem acc_mro (X : (KB P).In h) : Looks M h (mroOf (.ref 101)) [.ref 101, .type "list", .type "object"] := (looks_clsIn X acc_cd).andThen .now
theorem acc_sub_list (X : (KB P).In h) : Looks M h (isSubtype (.ref 101) (.type "list")) true := looks_mroIn X (by kernel_rfl)
theorem acc_sub_self (X : (KB P).In h) : Looks M h (isSubtype (.ref 101) (.ref 101)) true := looks_mroIn X (by kernel_rfl)
theorem acc_at (X : (KB P).In h) : h.get? 101 = some (o101 P) := X _ _ (by kernel_rfl)
theorem acc_made (X : (KB P).In h) : Looks M h (Bind.madeBy (.ref 101)) (some "list.__new__") := by
  intro A Q E s k q
  unfold Bind.madeBy
  refine wpAny_bind (acc_mro X A _ E s k ?_)
  rw [List.forIn_cons]
  refine wpAny_bind (wpAny_bind (wpAny_bind (wpAny_bind (wpAny_loadPart (k _ _ (acc_at X)) (wpAny_pure ?_)))))
  exact wpAny_pure (wpAny_pure (wpAny_pure q))
theorem acc_base (X : (KB P).In h) : Looks M h (Bind.staticBase (.ref 101)) (.ref 101) := by
  intro A Q E s k q
  unfold Bind.staticBase
  refine wpAny_bind (acc_mro X A _ E s k ?_)
  rw [List.forIn_cons]
  exact wpAny_bind (wpAny_bind (wpAny_bind (acc_made X A _ E s k (wpAny_pure (wpAny_pure (wpAny_pure q))))))
theorem acc_init (X : (KB P).In h) : Looks M h (typeLookup (.ref 101) "__init__") (some (.ref 38)) := looks_findIn X (by kernel_rfl)
theorem acc_call (X : (KB P).In h) : Looks M h (specialOf (.ref 101) "__call__") (some (.builtin "type.__call__")) := looks_specialIn X (by kernel_rfl)
theorem acc_typ (X : (KB P).In h) : Looks M h (isInstance (.ref 101) (.type "type")) true := looks_instIn X (by kernel_rfl)
end
theorem slot_wget : Slot "wrapper_descriptor" "__get__" "wrapper_descriptor.__get__" := .of (owner := "wrapper_descriptor") (n := "__get__") (by rw [typeLookup_type, builtinLookup_eq_fast]; kernel_rfl) (by decide +kernel) (by decide +kernel) (by decide +kernel)
  (.inl (by decide +kernel)) (by rw [isSubtype_type]; kernel_rfl)
theorem entry_wget : entryFor table "wrapper_descriptor.__get__" = some Builtin.«wrapper_descriptor.__get__» := entryFor_of_tree (by kernel_rfl)
theorem args_wget (a b c : Value) : argsOk "wrapper_descriptor.__get__" ⟨[a, b, c], []⟩ := by unfold argsOk; kernel_rfl
theorem slot_mget : Slot "method_descriptor" "__get__" "method_descriptor.__get__" := .of (owner := "method_descriptor") (n := "__get__") (by rw [typeLookup_type, builtinLookup_eq_fast]; kernel_rfl) (by decide +kernel) (by decide +kernel) (by decide +kernel)
  (.inl (by decide +kernel)) (by rw [isSubtype_type]; kernel_rfl)
theorem entry_mget : entryFor table "method_descriptor.__get__" = some Builtin.«method_descriptor.__get__» := entryFor_of_tree (by kernel_rfl)
theorem args_mget (a b c : Value) : argsOk "method_descriptor.__get__" ⟨[a, b, c], []⟩ := by unfold argsOk; kernel_rfl
section
variable {w : World} {A : Around} {E : Value → Shared → Prop} {h : Heap} {g : Array GenState} {d : Drawn} {t : Nat} {os : OsState} {P : Params}
theorem wget_run {id : String} {x C ox} {Q : PySem.Fin → Shared → Prop} (X : (KB P).In h) (hx : h.get? x = some ox) (hc : ox.cls = .ref 101) (hn : ".".intercalate (id.cutAt '.').dropLast = "list")
   (hq : Q (.done (.ret (.ref h.objs.size))) ⟨h.push { cls := .type "method-wrapper", data := .fields #[.builtin id, .ref x] }, g, d, t, os⟩) :
    wpAny (model pw w) A (Builtin.«wrapper_descriptor.__get__» ⟨[.builtin id, .ref x, .ref C], []⟩) Q E ⟨h, g, d, t, os⟩ := by
  have S := acc_sub_list (M := model pw w) X
  unfold Builtin.«wrapper_descriptor.__get__»
  repeat (first | (with_reducible refine Looks.at S ?_) | (with_reducible refine wpAny_loadPart_at hx ?_; rw [hc]) | with_reducible refine wpAny_newObj_type ?_ (by size_fits) | rw [hn] | wp_step)
  exact hq
theorem mget_run {id : String} {x C ox} {Q : PySem.Fin → Shared → Prop} (X : (KB P).In h) (hx : h.get? x = some ox) (hc : ox.cls = .ref 101) (hn : ".".intercalate (id.cutAt '.').dropLast = "list")
   (ht : Manifest.toldItsClass.contains id = false)
   (hq : Q (.done (.ret (.ref h.objs.size))) ⟨h.push { cls := .type "builtin_function_or_method", data := .fields #[.builtin id, .ref x] }, g, d, t, os⟩) :
    wpAny (model pw w) A (Builtin.«method_descriptor.__get__» ⟨[.builtin id, .ref x, .ref C], []⟩) Q E ⟨h, g, d, t, os⟩ := by
  have S := acc_sub_list (M := model pw w) X
  unfold Builtin.«method_descriptor.__get__»
  repeat (first | (with_reducible refine Looks.at S ?_) | (with_reducible refine wpAny_loadPart_at hx ?_; rw [hc]) | with_reducible refine wpAny_newObj_type ?_ (by size_fits) | rw [hn] | (simp only [ht, Bool.false_eq_true, if_false]) | wp_step)
  exact hq
/-- what super() of the class finds: a built-in of list -/
theorem super_ga {so x : Addr} {ox : Obj} {name : Str} {id T gid bt : String} {Bg : Builtin} {tk : Tok} {Q : PySem.Fin → Shared → Prop} (X : (KB P).In h)
    (hso : h.get? so = some { cls := .type "super", dict := none, data := .fields #[.ref 101, .ref x, .ref 101], slots := #[] }) (hx : h.get? x = some ox) (hc : ox.cls = .ref 101)
    (hf : alongIn (KB P) name [.type "list", .type "object"] = some (some (.builtin id))) (hT : typeOf (.builtin id) = pure (.type T))
    (sg : Slot T "__get__" gid) (eg : entryFor table gid = some Bg) (ag : ∀ a b c, argsOk gid ⟨[a, b, c], []⟩)
    (run : ∀ {A' : Around} {Q' : PySem.Fin → Shared → Prop} {E'} , Q' (.done (.ret (.ref h.objs.size))) ⟨h.push { cls := .type bt, data := .fields #[.builtin id, .ref x] }, g, d, t, os⟩ →
      wpAny (model pw w) A' (Bg ⟨[.builtin id, .ref x, .ref 101], []⟩) Q' E' ⟨h, g, d, t, os⟩)
    (hxC : x ≠ 101) (hn : (name == ("__class__" : Str)) = false)
    (hq : Q (.done (.ret (.ref h.objs.size))) ⟨h.push { cls := .type bt, data := .fields #[.builtin id, .ref x] }, g, d, t, os⟩) :
    wpAny (model pw w) A (Builtin.«super.__getattribute__» ⟨[.ref so, .str name tk], []⟩) Q E ⟨h, g, d, t, os⟩ := by
  have hlk := sg.lookup
  have hTi : ∀ s : Shared, s.TypeIs (.builtin id) T := fun _ => hT
  have hno : Looks (model pw w) h (opaqueClassAbove (.ref 101)) none := looks_opaque X (by kernel_rfl)
  have hC := acc_mro (M := model pw w) X
  have hl : (([.ref 101, .type "list", .type "object"] : List Value).dropWhile (· != .ref 101)).drop 1 = [.type "list", .type "object"] := by decide
  have hne : (Value.ref x == Value.ref 101) = false := by simp [hxC]
  have hdt : ({ cls := .type "super", dict := none, data := .fields #[.ref 101, .ref x, .ref 101], slots := #[] } : Obj).data = .fields #[.ref 101, .ref x, .ref 101] := rfl
  have f0 : (#[.ref 101, .ref x, .ref 101] : Array Value)[0]? = some (.ref 101) := rfl
  have f1 : (#[.ref 101, .ref x, .ref 101] : Array Value)[1]? = some (.ref x) := rfl
  have f2 : (#[.ref 101, .ref x, .ref 101] : Array Value)[2]? = some (.ref 101) := rfl
  unfold Builtin.«super.__getattribute__»
  repeat (first
    | (with_reducible refine wpAny_field hso hdt f0 ?_) | (with_reducible refine wpAny_field hso hdt f1 ?_) | (with_reducible refine wpAny_field hso hdt f2 ?_)
    | (with_reducible refine ks_wpAny_notOpaque hno ?_)
    | (with_reducible refine Looks.at hC ?_; rw [hl])
    | (refine ks_forIn_along X (fun _ _ => rfl) rfl ?_ hf)
    | (with_reducible refine wpAny_of_eq hT ?_)
    | (with_reducible refine wpAny_call_entry sg (hTi _) eg ?_ (ag _ _ _))
    | (with_reducible refine run ⟨_, rfl, ?_⟩)
    | (simp only [hn, hne, Bool.or_false, Bool.false_eq_true, if_false])
    | wp_step
    | dsimp only)
  all_goals exact hq
/-- .. as a method -/
theorem super_method {so x : Addr} {ox : Obj} {name : Str} {id T gid bt : String} {Bg : Builtin} {pl : Sem Bool} {Q : Value × List Value → Shared → Prop} (X : (KB P).In h)
    (hso : h.get? so = some { cls := .type "super", dict := none, data := .fields #[.ref 101, .ref x, .ref 101], slots := #[] }) (hx : h.get? x = some ox) (hc : ox.cls = .ref 101)
    (hf : alongIn (KB P) name [.type "list", .type "object"] = some (some (.builtin id))) (hT : typeOf (.builtin id) = pure (.type T))
    (sg : Slot T "__get__" gid) (eg : entryFor table gid = some Bg) (ag : ∀ a b c, argsOk gid ⟨[a, b, c], []⟩)
    (run : ∀ {A' : Around} {Q' : PySem.Fin → Shared → Prop} {E' t'} , Q' (.done (.ret (.ref h.objs.size))) ⟨h.push { cls := .type bt, data := .fields #[.builtin id, .ref x] }, g, d, t', os⟩ →
      wpAny (model pw w) A' (Bg ⟨[.builtin id, .ref x, .ref 101], []⟩) Q' E' ⟨h, g, d, t', os⟩)
    (hxC : x ≠ 101) (hn : (name == ("__class__" : Str)) = false)
    (hq : Q (.ref h.objs.size, []) ⟨h.push { cls := .type bt, data := .fields #[.builtin id, .ref x] }, g, d, t + 1, os⟩) :
    wpAny (model pw w) A (getMethod (.ref so) name pl) Q E ⟨h, g, d, t, os⟩ := by
  have hlk := F.ks_slot_super_ga.lookup
  have hcan := F.ks_canon_super_ga
  have hT' : ∀ t', (⟨h, g, d, t', os⟩ : Shared).TypeIs (.ref so) "super" := fun _ => ⟨_, hso, rfl⟩
  unfold getMethod
  refine wpAny_bind (wpAny_specialOf (hT' _) hlk ?_)
  show wpAny _ _ (if (Manifest.canonical "super.__getattribute__" != "object.__getattribute__") = true then _ else _) _ _ _
  rw [if_pos hcan]
  unfold getAttr getAttrBy
  refine wpAny_bind (wpAny_bind (wpAny_mkText (wpAny_holding (wpAny_bind (wpAny_typeOf (hT' _) (wpAny_bind (wpAny_of_eq hlk ?_)))))))
  show wpAny _ _ (getAttrByItsOwn (.ref so) (.str name t) (.type "super") (.builtin "super.__getattribute__") true false) _ _ _
  unfold getAttrByItsOwn hookBefore callGetattribute boundAndCalled
  refine wpAny_bind (wpAny_of_eq (show (if onTheHeap (.type "super") then typeLookup (.type "super") "__getattr__" else pure none) = pure none from rfl) ?_)
  refine wpAny_bind (wpAny_attempt (wpAny_holding ?_))
  show wpAny _ _ (bindSpecial (.builtin "super.__getattribute__") (.ref so) >>= _) _ _ _
  refine wpAny_bind (wpAny_of_eq (F.ks_slot_super_ga.bind _) ?_)
  refine wpAny_mono (Q := fun v s' => v = .ref h.objs.size ∧ s' = ⟨h.push { cls := .type bt, data := .fields #[.builtin id, .ref x] }, g, d, t + 1, os⟩) (E := fun _ _ => False)
    (wpAny_call_entry F.ks_slot_super_ga (hT' _) F.ks_entry_super_ga (super_ga X hso hx hc hf hT sg eg ag run hxC hn ⟨_, rfl, rfl, rfl⟩) (F.ks_gaArgs_super _ _)) (fun v s' hv => ?_) fun _ _ z => z.elim
  obtain ⟨rfl, rfl⟩ := hv
  exact wpAny_pure (wpAny_pure hq)
end
end Mine
end
section
open PySem.Calls
open AutoSeq1 (wpAny_loadPart')
namespace Mine
section
variable {w : World} {A : Around} {E : Value → Shared → Prop} {h : Heap} {g : Array GenState} {d : Drawn} {t : Nat} {os : OsState} {P : Params} {x dx : Addr} {items : Array Value} {n : Nat} {Q : PySem.Fin → Shared → Prop}
theorem acc_pop_run {y : Value} (hl : h.get? x = some (accO dx items n)) (hy : items[items.size - 1]? = some y) (hs1 : items.size ≤ sizeLine)
    (hq : Q (.done (.ret y)) ⟨h.update x (Obj.mapSeq fun xs => xs.eraseIdxIfInBounds (items.size - 1)), g, d, t, os⟩) : wpAny (model pw w) A (Builtin.«list.pop» ⟨[.ref x], []⟩) Q E ⟨h, g, d, t, os⟩ := by
  have hpos : 0 < items.size := by
    rcases Nat.eq_zero_or_pos items.size with h0 | h0
    · simp [h0] at hy
    · exact h0
  have hne : ¬ items.isEmpty = true := by
    intro he; have : items.size = 0 := by simpa using he
    omega
  have hk : seqIndex? (-1) items.size = some (items.size - 1) := by
    rw [seqIndex_neg (by omega) (by omega)]; congr 1; omega
  unfold accO at hl
  wp_walk using wpAny_loadPart' hl
  simp only [hk, hy, Option.bind_some, Option.map_some]
  have hz' : (items.eraseIdxIfInBounds (items.size - 1)).size ≤ sizeLine + 1 := Nat.le_trans (MeetsSeq.size_erased items _) (Nat.le_succ_of_le hs1)
  wp_walk using (wpAny_updateSeq hl rfl (hz := hs1) (_hz' := hz')), wpAny_loadPart' hl
  exact hq
theorem acc_len_run (hl : h.get? x = some (accO dx items n))
    (hq : Q (.done (.ret (.int items.size t))) ⟨h, g, d, t + 1, os⟩) : wpAny (model pw w) A (Builtin.«list.__len__» ⟨[.ref x], []⟩) Q E ⟨h, g, d, t, os⟩ := by
  unfold accO at hl
  wp_walk using wpAny_loadPart' hl
  exact hq
theorem acc_init_run (hl : h.get? x = some (accO dx #[] n))
    (hq : Q (.done (.ret .none)) ⟨h.update x (Obj.mapSeq fun _ => #[]), g, d, t, os⟩) : wpAny (model pw w) A (Builtin.«list.__init__» ⟨[.ref x], []⟩) Q E ⟨h, g, d, t, os⟩ := by
  unfold accO at hl
  wp_walk using (wpAny_updateSeq hl rfl (hz := by decide) (_hz' := by decide)), wpAny_loadPart' hl
  exact hq
theorem acc_append_run {v : Value} (hl : h.get? x = some (accO dx items n)) (hs : items.size ≤ sizeLine)
    (hq : Q (.done (.ret .none)) ⟨h.update x (Obj.mapSeq fun xs => xs.push v), g, d, t, os⟩) : wpAny (model pw w) A (Builtin.«list.append» ⟨[.ref x, v], []⟩) Q E ⟨h, g, d, t, os⟩ := by
  unfold accO at hl
  have hz' : (items.push v).size ≤ sizeLine + 1 := by rw [Array.size_push]; omega
  wp_walk using (wpAny_updateSeq hl rfl (hz := hs) (_hz' := hz')), wpAny_loadPart' hl
  exact hq
end
theorem cell25 {w mg mb h} (B : Base w mg mb h) : h.IsCell 25 (some (.ref 101)) := ⟨_, B.k 25 (o25 w.params) (by rfl) (by decide) (by decide), rfl⟩
theorem Ext.acc {h h' : Heap} {x dx items n} (k : Ext h h') (e : h.get? x = some (accO dx items n)) : h'.get? x = some (accO dx items n) := k _ _ e
section
variable {w : World} {mg mb : Str → Option Value} {H : Heap} {K : Kn} {n : Nat} {bs : Bs} {own : Owns} {env : Env} {A : Around} {s : Shared} {x dx : Addr} {items : Array Value} {k : Nat} {fa cc : Addr} {fd : FuncData} {vs : Array Value}
/-- the super of the frame's own self -/
theorem sup_base {body : List Stmt} {p0 p1 : Pos} {attr : Str} {whole : Sem Value} {tf : Tok} {ar : Arg} {Q : Value → Shared → Prop} (B : Base w mg mb H) (S : St H K env.locals bs own s)
    (hself : bs.lookup ("self" : Str) = some (.ref x)) (hx : s.heap.get? x = some (accO dx items k)) (hat : (attr == ("__class__" : Str)) = false)
    (hf : (KF w.params).lookup fa = some ⟨.type "function", none, .func fd, #[]⟩) (hC : (KF w.params).lookup cc = some ⟨.type "code", none, .fields vs, #[]⟩) (nf : fa ≠ 63 ∧ fa ≠ 70 ∧ cc ≠ 63 ∧ cc ≠ 70)
    (hks : env.kindOf "super" = some .globalImplicit) (hkc : env.kindOf "__class__" = some .free) (hls : env.kindOf "self" = some .local) (hfu : env.func = some fa) (hco : env.code = .ref cc)
    (hcl : env.cells.lookup ("__class__" : Str) = some 25) (hp : (fd.params.posonlyargs ++ fd.params.args).head? = some ar) (har : ar.arg = ("self" : Str)) (hvs : vs[2]? = some (.str "/claim/cut.py" tf)) (hg : env.globals = mainGlobals) (hbu : env.builtins = builtinsNs) (hk : env.scope.kind = .function)
    (h : ∀ so h', h'.get? so = some { cls := .type "super", dict := none, data := .fields #[.ref 101, .ref x, .ref 101], slots := #[] } → Ext s.heap h' → Q (.ref so) { s with heap := h' }) :
    PySem.wpAt (model pw w) A (.func body env) (attributeBase (.Call (.Name "super" p0) [] [] p1) attr env whole) Q noE s := by
  have X := (B.ext S.keep).frag
  refine ks_wpAt_super_base hks hkc hat hfu (S.keep _ _ (B.k _ _ hf nf.1 nf.2.1)) rfl hp hco (S.keep _ _ (B.k _ _ hC nf.2.2.1 nf.2.2.2)) rfl hvs (by kernel_rfl) (by kernel_rfl) ?_
  have ms : mg "super" = none := B.mgs "super" none (by kernel_rfl)
  refine ks_loadName_global hk hks (Calls.loadGlobal_builtin (by rw [hg]; exact B.g.keeps S.keep) ms (by rw [hbu]; exact B.b.keeps S.keep) ((B.mbs "super" (by decide)).trans (by kernel_rfl)) ⟨rfl, ?_⟩)
  refine wpAny_loadName_free hk hkc hcl ((cell25 B).keeps S.keep) ?_
  obtain ⟨m, hn, hm⟩ := S.loc
  obtain ⟨v, hv, hfv⟩ := hm _ _ hself
  obtain rfl := hfv
  rw [har]
  refine wpAny_loadName_local hk hls hn hv ?_
  obtain ⟨hh, g, d, t, os⟩ := s
  refine ks_wpAny_isType_cls (acc_at X) rfl ⟨rfl, ?_⟩
  refine ks_wpAny_call_super (acc_at X) rfl hx rfl (fun c q => by cases q) (acc_sub_self X) fun h' e k' => h _ h' e k'
theorem call_bound {bt id : String} {b : Addr} {Bi : Builtin} {Q : Value → Shared → Prop} (hbt : bt = "method-wrapper" ∨ bt = "builtin_function_or_method")
    (hb : s.heap.get? b = some { cls := .type bt, data := .fields #[.builtin id, .ref x] }) (hc : Looks (model pw w) s.heap (checkBoundCall id ⟨[.ref x], []⟩) ()) (he : entryFor table id = some Bi) (hq : (Code.builtin id ⟨[.ref x], []⟩).quiet = true)
    (run : ∀ A', wpAny (model pw w) A' (Bi ⟨[.ref x], []⟩) (fun fin s' => ∃ v, fin = .done (.ret v) ∧ Q v s') noE s) : wpAny (model pw w) A (call (.ref b) []) Q noE s := by
  refine wpAny_call (codeAny_of_tree ?_)
  have fin : codeAny (model pw w) A (.builtin id ⟨[.ref x], []⟩) (fun r s' => match r with | .ok (.ret v) => Q v s' | .ok _ => False | .error e => noE e s') s :=
    codeAny_builtin he (wpAny_mono (run _) (fun f s' z => by obtain ⟨v, rfl, z⟩ := z; exact z) fun _ _ z => z)
  rcases hbt with rfl | rfl
  · show wpAny _ A.in1 (callAny (.ref b) _) _ _ _
    unfold callAny
    refine wpAny_bind (wpAny_load hb ?_)
    show wpAny _ _ (checkBoundCall id ⟨[.ref x], []⟩ >>= fun _ => again (.builtin id ⟨[.ref x], []⟩)) _ _ _
    exact wpAny_bind (hc.here (wpAny_pure ⟨hq, fin⟩))
  · show wpAny _ A.in1 (callAny (.ref b) _) _ _ _
    unfold callAny
    refine wpAny_bind (wpAny_load hb ?_)
    show wpAny _ _ (checkBoundCall id ⟨[.ref x], []⟩ >>= fun _ => again (.builtin id ⟨[.ref x], []⟩)) _ _ _
    exact wpAny_bind (hc.here (wpAny_pure ⟨hq, fin⟩))
theorem bound_keeper {M : Model} {bt id : String} {b : Addr} {h : Heap} (hbt : bt = "method-wrapper" ∨ bt = "builtin_function_or_method") (hb : h.get? b = some { cls := .type bt, data := .fields #[.builtin id, .ref x] }) :
    Looks M h (keeperOf (.ref b)) .machine := by
  rcases hbt with rfl | rfl
  · exact (Looks.ld (part := none) hb).andThen .now
  · exact (Looks.ld (part := none) hb).andThen .now
theorem sup_call {body : List Stmt} {p0 p1 apos pos : Pos} {nm : Str} {tf : Tok} {ar : Arg} {id T gid bt : String} {Bg Bi : Builtin} {Q : Value → Shared → Prop} (B : Base w mg mb H) (S : St H K env.locals bs own s)
    (hself : bs.lookup ("self" : Str) = some (.ref x)) (hx : s.heap.get? x = some (accO dx items k)) (hxC : x ≠ 101)
    (hf : (KF w.params).lookup fa = some ⟨.type "function", none, .func fd, #[]⟩) (hC : (KF w.params).lookup cc = some ⟨.type "code", none, .fields vs, #[]⟩) (nf : fa ≠ 63 ∧ fa ≠ 70 ∧ cc ≠ 63 ∧ cc ≠ 70)
    (hks : env.kindOf "super" = some .globalImplicit) (hkc : env.kindOf "__class__" = some .free) (hls : env.kindOf "self" = some .local) (hfu : env.func = some fa) (hco : env.code = .ref cc)
    (hcl : env.cells.lookup ("__class__" : Str) = some 25) (hp : (fd.params.posonlyargs ++ fd.params.args).head? = some ar) (har : ar.arg = ("self" : Str)) (hvs : vs[2]? = some (.str "/claim/cut.py" tf)) (hg : env.globals = mainGlobals) (hbu : env.builtins = builtinsNs) (hk : env.scope.kind = .function)
    (hat : (nm == ("__class__" : Str)) = false)
    (hfi : alongIn (KB w.params) nm [.type "list", .type "object"] = some (some (.builtin id))) (hT : typeOf (.builtin id) = pure (.type T))
    (sg : Slot T "__get__" gid) (eg : entryFor table gid = some Bg) (ag : ∀ a b c, argsOk gid ⟨[a, b, c], []⟩)
    (rung : ∀ {h : Heap} {g d os} {A' : Around} {Q' : PySem.Fin → Shared → Prop} {E' t'}, (KB w.params).In h → h.get? x = some (accO dx items k) → Q' (.done (.ret (.ref h.objs.size))) ⟨h.push { cls := .type bt, data := .fields #[.builtin id, .ref x] }, g, d, t', os⟩ →
      wpAny (model pw w) A' (Bg ⟨[.builtin id, .ref x, .ref 101], []⟩) Q' E' ⟨h, g, d, t', os⟩)
    (hbt : bt = "method-wrapper" ∨ bt = "builtin_function_or_method") (he : entryFor table id = some Bi) (hqt : (Code.builtin id ⟨[.ref x], []⟩).quiet = true)
    (hc : ∀ h : Heap, (KB w.params).In h → h.get? x = some (accO dx items k) → Looks (model pw w) h (checkBoundCall id ⟨[.ref x], []⟩) ())
    (run : ∀ A' s', St H K env.locals bs own s' → s'.heap.get? x = some (accO dx items k) → wpAny (model pw w) A' (Bi ⟨[.ref x], []⟩) (fun fin s'' => ∃ v, fin = .done (.ret v) ∧ Q v s'') noE s')
    (hform : ∃ pl, eval (.Call (.Attribute (.Call (.Name "super" p0) [] [] p1) nm apos) [] [] pos) env = (do
      let ov ← attributeBase (.Call (.Name "super" p0) [] [] p1) nm env (eval (.Call (.Name "super" p0) [] [] p1) env)
      standAt apos.atName
      let (f, first) ← holding [ov] (getMethod ov nm pl)
      callWith pos f first (backTo pos (starEach [] env)) [])) :
    PySem.wpAt (model pw w) A (.func body env) (eval (.Call (.Attribute (.Call (.Name "super" p0) [] [] p1) nm apos) [] [] pos) env) Q noE s := by
  obtain ⟨pl, hform⟩ := hform
  refine ks_wpAt_MethodCall (pl := pl) ?_ hform
  refine sup_base B S hself hx hat hf hC nf hks hkc hls hfu hco hcl hp har hvs hg hbu hk fun so h' hso k' => ?_
  have S' : St H K env.locals bs own { s with heap := h' } := S.ext S.rest.1 rfl k'
  have X' := (B.ext S'.keep).frag
  have hx' : h'.get? x = some (accO dx items k) := k' _ _ hx
  obtain ⟨hh, g, d, t, os⟩ := s
  refine super_method X' hso hx' rfl hfi hT sg eg ag (fun z => rung X' hx' z) hxC hat ?_
  have S'' : St H K env.locals bs own ⟨h'.push { cls := .type bt, data := .fields #[.builtin id, .ref x] }, g, d, t + 1, os⟩ := S'.ext S'.rest.1 rfl (Ext.push _ _)
  have hb : (h'.push { cls := .type bt, data := .fields #[.builtin id, .ref x] }).get? h'.objs.size = some { cls := .type bt, data := .fields #[.builtin id, .ref x] } := Heap.get?_push_size _ rfl
  have hx'' : (h'.push { cls := .type bt, data := .fields #[.builtin id, .ref x] }).get? x = some (accO dx items k) := Heap.get?_push_of_some _ hx'
  refine callWith_of (args := []) (keywords := []) (P := fun h => h.get? h'.objs.size = some { cls := .type bt, data := .fields #[.builtin id, .ref x] }) rfl (fun h z => ⟨_, .inr (.inl rfl), bound_keeper hbt z⟩) ?_
  refine PyProof.Rows.evalArgs_none ⟨hb, ?_⟩
  exact call_bound hbt hb (hc _ (B.ext S''.keep).frag hx'') he hqt (fun A' => run A' _ S'' hx'')
end
end Mine
end
section
open PySem.Calls
open AutoSeq1 (wpAny_loadPart')
namespace Mine
noncomputable def frO : Obj := { cls := .none, data := .freed }
noncomputable def dropH (h : Heap) : List Addr → Heap
  | [] => h
  | a :: r => (dropH h r).update a fun _ => frO
theorem get_upd_fr (h : Heap) (a : Addr) : (h.update a fun _ => frO).get? a = none := by
  cases e : (h.update a fun _ => frO).get? a with
  | none => rfl
  | some o =>
    obtain ⟨e1, e2⟩ := Heap.get?_some_iff.mp e
    exfalso
    cases h
    simp only [Heap.update, Array.getElem?_modify, if_true] at e1
    obtain ⟨x, _, rfl⟩ := Option.map_eq_some_iff.mp e1
    cases e2
theorem dropH_get (h : Heap) : ∀ (as : List Addr) (b : Addr), (dropH h as).get? b = if b ∈ as then none else h.get? b
  | [], b => by simp [dropH]
  | a :: r, b => by
    by_cases hab : b = a
    · subst hab; simp [dropH, get_upd_fr]
    · show ((dropH h r).update a _).get? b = _
      rw [Heap.get?_update_other _ _ (Ne.symm hab), dropH_get h r b]
      simp [hab]
theorem dropH_in {h : Heap} {as : List Addr} {b : Addr} (hb : b ∈ as) : (dropH h as).get? b = none := by rw [dropH_get, if_pos hb]
theorem dropH_out {h : Heap} {as : List Addr} {b : Addr} (hb : b ∉ as) : (dropH h as).get? b = h.get? b := by rw [dropH_get, if_neg hb]
/-- all but the objects at as stands as it stood, and these were no tuples -/
noncomputable def MutS (as : List Addr) (h h' : Heap) : Prop := (∀ a ∈ as, ∀ o, h.get? a = some o → ¬ IsTupO o) ∧ ∀ b o, b ∉ as → h.get? b = some o → h'.get? b = some o
theorem TupIs.muts {h h' : Heap} {a as fs} (x : TupIs h a fs) (k : MutS as h h') : TupIs h' a fs := by
  obtain ⟨vs, e, f⟩ := x
  exact ⟨vs, k.2 _ _ (fun q => k.1 _ q _ e ⟨rfl, vs, 0, rfl⟩) e, f⟩
theorem PL.muts {h h' : Heap} {vs ps as} (x : PL h vs ps) (k : MutS as h h') : PL h' vs ps := by
  induction x with
  | nil => exact .nil
  | cons a _ ih => exact .cons (let ⟨t, e, y⟩ := a; ⟨t, e, y.muts k⟩) ih
theorem nsB_keep {h h' : Heap} {a bs} (x : NsB h a bs) (k : ∀ o, h.get? a = some o → h'.get? a = some o) : NsB h' a bs := by
  obtain ⟨m, ⟨o, es, ep, e, r⟩, y⟩ := x
  exact ⟨m, ⟨o, es, ep, k _ e, r⟩, y⟩
theorem Own.At.muts {h h' : Heap} {a as} {w : Own} (x : w.At h a) (hab : ∀ b ∈ w.ads a, b ∉ as) (k : MutS as h h') : w.At h' a := by
  cases w with
  | list => obtain ⟨vs, n, e, f⟩ := x; exact ⟨vs, n, k.2 _ _ (hab _ (.head _)) e, f⟩
  | tup => exact TupIs.muts x k
  | acc d z ps =>
    obtain ⟨⟨vs, n, e, f⟩, t, o, es, ep, e', r⟩ := x
    exact ⟨⟨vs, n, k.2 _ _ (hab _ (.head _)) e, f.muts k⟩, t, o, es, ep, k.2 _ _ (hab _ (.tail _ (.head _))) e', r⟩
  | ns => exact nsB_keep x fun o e => k.2 _ _ (hab _ (.head _)) e
  | cell => rcases x with ⟨o, e, f, g⟩ | ⟨o, v, g, e, f, r⟩
            · exact .inl ⟨o, k.2 _ _ (hab _ (.head _)) e, f, g⟩
            · exact .inr ⟨o, v, g, k.2 _ _ (hab _ (.head _)) e, f, r⟩
  | raw => obtain ⟨o, e, f⟩ := x; exact ⟨o, k.2 _ _ (hab _ (.head _)) e, f⟩
section
variable {H : Heap} {K : Kn} {L : Addr} {bs : Bs} {own : Owns} {s : Shared}
theorem St.perm (S : St H K L bs own s) {own' : Owns} (h : own.Perm own') : St H K L bs own' s := by
  have p : (ads own).Perm (ads own') := h.flatMap_right _
  refine ⟨S.rest, S.keep, S.loc, fun p hp => S.has p (h.mem_iff.mpr hp), ?_, fun a ha => S.fresh a ?_⟩
  · exact (p.cons L).nodup_iff.mp S.nd
  · exact (p.cons L).mem_iff.mpr ha
theorem perm_at {own : Owns} {i : Nat} {p : Addr × Own} (e : own[i]? = some p) : own.Perm (p :: own.eraseIdx i) := by
  obtain ⟨hi, rfl⟩ := List.getElem?_eq_some_iff.mp e
  have e1 : own = own.take i ++ own[i] :: own.drop (i + 1) := by rw [List.getElem_cons_drop, List.take_append_drop]
  rw [List.eraseIdx_eq_take_drop_succ]
  exact (List.Perm.of_eq e1).trans List.perm_middle
theorem perm_set {own : Owns} {i : Nat} {p : Addr × Own} (e : own[i]? = some p) (p' : Addr × Own) : (p' :: own.eraseIdx i).Perm (own.set i p') := by
  obtain ⟨hi, rfl⟩ := List.getElem?_eq_some_iff.mp e
  rw [List.eraseIdx_eq_take_drop_succ, List.set_eq_take_append_cons_drop, if_pos hi]
  exact List.perm_middle.symm
/-- what is under way in a call, over the heap without what is handed to it -/
theorem St.dropped {pre rest : Owns} (S : St H K L bs (pre ++ rest) s) : Ext H (dropH s.heap (ads pre)) := fun b o e => by
  rw [dropH_out]
  · exact S.keep b o e
  · intro q
    rw [S.fresh b (List.mem_cons_of_mem _ (by rw [ads_app]; exact List.mem_append_left _ q))] at e
    cases e
theorem St.back {pre rest own' : Owns} {K' : Kn} {L' : Addr} {bs' : Bs} {s' : Shared} (S : St H K L bs (pre ++ rest) s) (hn : ∀ a ∈ ads pre, ∀ o, s.heap.get? a = some o → ¬ IsTupO o)
    (hK : K' = s.os) (S' : St (dropH s.heap (ads pre)) K' L' bs' own' s') : St H K L bs (own' ++ rest) s' := by
  have nd := S.nd
  rw [ads_app, List.nodup_cons, List.nodup_append] at nd
  have m : MutS (ads pre) s.heap s'.heap := ⟨hn, fun b o hb e => S'.keep b o (by rw [dropH_out hb]; exact e)⟩
  have hL : L ∉ ads pre := fun q => nd.1 (List.mem_append_left _ q)
  have hr : ∀ b ∈ ads rest, b ∉ ads pre := fun b hb q => nd.2.2.2 b q b hb rfl
  have off : ∀ b ∈ ads own', ∀ o, b ∉ ads pre → s.heap.get? b = some o → False := fun b hb o hp e => by
    have := S'.fresh b (List.mem_cons_of_mem _ hb)
    rw [dropH_out hp, e] at this; cases this
  have alive := fun p hp => (S.has p (List.mem_append_right pre hp)).alives
  refine ⟨⟨S'.rest.1, S'.rest.2.trans (hK.trans S.rest.2)⟩, (S.dropped).trans S'.keep, ?_, fun p hp => ?_, ?_, fun a ha => ?_⟩
  · exact nsB_keep S.loc fun o e => m.2 _ _ hL e
  · rcases List.mem_append.mp hp with hp | hp
    · exact S'.has p hp
    · exact (S.has p (List.mem_append_right pre hp)).muts (fun b hb => hr b (ads_mem hp hb)) m
  · rw [ads_app, List.nodup_cons, List.mem_append, List.nodup_append]
    refine ⟨fun q => ?_, (List.nodup_cons.mp S'.nd).2, nd.2.2.1, fun a ha b hb => ?_⟩
    · rcases q with q | q
      · obtain ⟨o, e, _⟩ := S.loc.alive
        exact off L q o hL e
      · exact nd.1 (List.mem_append_right _ q)
    · rintro rfl
      obtain ⟨p, hp, hb'⟩ := List.mem_flatMap.mp hb
      obtain ⟨o, e⟩ := alive p hp a hb'
      exact off a ha o (hr a hb) e
  · rcases List.mem_cons.mp ha with rfl | ha
    · exact S.fresh _ (.head _)
    · rw [ads_app] at ha
      rcases List.mem_append.mp ha with ha | ha
      · by_cases hp : a ∈ ads pre
        · exact S.fresh a (List.mem_cons_of_mem _ (by rw [ads_app]; exact List.mem_append_left _ hp))
        · cases e : H.get? a with
          | none => rfl
          | some o => exact (off a ha o hp (S.keep _ _ e)).elim
      · exact S.fresh a (List.mem_cons_of_mem _ (by rw [ads_app]; exact List.mem_append_right _ ha))
end
/-- a contract of a method that turns what is handed to it -/
noncomputable def FnO (w : World) (mg mb : Str → Option Value) (n : Nat) (f : Value) (fs : List Fv) (pre : Owns) (R : Fv → Owns → Prop) : Prop :=
  ∀ A H K L bs rest s vals Q, Room n A → Base w mg mb H → St H K L bs (pre ++ rest) s → FL vals fs →
    (∀ v s' g own', R g own' → FIs v g → St H K L bs (own' ++ rest) s' → Q v s') → wpAny (model pw w) A (call f vals) Q noE s
section
variable {w : World} {mg mb : Str → Option Value} {n : Nat}
theorem FnO.intro {fa : Addr} {fd : FuncData} {body : List Stmt} {names : List Str} {fs : List Fv} {pre : Owns} {R : Fv → Owns → Prop} {c : Addr} {vs : Array Value} {t : Tok}
    (hK : (KF w.params).lookup fa = some ⟨.type "function", none, .func fd, #[]⟩) (hC : (KF w.params).lookup c = some ⟨.type "code", none, .fields vs, #[]⟩)
    (hlen : fs.length = names.length) (hnt : ∀ (h : Heap), (∀ p ∈ pre, p.2.At h p.1) → ∀ a ∈ ads pre, ∀ o, h.get? a = some o → ¬ IsTupO o)
    (h : ∀ (H : Heap) (K : Kn) (L : Addr) (A : Around) (s : Shared), Base w mg mb H → Room n A → St H K L (names.zip fs) pre s →
      PySem.wpAt (model pw w) A (.func body (envF fd fa L)) (execs body (envF fd fa L))
        (fun f s' => ∃ g bs' own', St H K L bs' own' s' ∧ R g own' ∧ match f with | .ret v => FIs v g | _ => g = .none) noE s)
    (hbody : fd.body = .stmts body) (hbind : ∀ vals : List Value, vals.length = names.length → bindArgs fd ⟨vals, []⟩ = Pure.pure (names.zip vals))
    (hcode : fd.code = .ref c := by rfl) (hq : vs[1]? = some (.str fd.qualname t) := by rfl) (nds : names.Nodup := by decide +kernel)
    (hloc : ∀ x ∈ names, fd.scope.names.lookup x = some .local := by decide +kernel) (hcell : ∀ x ∈ fd.scope.names, x.2 ≠ .cell := by decide +kernel)
    (hco : fd.scope.isCoroutine = false := by rfl) (hgen : fd.scope.isGenerator = false := by rfl) (hk : fd.scope.kind = .function := by rfl)
    (n1 : fa ≠ 63 ∧ fa ≠ 70 ∧ c ≠ 63 ∧ c ≠ 70 := by decide) : FnO w mg mb (n + 1) (.ref fa) fs pre R := fun A H K L bs rest s vals Q r B S hv q => by
  have B' := B.ext S.keep
  have Bd := B.ext S.dropped
  have ho := B'.k _ _ hK n1.1 n1.2.1
  have hc := B'.k _ _ hC n1.2.2.1 n1.2.2.2
  refine wpAny_call (codeAny_call_function r.limit ho rfl hco hgen hbody ⟨c, _, vs, t, hcode, hc, rfl, hq⟩ ?_)
  rw [hbind vals (by rw [hv.length, hlen])]
  refine wpAny_pure (wpAny_newFunctionEnv hcell (fun x hx => hloc x.1 (List.of_mem_zip (a := x.1) (b := x.2) hx).1) (fun h' hn hs => ?_) hk)
  have k : Ext s.heap h' := fun b o e => hs.extBut b o (Nat.ne_of_lt (Heap.lt_size e)) (Heap.get?_push_of_some _ e)
  refine ⟨B'.nl.keeps k, ks_codeAny_funcAt ?_⟩
  have hn0 := hnt s.heap fun p hp => S.has p (List.mem_append_left _ hp)
  have nd := S.nd
  rw [ads_app, List.nodup_cons, List.nodup_append] at nd
  have S1 : St (dropH s.heap (ads pre)) s.os s.heap.objs.size (names.zip fs) pre { s with heap := h', toks := s.toks + (names.zip vals).length } := by
    refine ⟨⟨S.rest.1, rfl⟩, fun b o e => ?_, ⟨_, hn, fun x f e => by rw [lookup_rev nds]; exact lookup_zip hv x f e⟩, fun p hp => (S.has p (List.mem_append_left _ hp)).ext k, ?_, fun a ha => ?_⟩
    · by_cases hb : b ∈ ads pre
      · rw [dropH_in hb] at e; cases e
      · rw [dropH_out hb] at e; exact k _ _ e
    · rw [List.nodup_cons]
      exact ⟨fun q => absurd (S.lt _ (List.mem_cons_of_mem _ (by rw [ads_app]; exact List.mem_append_left _ q))) (Nat.lt_irrefl _), nd.2.1⟩
    · rcases List.mem_cons.mp ha with rfl | ha
      · by_cases hb : s.heap.objs.size ∈ ads pre
        · exact dropH_in hb
        · rw [dropH_out hb]; exact fresh_size (Ext.refl _)
      · exact dropH_in ha
  refine PySem.wpAt_mono (h _ _ _ _ _ Bd r.deeper S1) (fun f s' x => ?_) fun _ _ x => x.elim
  obtain ⟨g, bs', own', S', hR, hf⟩ := x
  have back := S.back hn0 rfl S'
  cases f <;> first | exact q _ _ _ _ hR hf back | (subst hf; exact q _ _ _ _ hR rfl back)
end
end Mine
end
section
open PySem.Calls
open AutoSeq1 (wpAny_loadPart')
namespace Mine
theorem PL.length {h : Heap} {vs : List Value} {ps} (x : PL h vs ps) : vs.length = ps.length := by induction x <;> simp_all
theorem slot_list_len' : builtinKind "list.__len__" = some .slot := by decide +kernel
theorem nt_acc {x d : Addr} {z : Int} {ps : List (Str × Str)} (h : Heap) (ha : ∀ p ∈ ([(x, .acc d z ps)] : Owns), p.2.At h p.1) : ∀ a ∈ ads [(x, .acc d z ps)], ∀ o, h.get? a = some o → ¬ IsTupO o := by
  obtain ⟨⟨vs, n, e, f⟩, t, o', es, ep, e', hd, _⟩ := ha _ (.head _)
  intro a ha o ho ⟨hc, vs', n', hdt⟩
  simp only [ads, List.flatMap_cons, List.flatMap_nil, Own.ads, List.append_nil, List.mem_cons, List.not_mem_nil, or_false] at ha
  rcases ha with rfl | rfl
  · rw [e] at ho; cases ho; cases hc
  · rw [e'] at ho; cases ho; rw [hd] at hdt; cases hdt
theorem acc_ne {w mg mb h x d vs n} (B : Base w mg mb h) (e : h.get? x = some (accO d vs n)) : x ≠ 101 := by
  rintro rfl
  rw [acc_at B.frag] at e
  cases e
theorem fn_part {w mg mb} (x d : Addr) (z : Int) (ps : List (Str × Str)) : FnO w mg mb 1 (.ref 98) [.ref x] [(x, .acc d z ps)] fun f o => f = .int ps.length ∧ o = [(x, .acc d z ps)] := by
  refine FnO.intro (names := [Str.ofString "self"]) (body := bodyOf (clsSt 8)) (c := 97) (by rfl) (by rfl) rfl nt_acc (fun H K L A s B r S => ?_) (by rfl) (fun vals e => ?_)
  · refine ks_wpAt_execs_cons (ks_wpAt_Return_some ?_)
    obtain ⟨⟨vs, n, e, f⟩, -⟩ := S.has _ (.head _)
    refine sup_call (x := x) (env := envF _ 98 L) (id := "list.__len__") (bt := "method-wrapper") (Bi := Builtin.«list.__len__») B S (by rfl) e (acc_ne (B.ext S.keep) e) (fa := 98) (cc := 97) (by rfl) (by rfl) (by decide) (by rfl) (by rfl) (by rfl) (by rfl) (by rfl) (by rfl) (by rfl) (by rfl) (by rfl) (by rfl) (by rfl) (by rfl) (by decide)
      (by kernel_rfl) (by kernel_rfl) slot_wget entry_wget args_wget (fun X hx q => wget_run X hx rfl (by decide +kernel) q) (.inl rfl) entry_list_len (Code.quiet_builtin _ (by decide +kernel)) ?_ (fun A' s' S' hx' => ?_) ⟨_, rfl⟩
    · intro h X hx
      exact Looks.of_pure (by kernel_rfl)
    · obtain ⟨hh, g, dd, t, os⟩ := s'
      exact acc_len_run hx' ⟨_, rfl, _, _, _, S'.toks _, ⟨rfl, rfl⟩, t, by rw [← f.length]; rfl⟩
  · match vals, e with
    | [v], _ => rfl
theorem acc_method {w : World} {A : Around} {E : Value → Shared → Prop} {s : Shared} {P : Params} {x d : Addr} {items : Array Value} {k : Nat} {z : Int} {name : Str} {f : Value} {T : String} {pl : Sem Bool} {Q : Value × List Value → Shared → Prop}
    (X : (KB P).In s.heap) (hx : s.heap.get? x = some (accO d items k)) (hd : InitD s.heap d z)
    (hf : findIn (KB P) (.ref 101) name = some (some f)) (ht : typeIn (KB P) f = some (.type T)) (hT : T = "function" ∨ T = "method_descriptor") (hn : name ≠ ("_initial_size" : Str)) (h : Q (f, [.ref x]) s) :
    wpAny (model pw w) A (getMethod (.ref x) name pl) Q E s := by
  have hcan : (Manifest.canonical "list.__getattribute__" != "object.__getattribute__") = false := by decide +kernel
  have hga : findIn (KB P) (.ref 101) "__getattribute__" = some (some (.builtin "list.__getattribute__")) := by kernel_rfl
  have hk : findIn (KB P) (.ref 101) "__getattr__" = some none := by kernel_rfl
  have ty : Looks (model pw w) s.heap (typeOf (.ref x)) (.ref 101) := (Looks.ld (part := none) hx).andThen .now
  unfold getMethod specialOf
  refine wpAny_bind (wpAny_bind (ty.here ((looks_findIn X hga).here ?_)))
  dsimp only
  rw [hcan, if_neg (by decide)]
  refine wpAny_bind (wpAny_bind (ty.here ((looks_findIn X hk).here ?_)))
  refine wpAny_bind (wpAny_bind (ty.here ((looks_findIn X hf).here (wpAny_bind ((looks_typeIn X ht).here ?_)))))
  rw [if_neg (by rcases hT with rfl | rfl <;> decide +kernel)]
  refine wpAny_bind (wpAny_loadPart hx ?_)
  obtain ⟨t, hd⟩ := hd
  show wpAny _ _ (nsGet d name >>= _) _ _ _
  refine wpAny_bind (wpAny_nsGet hd ?_)
  rw [if_neg hn]
  exact wpAny_bind (wpAny_rule (wpAny_pure h))
section
variable {w : World} {mg mb : Str → Option Value} {H : Heap} {K : Kn} {n : Nat} {L : Addr} {bs : Bs} {own : Owns} {env : Env}
/-- a call of one of the class's own methods -/
theorem Tv.accCall {o : Expr} {nm : Str} {apos pos : Pos} {args : List Expr} {fa : Addr} {fd : FuncData} {pl : Sem Bool} {R : Fv → Owns → Prop} (BH : Base w mg mb H)
    (hf : findIn (KB w.params) (.ref 101) nm = some (some (.ref fa))) (hK : (KB w.params).lookup fa = some ⟨.type "function", Option.none, .func fd, #[]⟩) (hn : nm ≠ ("_initial_size" : Str))
    (h : Tv w H K n L bs own (eval o env) fun g o₁ => ∃ x d z ps, g = .ref x ∧ (x, .acc d z ps) ∈ o₁ ∧
      Ts w H K n L bs o₁ (spliced (backTo pos (starEach args env))) fun fs o₂ => ∀ vals, FL vals fs → Tv w H K n L bs o₂ (call (.ref fa) (.ref x :: vals)) R)
    (hs : args = [] ∨ ∃ e rest, args = e :: rest ∧ starEach (e :: rest) env = (false, eval e env) :: starEach rest env ∧ (backTo pos (starEach rest env)).any (·.1) = false)
    (he : eval (.Call (.Attribute o nm apos) args [] pos) env = (do
      let ov ← eval o env
      standAt apos.atName
      let (f, first) ← holding [ov] (getMethod ov nm pl)
      callWith pos f first (backTo pos (starEach args env)) []) := by rfl) :
    Tv w H K n L bs own (eval (.Call (.Attribute o nm apos) args [] pos) env) R := fun A s Q r S q => by
  refine MethodCall_ (pl := pl) (h A s _ r S fun v s₁ g o₁ y hv S₁ => ?_) he
  obtain ⟨x, d, z, ps, rfl, hm, y⟩ := y
  obtain rfl := hv
  obtain ⟨⟨vs, k, e, f⟩, hd⟩ := S₁.has _ hm
  have X := (BH.ext S₁.keep).frag
  refine acc_method X e hd hf (T := "function") (by show ((KB w.params).lookup fa).map (·.cls) = _; rw [hK]; rfl) (.inl rfl) hn ?_
  have kp : ∀ h : Heap, h.get? fa = some ⟨.type "function", Option.none, .func fd, #[]⟩ → ∃ k, (k = Keeper.frame ∨ k = Keeper.machine ∨ k = Keeper.boundFrame) ∧ Looks (model pw w) h (keeperOf (.ref fa)) k :=
    fun h z => ⟨_, .inl rfl, (Looks.ld (part := Option.none) z).andThen .now⟩
  have alive : ∀ {o₂ s₂}, St H K L bs o₂ s₂ → s₂.heap.get? fa = some ⟨.type "function", Option.none, .func fd, #[]⟩ := fun S => (BH.ext S.keep).frag _ _ hK
  rcases hs with rfl | ⟨e', rest, rfl, hs, hp⟩
  · refine callWith_of (args := []) (keywords := []) (P := fun h => h.get? fa = some ⟨.type "function", Option.none, .func fd, #[]⟩) rfl kp (evalArgs_nilT (y A _ _ r S₁ fun vs s₂ fs o₂ y hvs S₂ => ?_))
    exact ⟨alive S₂, y vs hvs A s₂ Q r S₂ q⟩
  · have hpl : ((backTo pos (starEach (e' :: rest) env)).any (·.1) || ([] : List (Option Str × Sem Value)).any (·.1.isNone)) = false := by
      rw [hs]; show ((false || (backTo pos (starEach rest env)).any (·.1)) || false) = false; rw [hp]; rfl
    refine callWith_of (keywords := []) (P := fun h => h.get? fa = some ⟨.type "function", Option.none, .func fd, #[]⟩) hpl kp ?_
    rw [hs] at y ⊢
    exact Calls.evalArgs_plain (y A _ _ r S₁ fun vs s₂ fs o₂ y hvs S₂ => ⟨alive S₂, y vs hvs A s₂ Q r S₂ q⟩)
theorem Tv.part {i : Nat} {x d : Addr} {z : Int} {ps : List (Str × Str)} {m : Nat} {R : Fv → Owns → Prop} (BH : Base w mg mb H) (e : own[i]? = some (x, .acc d z ps)) (hm : 1 ≤ m) (h : R (.int ps.length) own) : Tv w H K m L bs own (call (.ref 98) [.ref x]) R := fun A s Q r S q => by
  refine fn_part x d z ps A H K L bs _ s _ Q (r.le hm) BH (S.perm (perm_at e)) (.cons rfl .nil) fun v s' g own' y hv S' => ?_
  obtain ⟨rfl, rfl⟩ := y
  exact q _ _ _ _ h hv (S'.perm (perm_at e).symm)
theorem Tv.tuple {elts : List Expr} {k : Nat} {pos : Pos} {R : Fv → Owns → Prop} (h : Ts w H K n L bs own (spliced (backTo pos (starEach elts env))) fun fs o => fs.length ≤ 1000 ∧ ∀ a, R (.ref a) ((a, .tup fs) :: o)) :
    Tv w H K n L bs own (eval (.Tuple elts k pos) env) R := fun A s Q r S q =>
  wpAny_Tuple (h A s _ r S fun vs s₁ fs o y hvs S₁ => by
    obtain ⟨hl, y⟩ := y
    refine ⟨by rw [hvs.length]; exact Nat.le_trans hl (by decide), q _ _ _ _ (y _) rfl ?_⟩
    exact S₁.push (w := .tup fs) ⟨vs.toArray, Heap.get?_push_size _ rfl, by simpa using hvs⟩)
theorem Tv.list {elts : List Expr} {pos : Pos} {R : Fv → Owns → Prop} (h : Ts w H K n L bs own (spliced (backTo pos (starEach elts env))) fun fs o => fs.length ≤ 1000 ∧ ∀ a, R (.ref a) ((a, .list fs) :: o)) :
    Tv w H K n L bs own (eval (.List elts pos) env) R := fun A s Q r S q =>
  wpAny_List (h A s _ r S fun vs s₁ fs o y hvs S₁ => by
    obtain ⟨hl, y⟩ := y
    refine ⟨by rw [hvs.length]; exact Nat.le_trans hl (by decide), q _ _ _ _ (y _) rfl ?_⟩
    exact S₁.push (w := .list fs) ⟨vs.toArray, 0, Heap.get?_push_size _ rfl, by simpa using hvs⟩)
end
noncomputable def popF (ps : List (Str × Str)) : (Str × Str) × List (Str × Str) := match ps.getLast? with
  | none => (("", ""), [])
  | some p => (p, ps.dropLast)
theorem PL.snoc_inv {h : Heap} {p : Str × Str} : ∀ {ps : List (Str × Str)} {l : List Value}, PL h l (ps ++ [p]) → ∃ vs v, l = vs ++ [v] ∧ PL h vs ps ∧ PairIs h v p
  | [], _, .cons a b => by cases b; exact ⟨[], _, rfl, .nil, a⟩
  | _ :: ps, _, .cons a b => by
    obtain ⟨vs, v, rfl, x, y⟩ := PL.snoc_inv (ps := ps) b
    exact ⟨_ :: vs, v, rfl, .cons a x, y⟩
theorem PL.snoc {h : Heap} {p : Str × Str} {v : Value} {vs ps} (x : PL h vs ps) (y : PairIs h v p) : PL h (vs ++ [v]) (ps ++ [p]) := by
  induction x with
  | nil => exact .cons y .nil
  | cons a _ ih => exact .cons a ih
theorem accO_map {d : Addr} {items : Array Value} {k : Nat} (f : Array Value → Array Value) : ∃ k', (accO d items k).mapSeq f = accO d (f items) k' := ⟨_, rfl⟩
theorem popcheck {P : Params} {M : Model} {h : Heap} {x d items k} (X : (KB P).In h) (hx : h.get? x = some (accO d items k)) : Looks M h (checkBoundCall "list.pop" ⟨[.ref x], []⟩) () := by
  have ty : Looks M h (typeOf (.ref x)) (.ref 101) := (Looks.ld (part := none) hx).andThen .now
  have nm : Looks M h (isSubtype (.ref 101) (.type "module")) false := looks_mroIn X (by kernel_rfl)
  have cd := looks_clsIn (M := M) X acc_cd
  have tt : Looks M h (typeOf (.ref 101)) (.type "type") := looks_typeIn X (by kernel_rfl)
  intro A Q E s k q
  obtain ⟨hh, g, dd, t, os⟩ := s
  have ty := ty.keeps k; have nm := nm.keeps k; have cd := cd.keeps k; have tt := tt.keeps k; have hx := k _ _ hx
  unfold checkBoundCall
  rw [show Manifest.signature? "list.pop" = some ((Manifest.signature? "list.pop").get (by decide +kernel)) from by kernel_rfl, show builtinKind "list.pop" = some .method from by kernel_rfl]
  dsimp only
  unfold isInstance
  repeat (first | (with_reducible refine Looks.at ty ?_) | (with_reducible refine Looks.at nm ?_) | (with_reducible refine Looks.at cd ?_) | (with_reducible refine Looks.at tt ?_) | lk)
  exact q
end Mine
end
section
open PySem.Calls
open AutoSeq1 (wpAny_loadPart')
namespace Mine
theorem at_of {α : Type} {M : Model} {A : Around} {c : Code} {E : Value → Shared → Prop} {s : Shared} {t : Sem α} {Q : α → Shared → Prop} (h : wpAny M A t Q E s) : PySem.wpAt M A c t Q E s := PySem.wpAt_of_wpAny h
noncomputable def funcOf (o : Obj) : FuncData := match o.data with | .func fd => fd | _ => default
theorem popF_nil : popF [] = ((("" : Str), ("" : Str)), []) := rfl
theorem popF_snoc (ps : List (Str × Str)) (p : Str × Str) : popF (ps ++ [p]) = (p, ps) := by simp [popF]
theorem fn_pop {w mg mb} (x d : Addr) (z : Int) (ps : List (Str × Str)) (hps : ps.length ≤ 1000) : FnO w mg mb 2 (.ref 61) [.ref x] [(x, .acc d z ps)] fun f o =>
    ∃ t, f = .ref t ∧ o = [(t, .tup [.str (popF ps).1.1, .str (popF ps).1.2]), (x, .acc d z (popF ps).2)] := by
  refine FnO.intro (names := [Str.ofString "self"]) (body := bodyOf (clsSt 3)) (c := 60) (by rfl) (by rfl) rfl nt_acc (fun H K L A s B r S => ?_) (by rfl) (fun vals e => ?_)
  · refine ks_wpAt_execs_cons (at_of ?_)
    have tst : Tf w H K 1 (envF (funcOf (o61 w.params)) 61 L).locals [(Str.ofString "self", .ref x)] [(x, .acc d z ps)] (exec ((bodyOf (clsSt 3)).getD 0 default) (envF (funcOf (o61 w.params)) 61 L)) fun f bs o =>
        (ps = [] ∧ ∃ t, f = .ret (.ref t) ∧ o = [(t, .tup [.str "", .str ""]), (x, .acc d z [])]) ∨ (ps ≠ [] ∧ f = .next ∧ bs = [(Str.ofString "self", .ref x)] ∧ o = [(x, .acc d z ps)]) := by
      refine Tf.if_ (Tb.compare1 (Tv.accCall (fa := 98) (fd := funcOf (o98 w.params)) B (by kernel_rfl) (by kernel_rfl) (by decide) (Tv.name (by rfl) (by rfl) ⟨x, d, z, ps, rfl, .head _, Ts.nil fun vals hv => ?_⟩) (.inl rfl)))
      cases hv
      refine Tv.part (i := 0) B (by rfl) (Nat.le_refl _) (Tv.int fun v u hv hu => eq_i hv hu ⟨_, rfl, ?_⟩)
      cases ps with
      | nil => exact Tf.cons (Tf.ret (Tv.tuple (Ts.cons (Tv.str (Ts.cons (Tv.str (Ts.nil ⟨by decide, fun a => .inl ⟨rfl, a, rfl, rfl⟩⟩)))))))
      | cons p ps =>
        have : ((((p :: ps).length : Nat) : Int) == 0) = false := by
          rw [beq_eq_false_iff_ne]; simp only [List.length_cons]; omega
        rw [this]
        exact Tf.nil (.inr ⟨by simp, rfl, rfl, rfl⟩)
    refine tst A s _ r S fun v s' f bs' own' hR hf S' => ?_
    rcases hR with ⟨rfl, t, rfl, rfl⟩ | ⟨hne, rfl, rfl, rfl⟩
    · cases v <;> first | exact hf.elim | exact ⟨_, _, _, S', ⟨t, rfl, rfl⟩, hf⟩
    · cases v <;> first | exact hf.elim | skip
      refine ks_wpAt_execs_cons (ks_wpAt_Return_some ?_)
      obtain ⟨⟨vs, k, e, f⟩, hd⟩ := S'.has _ (.head _)
      refine sup_call (x := x) (env := envF (funcOf (o61 w.params)) 61 L) (id := "list.pop") (bt := "builtin_function_or_method") (Bi := Builtin.«list.pop») B S' (by rfl) e (acc_ne (B.ext S'.keep) e) (fa := 61) (cc := 60) (by rfl) (by rfl) (by decide) (by rfl) (by rfl) (by rfl) (by rfl) (by rfl) (by rfl) (by rfl) (by rfl) (by rfl) (by rfl) (by rfl) (by rfl) (by decide)
        (by kernel_rfl) (by kernel_rfl) slot_mget entry_mget args_mget (fun X hx q => mget_run X hx rfl (by decide +kernel) (by decide +kernel) q) (.inr rfl) F.entry_list_pop (Code.quiet_builtin _ (by decide +kernel)) (fun h X hx => popcheck X hx) (fun A' s' S'' hx' => ?_) ⟨_, rfl⟩
      rcases List.eq_nil_or_concat ps with rfl | ⟨qs, p, rfl⟩
      · exact (hne rfl).elim
      rw [List.concat_eq_append] at *
      obtain ⟨us, u, e1, f1, f2⟩ := f.snoc_inv
      have e2 : vs = (us ++ [u]).toArray := by rw [← e1]
      subst e2
      have hl : us.length = qs.length := f1.length
      have hsz : (us ++ [u]).toArray.size = qs.length + 1 := by simp [hl]
      simp only [List.length_append, List.length_singleton] at hps
      obtain ⟨t, rfl, ft⟩ := f2
      have hy : (us ++ [Value.ref t]).toArray[(us ++ [Value.ref t]).toArray.size - 1]? = some (.ref t) := by simp
      have er : ((us ++ [Value.ref t]).toArray.eraseIdxIfInBounds ((us ++ [Value.ref t]).toArray.size - 1)).toList = us := by
        rw [Array.eraseIdxIfInBounds]
        simp [List.eraseIdx_eq_take_drop_succ]
      obtain ⟨hh, g, dd, tk, os⟩ := s'
      refine acc_pop_run hx' hy (by rw [hsz]; have : sizeLine = 2 ^ 24 := rfl; omega) ⟨_, rfl, ?_⟩
      have m : Mut x hh (hh.update x (Obj.mapSeq fun xs => xs.eraseIdxIfInBounds ((us ++ [Value.ref t]).toArray.size - 1))) :=
        ⟨(fun o eo q => by rw [hx'] at eo; cases eo; cases q.1), (Heap.SameBut.update ..).extBut⟩
      obtain ⟨⟨vs', k', e', f'⟩, hd'⟩ := S''.has _ (.head _)
      have e' : hh.get? x = some (accO d vs' k') := e'
      rw [hx'] at e'
      cases e'
      have f' : PL hh (us ++ [Value.ref t]) (qs ++ [p]) := f'
      obtain ⟨us', u', e3, f3, f4⟩ := f'.snoc_inv
      obtain ⟨rfl, e4⟩ := List.append_inj' e3 rfl
      cases e4
      obtain ⟨t', e5, ft'⟩ := f4
      cases e5
      have S3 := S''.mut (i := 0) (a := x) (w := .acc d z (qs ++ [p])) (w' := .acc d z qs) (by rfl) (t := tk) m ⟨⟨_, _, Heap.get?_update_self _ hx' rfl, by
        rw [er]; exact f3.mut m⟩, hd'.mut (fun q => ?_) m⟩ (n2 := rfl)
      · refine ⟨.ref t, _, _, S3.tup (a := t) (fs := [.str p.1, .str p.2]) (ft'.mut m), ⟨t, rfl, ?_⟩, rfl⟩
        rw [popF_snoc]; rfl
      · have nd := S''.nd
        rw [q] at nd
        simp [ads, Own.ads] at nd
  · match vals, e with
    | [v], _ => rfl
section
variable {w : World} {mg mb : Str → Option Value} {H : Heap} {K : Kn} {n : Nat} {L : Addr} {bs : Bs} {own : Owns} {env : Env}
theorem acc_inst {P : Params} {M : Model} {h : Heap} {x d : Addr} {items : Array Value} {k : Nat} (X : (KB P).In h) (hx : h.get? x = some (accO d items k)) : Looks M h (isInstance (.ref x) (.type "list")) true := by
  have ty : Looks M h (typeOf (.ref x)) (.ref 101) := (Looks.ld (part := none) hx).andThen .now
  exact ty.andThen (acc_sub_list X)
theorem Tf.expr {e : Expr} {pos : Pos} {R : Fl → Bs → Owns → Prop} (h : Tv w H K n L bs own (eval e env) fun _ o => R .next bs o)
    (hi : interactive env = false := by rfl) (hs : swapsWith e Option.none pos.line env = Pure.pure false := by rfl) : Tf w H K n L bs own (exec (.Expr e pos) env) R := fun A s Q r S q => by
  rw [exec_Expr env e pos hi hs]
  exact wpAny_bind (wpAny_standAt (wpAny_bind (h A s _ r S fun v s₁ f o y hv S₁ => wpAny_dropValue (q _ _ .next _ _ y trivial S₁))))
theorem call_append {i : Nat} {x d t : Addr} {z : Int} {ps : List (Str × Str)} {a b : Str} {R : Fv → Owns → Prop} (BH : Base w mg mb H) (e : own[i]? = some (x, .acc d z ps)) (hps : ps.length ≤ 1000) (ht : (t, .tup [.str a, .str b]) ∈ own)
    (h : R .none (own.set i (x, .acc d z (ps ++ [(a, b)])))) : Tv w H K n L bs own (call (.builtin "list.append") [.ref x, .ref t]) R := fun A s Q r S q => by
  obtain ⟨⟨vs, k, ex, f⟩, hd⟩ := S.has _ (List.mem_of_getElem? e)
  have tt := S.has _ ht
  have X := (BH.ext S.keep).frag
  refine wpAny_call (codeAny_call_builtin (by decide +kernel) F.entry_list_append (kfo_check (owner := "list") (n := "append") (by decide +kernel) (by decide +kernel) (acc_inst X ex) (F.args_list_append_2 _ _) ?_))
  obtain ⟨hh, g, dd, tk, os⟩ := s
  have hl := f.length
  have hz : vs.size ≤ sizeLine := by
    have : sizeLine = 2 ^ 24 := rfl
    have : vs.size = ps.length := hl
    omega
  have m : Mut x hh (hh.update x (Obj.mapSeq fun xs => xs.push (.ref t))) := ⟨(fun o eo q => by rw [ex] at eo; cases eo; cases q.1), (Heap.SameBut.update ..).extBut⟩
  have nd := S.nd
  have hdx : d ≠ x := by
    rintro rfl
    have e1 := perm_at e
    have e2 : (ads own).Perm (ads ((d, .acc d z ps) :: own.eraseIdx i)) := e1.flatMap_right _
    have := e2.nodup_iff.mp (List.nodup_cons.mp nd).2
    rw [ads_cons] at this
    simp [Own.ads] at this
  refine acc_append_run ex hz ?_
  refine q _ _ _ _ h rfl (S.mut (i := i) (a := x) (w := .acc d z ps) (w' := .acc d z (ps ++ [(a, b)])) e (t := tk) m ⟨⟨_, _, Heap.get?_update_self _ ex rfl, ?_⟩, hd.mut hdx m⟩ (n2 := rfl))
  show PL _ (vs.push _).toList _
  rw [Array.toList_push]
  exact (f.mut m).snoc ⟨t, rfl, (show TupIs hh t _ from tt).mut m⟩
theorem Tv.accAppend {o e : Expr} {apos pos : Pos} {pl : Sem Bool} {R : Fv → Owns → Prop} (BH : Base w mg mb H)
    (h : Tv w H K n L bs own (eval o env) fun g o₁ => ∃ x d z ps, g = .ref x ∧ (x, .acc d z ps) ∈ o₁ ∧ Tv w H K n L bs o₁ (eval e env) fun f o₂ => ∃ t a b i, f = .ref t ∧ o₂[i]? = some (x, .acc d z ps) ∧ ps.length ≤ 1000 ∧
      (t, .tup [.str a, .str b]) ∈ o₂ ∧ R .none (o₂.set i (x, .acc d z (ps ++ [(a, b)]))))
    (hs : starEach [e] env = (false, eval e env) :: starEach [] env := by rfl)
    (he : eval (.Call (.Attribute o "append" apos) [e] [] pos) env = (do
      let ov ← eval o env
      standAt apos.atName
      let (f, first) ← holding [ov] (getMethod ov "append" pl)
      callWith pos f first (backTo pos (starEach [e] env)) []) := by rfl) :
    Tv w H K n L bs own (eval (.Call (.Attribute o "append" apos) [e] [] pos) env) R := fun A s Q r S q => by
  refine MethodCall_ (pl := pl) (h A s _ r S fun v s₁ g o₁ y hv S₁ => ?_) he
  obtain ⟨x, d, z, ps, rfl, hm, y⟩ := y
  obtain rfl := hv
  obtain ⟨⟨vs, k, ex, f⟩, hd⟩ := S₁.has _ hm
  have X := (BH.ext S₁.keep).frag
  refine acc_method X ex hd (f := .builtin "list.append") (T := "method_descriptor") (by kernel_rfl) (by kernel_rfl) (.inr rfl) (by decide) ?_
  refine callWith_method1 ?_ hs
  rw [hs]
  refine Calls.spliced_cons (y A _ _ r S₁ fun u s₂ f o₂ y hu S₂ => Calls.spliced_nil ?_)
  obtain ⟨t, a, b, i, rfl, e1, e2, e3, y⟩ := y
  obtain rfl := hu
  exact call_append BH e1 e2 e3 y A _ _ r S₂ q
theorem fn_push (x d : Addr) (z : Int) (ps : List (Str × Str)) (a b : Str) (hps : ps.length ≤ 1000) : FnO w mg mb 1 (.ref 45) [.ref x, .str a, .str b] [(x, .acc d z ps)] fun f o =>
    f = .none ∧ o = [(x, .acc d z (ps ++ [(a, b)]))] := by
  refine FnO.intro (names := [Str.ofString "self", Str.ofString "fws", Str.ofString "string"]) (body := bodyOf (clsSt 1)) (c := 44) (by rfl) (by rfl) rfl nt_acc (fun H K L A s B r S => ?_) (by rfl) (fun vals e => ?_)
  · refine at_of ?_
    have tst : Tf w H K 0 (envF (funcOf (o45 w.params)) 45 L).locals [(Str.ofString "self", .ref x), (Str.ofString "fws", .str a), (Str.ofString "string", .str b)] [(x, .acc d z ps)] (execs (bodyOf (clsSt 1)) (envF (funcOf (o45 w.params)) 45 L)) fun f bs o =>
        f = .next ∧ ∃ t, o = [t, (x, .acc d z (ps ++ [(a, b)]))] := by
      refine Tf.cons (Tf.expr (Tv.accAppend B (Tv.name (by rfl) (by rfl) ⟨x, d, z, ps, rfl, .head _, Tv.tuple (Ts.cons (Tv.name (by rfl) (by rfl) (Ts.cons (Tv.name (by rfl) (by rfl) (Ts.nil ⟨Nat.le_of_ble_eq_true rfl, fun t =>
        ⟨t, a, b, 1, rfl, by rfl, hps, .head _, Tf.nil ⟨rfl, _, rfl⟩⟩⟩)))))⟩)))
    refine tst A s _ (r.le (Nat.zero_le _)) S fun v s' f bs' own' hR hf S' => ?_
    obtain ⟨rfl, t, rfl⟩ := hR
    cases v <;> first | exact hf.elim | exact ⟨.none, _, _, S'.weak (List.sublist_cons_self _ _), ⟨rfl, rfl⟩, rfl⟩
  · match vals, e with
    | [v, u, y], _ => rfl
theorem Tv.push {i : Nat} {x d : Addr} {z : Int} {ps : List (Str × Str)} {a b : Str} {va vb : Value} {m : Nat} {R : Fv → Owns → Prop} (BH : Base w mg mb H) (ha : FIs va (.str a)) (hb : FIs vb (.str b)) (e : own[i]? = some (x, .acc d z ps)) (hps : ps.length ≤ 1000) (hm : 1 ≤ m)
    (h : R .none (own.set i (x, .acc d z (ps ++ [(a, b)])))) : Tv w H K m L bs own (call (.ref 45) [.ref x, va, vb]) R := fun A s Q r S q => by
  refine fn_push x d z ps a b hps A H K L bs _ s _ Q (r.le hm) BH (S.perm (perm_at e)) (.cons rfl (.cons ha (.cons hb .nil))) fun v s' g own' y hv S' => ?_
  obtain ⟨rfl, rfl⟩ := y
  exact q _ _ _ _ h hv (S'.perm (perm_set e _))
theorem Tv.pop {i : Nat} {x d : Addr} {z : Int} {ps : List (Str × Str)} {m : Nat} {R : Fv → Owns → Prop} (BH : Base w mg mb H) (e : own[i]? = some (x, .acc d z ps)) (hps : ps.length ≤ 1000) (hm : 2 ≤ m)
    (h : ∀ t, R (.ref t) ((t, .tup [.str (popF ps).1.1, .str (popF ps).1.2]) :: own.set i (x, .acc d z (popF ps).2))) : Tv w H K m L bs own (call (.ref 61) [.ref x]) R := fun A s Q r S q => by
  refine fn_pop x d z ps hps A H K L bs _ s _ Q (r.le hm) BH (S.perm (perm_at e)) (.cons rfl .nil) fun v s' g own' y hv S' => ?_
  obtain ⟨t, rfl, rfl⟩ := y
  exact q _ _ _ _ (h t) hv (S'.perm ((perm_set e _).cons _))
end
end Mine
end
section
open PySem.Calls
open AutoSeq1 (wpAny_loadPart')
set_option linter.unusedSimpArgs false
namespace Mine
section
variable {w : World} {A : Around} {P : Params} {R : Result → Shared → Prop} {h : Heap} {g : Array GenState} {d : Drawn} {t : Nat} {os : OsState}
theorem new_acc {rest : List Value} (X : (KB P).In h) (ha : argsOk "list.__new__" ⟨.ref 101 :: rest, []⟩)
    (hq : R (.ok (.ret (.ref (h.objs.size + 1)))) ⟨(h.push emptyDict).push (accO h.objs.size #[] 0), g, d, t, os⟩) :
    codeAny (model pw w) A (.call (.builtin "list.__new__") ⟨.ref 101 :: rest, []⟩) R ⟨h, g, d, t, os⟩ := by
  have hC := acc_at X
  have sub := acc_sub_list (M := model pw w) X
  have base := acc_base (M := model pw w) X
  have made := acc_made (M := model pw w) X
  have typ : Looks (model pw w) h (isType (.ref 101)) true := fun A Q E s k q => by
    obtain ⟨hh, g, d, t, os⟩ := s
    exact ks_wpAny_isType_cls (k _ _ hC) rfl q
  refine codeAny_of_tree ?_
  show wpAny _ A.in1 (do checkBuiltinCall "list.__new__" ⟨.ref 101 :: rest, []⟩; again (.builtin "list.__new__" ⟨.ref 101 :: rest, []⟩)) _ _ _
  refine wpAny_bind ?_
  simp only [checkBuiltinCall, show builtinKind "list.__new__" = some .builtinFn from by decide +kernel, show splitId "list.__new__" = some ("list", "__new__") from by decide +kernel]
  have fin : wpAny (model pw w) A.in1 (again (.builtin "list.__new__" ⟨.ref 101 :: rest, []⟩)) (fun fin s' => match fin with | .done f => R (.ok f) s' | .again c' => c'.quiet = true ∧ codeAny (model pw w) A c' R s') (fun e s' => R (.error e) s') ⟨h, g, d, t, os⟩ := by
    refine wpAny_pure ⟨plainId_quiet F.plain_list_new _, codeAny_builtin_stack F.entry_list_new rfl fun p st => ?_⟩
    rw [Around.under_plainId F.plain_list_new _]
    have hown := owner_list_new
    simp only [hown]
    have hC' := Heap.get?_push_of_some (accO h.objs.size #[] 0) (Heap.get?_push_of_some emptyDict hC)
    repeat (first | (with_reducible refine Looks.at typ ?_) | (with_reducible refine Looks.at sub ?_) | (with_reducible refine Looks.at base ?_) | (with_reducible refine Looks.at made ?_) | (with_reducible refine wpAny_bind ?_) | (with_reducible refine wpAny_pure ?_) | (simp only [bne_self_eq_false, Bool.false_eq_true, if_false, if_true, beq_self_eq_true, Bool.not_true, List.headD_cons]))
    show wpAny _ _ (newDict >>= _) _ _ _
    refine wpAny_bind (wpAny_newObj_type ?_ (by size_fits))
    show wpAny _ _ (newObjAsIs (.ref 101) (Data.seq #[]) (some h.objs.size) >>= _) _ _ _
    unfold newObjAsIs classHasDel
    refine wpAny_bind (wpAny_bind (wpAny_alloc (wpAny_bind (wpAny_bind (wpAny_load (Heap.get?_push_of_some _ (Heap.get?_push_of_some _ hC)) (wpAny_pure ?_))))))
    refine wpAny_pure (wpAny_pure ?_)
    show R _ _
    rw [Heap.size_push]
    exact hq
  cases hsig : Manifest.signature? "list.__new__" with
  | none =>
    repeat (first | (with_reducible refine Looks.at typ ?_) | (with_reducible refine Looks.at sub ?_) | (with_reducible refine Looks.at base ?_) | (with_reducible refine Looks.at made ?_) | (with_reducible refine wpAny_bind ?_) | (with_reducible refine wpAny_pure ?_) | (simp only [bne_self_eq_false, Bool.false_eq_true, if_false, if_true, beq_self_eq_true, Bool.not_true, List.headD_cons]))
    exact fin
  | some sig =>
    simp only [argsOk, hsig] at ha
    have h2 : Bind.checkArgs "list.__new__" sig ⟨.ref 101 :: rest, []⟩ = pure () := ha
    repeat (first | (with_reducible refine Looks.at typ ?_) | (with_reducible refine Looks.at sub ?_) | (with_reducible refine Looks.at base ?_) | (with_reducible refine Looks.at made ?_) | (with_reducible refine wpAny_bind ?_) | (with_reducible refine wpAny_pure ?_) | (simp only [bne_self_eq_false, Bool.false_eq_true, if_false, if_true, beq_self_eq_true, Bool.not_true, List.headD_cons]))
    rw [h2]; exact wpAny_pure fin
theorem make_acc {rest : List Value} (X : (KB P).In h) (ha : argsOk "list.__new__" ⟨.ref 101 :: rest, []⟩)
    (hq : codeAny (model pw w) (A.under (.builtin "type.__call__" ⟨.ref 101 :: rest, []⟩)) (.call (.ref 38) ⟨.ref (h.objs.size + 1) :: rest, []⟩) (InitBack (h.objs.size + 1) R) ⟨(h.push emptyDict).push (accO h.objs.size #[] 0), g, d, t, os⟩) :
    codeAny (model pw w) A (.call (.ref 101) ⟨rest, []⟩) R ⟨h, g, d, t, os⟩ := by
  have hC := acc_at X
  have made := acc_made (M := model pw w) X
  have call := acc_call (M := model pw w) X
  have typ := acc_typ (M := model pw w) X
  refine codeAny_of_tree ?_
  show wpAny _ _ (callAny (.ref 101) _) _ _ _
  refine nd_load hC ?_
  show wpAny _ _ (callAny.viaDunder (.ref 101) _) _ _ _
  unfold callAny.viaDunder
  refine wpAny_bind (call.at ?_)
  dsimp only
  rw [tc_bind]
  refine wpAny_bind (wpAny_pure (wpAny_bind (wpAny_pure ?_)))
  refine wpAny_pure (a := PySem.Fin.again (.call (.builtin "type.__call__") ⟨.ref 101 :: rest, []⟩)) (And.intro rfl ?_)
  refine codeAny_call_builtin_at (Code.quiet_builtin _ (by decide +kernel)) entry_typeCall (check_slot tc_kind tc_split typ (tc_args _ _ _) ?_)
  unfold Builtin.«type.__call__»
  have hm := acc_mro (M := model pw w) X
  have e4 : ([.ref 101, .type "list", .type "object"] : List Value).isEmpty = false := rfl
  repeat (first | simp only [e4, Bool.false_eq_true, if_false] | with_reducible refine wpAny_call ?_ | lk)
  refine new_acc X ha ?_
  have k : ∀ b o, h.get? b = some o → ((h.push emptyDict).push (accO h.objs.size #[] 0)).get? b = some o := fun b o e => Heap.get?_push_of_some _ (Heap.get?_push_of_some _ e)
  have hx : ((h.push emptyDict).push (accO h.objs.size #[] 0)).get? (h.objs.size + 1) = some (accO h.objs.size #[] 0) := by
    have := Heap.get?_push_size (h.push emptyDict) (o := accO h.objs.size #[] 0) rfl
    rwa [Heap.size_push] at this
  have t1 : Looks (model pw w) ((h.push emptyDict).push (accO h.objs.size #[] 0)) (typeOf (.ref (h.objs.size + 1))) (.ref 101) := (Looks.ld (part := none) hx).andThen .now
  have s1 := (acc_sub_self (M := model pw w) X).keeps k
  have i1 := (acc_init (M := model pw w) X).keeps k
  have b1 := (bind_fn (M := model pw w) X (f := 38) (.ref (h.objs.size + 1)) (by kernel_rfl)).keeps k
  unfold isInstance callSpecial? specialOf
  repeat (first | with_reducible refine wpAny_call ?_ | lk)
  refine codeAny_mono hq fun r s' z => ?_
  rcases r with e | (v | _ | _ | _) <;> first | exact z | exact z.elim | skip
  obtain ⟨rfl, z⟩ := z
  exact wpAny_pure (wpAny_pure z)
end
open Builtin.ObjectAttr
noncomputable def fd38 : FuncData := fdOf (clsSt 0) (Str.ofString "_Accumulator.__init__") 3 [((Str.ofString "__class__"), 25)] (.ref 30) (.none) (.str (Str.ofString "cpy313.email.header") 194) (.ref 37) (.ref 31)
section
variable {w : World} {A : Around} {E : Value → Shared → Prop} {P : Params} {h : Heap} {g : Array GenState} {d : Drawn} {t : Nat} {os : OsState} {x dx : Addr} {v : Value} {k : Nat}
theorem bind38_0 {Q : List (Str × Value) → Shared → Prop} (X : (KB P).In h)
  (hq : Q [(Str.ofString "self", .ref x), (Str.ofString "initial_size", .int 0 210)] ⟨h, g, d, t, os⟩) :
  wpAny (model pw w) A (bindArgs fd38 ⟨[.ref x], []⟩) Q E ⟨h, g, d, t, os⟩ := by
  have e30 : h.get? 30 = some (o30 P) := X _ _ (by kernel_rfl)
  unfold bindArgs
  repeat lk
  exact hq
theorem bind38_1 {Q : List (Str × Value) → Shared → Prop} (X : (KB P).In h)
  (hq : Q [(Str.ofString "self", .ref x), (Str.ofString "initial_size", v)] ⟨h, g, d, t, os⟩) :
  wpAny (model pw w) A (bindArgs fd38 ⟨[.ref x, v], []⟩) Q E ⟨h, g, d, t, os⟩ := by
  have e30 : h.get? 30 = some (o30 P) := X _ _ (by kernel_rfl)
  unfold bindArgs
  repeat lk
  exact hq
theorem refuse_list (self : Value) : refuseLoop self "__setattr__" [.ref 101, .type "list", .type "object"] = pure () := by
  rw [refuseLoop_ref]
  have e1 : classOwn (.type "list") "__setattr__" = pure none := by show pure (builtinOwn _ _) = _; rw [builtinOwn_eq_fast]; kernel_rfl
  have e2 : classOwn (.type "object") "__setattr__" = pure (some (.builtin "object.__setattr__")) := by show pure (builtinOwn _ _) = _; rw [builtinOwn_eq_fast]; kernel_rfl
  unfold refuseLoop
  simp only [List.forIn_cons, List.forIn_nil, e1, e2, pure_bind]
  kernel_rfl
theorem acc_setattr {Q : Unit → Shared → Prop} (X : (KB P).In h) (hx : h.get? x = some (accO dx #[] k)) (hd : h.get? dx = some emptyDict) (hne : dx ≠ x)
    (hq : ∀ h' tk', h'.Ns dx (fun y => if y = ("_initial_size" : Str) then some v else none) → Heap.SameBut dx h h' → Q () ⟨h', g, d, tk', os⟩) :
    wpAny (model pw w) A (setAttr (.ref x) "_initial_size" v) Q E ⟨h, g, d, t, os⟩ := by
  have ty : Looks (model pw w) h (typeOf (.ref x)) (.ref 101) := (Looks.ld (part := none) hx).andThen .now
  have sa : Looks (model pw w) h (typeLookup (.ref 101) "__setattr__") (some (.builtin "object.__setattr__")) := looks_findIn X (by kernel_rfl)
  have at_ : Looks (model pw w) h (typeLookup (.ref 101) "_initial_size") none := looks_findIn X (by kernel_rfl)
  have bd : bindSpecial (.builtin "object.__setattr__") (.ref x) = pure (.builtin "object.__setattr__", [.ref x]) := F.store_object.slot.bind _
  have io : Looks (model pw w) h (isInstance (.ref x) (.type "object")) true := ty.andThen (looks_mroIn X (by kernel_rfl))
  have mr := acc_mro (M := model pw w) X
  have run : ∀ t' A' (Q' : PySem.Fin → Shared → Prop), (∀ h' tk', h'.Ns dx (fun y => if y = ("_initial_size" : Str) then some v else none) → Heap.SameBut dx h h' → Q' (.done (.ret .none)) ⟨h', g, d, tk', os⟩) →
      wpAny (model pw w) A' (Builtin.«object.__setattr__» ⟨[.ref x, .str "_initial_size" t, v], []⟩) Q' E ⟨h, g, d, t', os⟩ := by
    intro t' A' Q' hq'
    rw [osa_eq, refuse_eq]
    refine wpAny_bind (wpAny_bind (ty.at (wpAny_bind (mr.at ?_))))
    rw [refuse_list]
    refine wpAny_pure (wpAny_bind (ty.at (wpAny_bind (at_.at ?_))))
    have hC := acc_at X
    iterate 30 (first | (with_reducible refine Looks.at mr ?_) | lk)
    rw [if_neg (by decide)]
    refine wpAny_pure (a := some dx) ?_
    show wpAny _ _ (storeInDict dx (.str _ t) _ v) _ _ _
    unfold storeInDict newKeyGuard
    have hnd : h.Ns dx (fun _ => none) := ⟨_, #[], _, hd, rfl, fun e he => absurd he (by simp), fun _ => rfl⟩
    refine wpAny_bind (wpAny_pure (wpAny_bind (wpAny_nsSet1 (Heap.Ns1.of_empty hnd) fun h' hn' hs => ?_)))
    obtain ⟨oD, esD, epD, hoD, hdD, hcD⟩ := hn'.count (Within.cons ("_initial_size" : Str) v Within.nil)
    refine wpAny_bind (wpAny_lookBehind hoD (by rw [hdD]; exact pastItsLine_dict (Nat.le_trans hcD (by rw [List.length_cons, List.length_nil, sizeLine_eq]; omega))) ?_)
    wp_walk
    obtain ⟨o', es, ep, e1, e2, e3, eu, e4⟩ := hn'
    exact hq' _ _ ⟨o', es, ep, e1, e2, e3, e4⟩ hs
  unfold setAttr callSpecial? specialOf
  repeat (first | (rw [bd]) | (with_reducible refine wpAny_call ?_) | lk)
  have SF := PySem.F.store_object
  refine codeAny_call_builtin SF.slot.plain SF.entry (@check_slot (model pw w) _ _ _ "object.__setattr__" "object" "__setattr__" (.ref x) _ [] _ SF.kind SF.split io (SF.args (.ref x) _ v) ?_)
  refine run _ _ _ fun h' tk' hn hs => ?_
  repeat lk
  exact hq _ _ hn hs
end
theorem tc_weight (rest : List Value) : (Code.builtin "type.__call__" ⟨.ref 101 :: rest, []⟩).weight = 1 := by kernel_rfl
theorem tc_units (rest : List Value) : (Code.builtin "type.__call__" ⟨.ref 101 :: rest, []⟩).cUnits = 1 := by kernel_rfl
theorem Room.tc {n : Nat} {A : Around} {rest : List Value} (r : Room (n + 1) A) : Room n (A.under (.builtin "type.__call__" ⟨.ref 101 :: rest, []⟩)) := by
  refine ⟨r.hd, ?_, ?_⟩
  · have := r.dp; show A.depth + (Code.builtin "type.__call__" ⟨.ref 101 :: rest, []⟩).weight + n ≤ 900; rw [tc_weight]; omega
  · have := r.un; show A.units + (Code.builtin "type.__call__" ⟨.ref 101 :: rest, []⟩).cUnits + 20 * n ≤ 9000; rw [tc_units]; omega
theorem args_ln0 : argsOk "list.__new__" ⟨[.ref 101], []⟩ := by unfold argsOk; kernel_rfl
theorem args_ln1 (v : Value) : argsOk "list.__new__" ⟨[.ref 101, v], []⟩ := by unfold argsOk; kernel_rfl
section
variable {w : World} {mg mb : Str → Option Value} {H : Heap} {K : Kn} {n : Nat} {L : Addr} {bs : Bs} {own : Owns} {env : Env} {A : Around} {s : Shared}
theorem call_make {z : Int} {vals : List Value} {Q : Value → Shared → Prop} (B : Base w mg mb H) (r : Room 2 A) (S : St H K L bs own s) (hv : (vals = [] ∧ z = 0) ∨ ∃ t, vals = [.int z t])
    (q : ∀ s' x d, St H K L bs ((x, .acc d z []) :: own) s' → Q (.ref x) s') : wpAny (model pw w) A (call (.ref 101) vals) Q noE s := by
  obtain ⟨h, g, d, t, os⟩ := s
  have X := (B.ext S.keep).frag
  have ha : argsOk "list.__new__" ⟨.ref 101 :: vals, []⟩ := by rcases hv with ⟨rfl, _⟩ | ⟨t, rfl⟩ <;> first | exact args_ln0 | exact args_ln1 _
  refine wpAny_call (make_acc X ha ?_)
  have k2 : Ext h ((h.push emptyDict).push (accO h.objs.size #[] 0)) := fun b o e => Heap.get?_push_of_some _ (Heap.get?_push_of_some _ e)
  have X2 := ((B.ext S.keep).ext k2).frag
  have B2 := (B.ext S.keep).ext k2
  have hx : ((h.push emptyDict).push (accO h.objs.size #[] 0)).get? (h.objs.size + 1) = some (accO h.objs.size #[] 0) := by
    have := Heap.get?_push_size (h.push emptyDict) (o := accO h.objs.size #[] 0) rfl
    rwa [Heap.size_push] at this
  have hd : ((h.push emptyDict).push (accO h.objs.size #[] 0)).get? h.objs.size = some emptyDict := Heap.get?_push_of_some _ (Heap.get?_push_size _ rfl)
  generalize hh2 : (h.push emptyDict).push (accO h.objs.size #[] 0) = h2 at *
  have hs2 : h2.objs.size = h.objs.size + 2 := by rw [← hh2, Heap.size_push, Heap.size_push]
  have ne2 : h2.objs.size ≠ h.objs.size := by omega
  have ge2 : ¬ h2.objs.size < h.objs.size := by omega
  have rt : Room 1 (A.under (.builtin "type.__call__" ⟨.ref 101 :: vals, []⟩)) := r.tc
  have ho : h2.get? 38 = some (o38 w.params) := B2.k _ _ (by rfl) (by decide) (by decide)
  have hc : h2.get? 37 = some (o37 w.params) := B2.k _ _ (by rfl) (by decide) (by decide)
  refine codeAny_call_function (fd := fd38) (body := bodyOf (clsSt 0)) rt.limit ho rfl rfl rfl rfl ⟨37, _, _, _, rfl, hc, rfl, rfl⟩ ?_
  have bnd : ∀ Q' E', (∀ v t', FIs v (.int z) → Q' [(Str.ofString "self", .ref (h.objs.size + 1)), (Str.ofString "initial_size", v)] ⟨h2, g, d, t', os⟩) →
      wpAny (model pw w) (A.under (.builtin "type.__call__" ⟨.ref 101 :: vals, []⟩)).in1 (bindArgs fd38 ⟨.ref (h.objs.size + 1) :: vals, []⟩) Q' E' ⟨h2, g, d, t, os⟩ := by
    intro Q' E' hq
    rcases hv with ⟨rfl, rfl⟩ | ⟨t', rfl⟩
    · exact bind38_0 X2 (hq _ _ ⟨_, rfl⟩)
    · exact bind38_1 X2 (hq _ _ ⟨_, rfl⟩)
  refine bnd _ _ fun v t' hfv => wpAny_newFunctionEnv (by decide +kernel) (by
    intro y hy
    simp only [List.mem_cons, List.not_mem_nil, or_false] at hy
    rcases hy with rfl | rfl
    · show List.lookup (Str.ofString "self") fd38.scope.names = _; decide +kernel
    · show List.lookup (Str.ofString "initial_size") fd38.scope.names = _; decide +kernel) (fun h3 hn hs => ?_) rfl
  have k3 : Ext h2 h3 := fun b o e => hs.extBut b o (Nat.ne_of_lt (Heap.lt_size e)) (Heap.get?_push_of_some _ e)
  have B3 := B2.ext k3
  refine ⟨B3.nl, ks_codeAny_funcAt ?_⟩
  have e1 : ((Str.ofString "self", Value.ref (h.objs.size + 1)) :: [(Str.ofString "initial_size", v)]).reverse.lookup (Str.ofString "initial_size") = some v := by rfl
  have e2 : ((Str.ofString "self", Value.ref (h.objs.size + 1)) :: [(Str.ofString "initial_size", v)]).reverse.lookup (Str.ofString "self") = some (.ref (h.objs.size + 1)) := by rfl
  refine ks_wpAt_execs_cons (ks_wpAt_Assign_Attr (at_of (wpAny_Name (wpAny_loadName_local rfl (by rfl) hn e1 (wpAny_Name (wpAny_loadName_local rfl (by rfl) hn e2 ?_)))))) 
  refine acc_setattr B3.frag (k3 _ _ hx) (k3 _ _ hd) (Nat.ne_of_lt (Nat.lt_succ_self _)) fun h4 tk hn4 hs4 => ?_
  have hx4 : h4.get? (h.objs.size + 1) = some (accO h.objs.size #[] 0) := (hs4.2 _ (Nat.succ_ne_self _)).trans (k3 _ _ hx)
  have kb : Ext h h4 := fun b o e => (hs4.2 b (Nat.ne_of_lt (Heap.lt_size e))).trans (k3 _ _ (k2 _ _ e))
  obtain ⟨od, esd, epd, hd4, hdd, hdk, hdl⟩ := hn4
  have S4 : St h os h2.objs.size [(Str.ofString "self", .ref (h.objs.size + 1))] [(h.objs.size, .raw (· = od))] ⟨h4, g, d, tk, os⟩ := by
    refine ⟨⟨S.rest.1, rfl⟩, kb, ⟨_, hn.extBut hs4.extBut ne2, fun y f e => ?_⟩, fun p hp => ?_, ?_, fun a ha => ?_⟩
    · simp only [List.lookup] at e
      split at e
      · rename_i q; cases e; rw [eq_of_beq q]; exact ⟨_, e2, rfl⟩
      · cases e
    · obtain rfl := List.mem_singleton.mp hp
      exact ⟨od, hd4, rfl⟩
    · simp [ads, Own.ads]; exact ne2
    · simp only [ads, Own.ads, List.flatMap_cons, List.flatMap_nil, List.append_nil, List.mem_cons, List.not_mem_nil, or_false] at ha
      cases e : h.get? a with
      | none => rfl
      | some o =>
        have := Heap.lt_size e
        rcases ha with rfl | rfl
        · exact absurd this ge2
        · exact absurd this (Nat.lt_irrefl _)
  refine ks_wpAt_execs_cons (ks_wpAt_Expr_any ?_)
  refine PySem.wpAt_mono (E := noE) ?_ (fun _ _ z => z) (fun _ _ z => z.elim)
  show PySem.wpAt _ _ (.func _ (envF fd38 38 h2.objs.size)) (eval _ (envF fd38 38 h2.objs.size)) _ _ _
  refine sup_call (x := h.objs.size + 1) (nm := Str.ofString "__init__") (env := envF fd38 38 h2.objs.size) (id := "list.__init__") (bt := "method-wrapper") (Bi := Builtin.«list.__init__») (B.ext S.keep) S4 (by rfl) hx4 (acc_ne ((B.ext S.keep).ext kb) hx4) (fa := 38) (cc := 37) (by rfl) (by rfl) (by decide) (by rfl) (by rfl) (by rfl) (by rfl) (by rfl) (by rfl) (by rfl) (by rfl) (by rfl) (by rfl) (by rfl) (by rfl) (by decide)
    (by kernel_rfl) (by kernel_rfl) slot_wget entry_wget args_wget (fun X hx q => wget_run X hx rfl (by decide +kernel) q) (.inl rfl) F.entry_list_init (Code.quiet_builtin _ (by decide +kernel)) (fun h X hx => Looks.of_pure (by kernel_rfl)) (fun A' s' S' hx' => ?_) ⟨_, rfl⟩
  obtain ⟨h5, g5, d5, t5, os5⟩ := s'
  refine acc_init_run hx' ⟨_, rfl, ?_⟩
  refine wpAt_of_wpAny (wpAny_execs_nil ?_)
  obtain ⟨o5, hd5, rfl⟩ := S'.has _ (.head _)
  obtain ⟨z', rfl⟩ := hfv
  refine ⟨rfl, q _ _ h.objs.size ?_⟩
  have up : ∀ b o, b ≠ h.objs.size + 1 → h5.get? b = some o → (h5.update (h.objs.size + 1) (Obj.mapSeq fun _ => #[])).get? b = some o := fun b o nb e => (Heap.get?_update_other _ _ (Ne.symm nb)).trans e
  refine S.new S'.rest.1 S'.rest.2 (fun b o e => up b o (fun q => absurd (Heap.lt_size e) (by rw [q]; exact Nat.not_lt_of_le (Nat.le_succ _))) (S'.keep _ _ e)) (by simp [Own.ads]) (by simp [Own.ads]) ⟨⟨_, _, Heap.get?_update_self _ hx' rfl, .nil⟩, z', o5, esd, epd, up _ _ (Nat.ne_of_lt (Nat.lt_succ_self _)) hd5, hdd, hdk, hdl⟩
end
end Mine
end
section
open PySem.Calls
open AutoSeq1 (wpAny_loadPart')
namespace Mine
/-- names that say less -/
inductive BSub : Bs → Bs → Prop
  | nil {b} : BSub [] b
  | cons {x f r b} (h : b.lookup x = some f) (t : BSub r b) : BSub ((x, f) :: r) b
theorem BSub.get {a b : Bs} (h : BSub a b) : ∀ x f, a.lookup x = some f → b.lookup x = some f := by
  induction h with
  | nil => intro x f e; cases e
  | cons h _ ih =>
    intro y g e
    simp only [List.lookup] at e
    split at e
    · rename_i q; cases e; rw [eq_of_beq q]; exact h
    · exact ih y g e
/-- owned things that say less -/
noncomputable def Sub (a b : Owns) : Prop := ∃ c, b.Perm (a ++ c)
theorem Sub.refl {a : Owns} : Sub a a := ⟨[], by simp⟩
theorem Sub.nil {a : Owns} : Sub [] a := ⟨a, by simp⟩
theorem Sub.skip {a b : Owns} {x} (h : Sub a b) : Sub a (x :: b) := let ⟨c, p⟩ := h; ⟨x :: c, (p.cons x).trans List.perm_middle.symm⟩
theorem Sub.keep {a b : Owns} {x} (h : Sub a b) : Sub (x :: a) (x :: b) := let ⟨c, p⟩ := h; ⟨c, p.cons x⟩
theorem Sub.perm {a a' b : Owns} (h : Sub a b) (p : a.Perm a') : Sub a' b := let ⟨c, q⟩ := h; ⟨c, q.trans (p.append_right c)⟩
section
variable (w : World) (H : Heap) (K : Kn)
/-- an iterator that goes through N things; its k: its own objects ahead of the k-th -/
structure Iter (tgt : Expr) (it : Addr) (N : Nat) (its : Nat → Owns) (Sd : Owns → Prop) (item : Nat → Fv → Owns → Prop) : Prop where
  next : ∀ k L bs rest A s (Q : Value → Shared → Prop), k < N → A.handled = none → St H K L bs (its k ++ rest) s → Sd rest →
    (∀ v s' f ex, item k f ex → FIs v f → St H K L bs (ex ++ (its (k + 1) ++ rest)) s' → Q v s') →
    wpAny (model pw w) A (pyNext (.ref it)) (fun r s₁ => match r with | some v => wpAny (model pw w) A (letOwnedTupleGo tgt (.ref it) v) (fun _ s₂ => Q v s₂) noE s₁ | none => False) noE s
  done : ∀ L bs rest A s (Q : Shared → Prop), A.handled = none → St H K L bs (its N ++ rest) s → Sd rest → (∀ s', St H K L bs rest s' → Q s') →
    wpAny (model pw w) A (pyNext (.ref it)) (fun r s₁ => r = none ∧ Q s₁) noE s
  self : ∀ L bs rest A s (Q : Value → Shared → Prop), St H K L bs (its 0 ++ rest) s → Q (.ref it) s → wpAny (model pw w) A (pyIter (.ref it)) Q noE s
end
section
variable {w : World} {mg mb : Str → Option Value} {H : Heap} {K : Kn} {n : Nat} {L : Addr} {bs : Bs} {own : Owns} {env : Env}
theorem St.sub {s : Shared} (S : St H K L bs own s) {own' : Owns} (h : Sub own' own) : St H K L bs own' s := by
  obtain ⟨c, p⟩ := h
  exact (S.perm p).weak (List.sublist_append_left ..)
/-- what a turn of a loop hands on -/
noncomputable def Turn (J : Bs → Owns → Prop) (its : Owns) (bs : Bs) (own : Owns) : Prop := ∃ bs' rest, J bs' rest ∧ BSub bs' bs ∧ Sub (its ++ rest) own
theorem Tu.name {x : Str} {v : Value} {f : Fv} {pos : Pos} {R : Bs → Owns → Prop} (hl : env.kindOf x = some .local) (hv : FIs v f) (h : R (setB x f bs) own)
    (hp : (env.scope.kind == .class || (env.scope.kind == .module && env.locals != env.globals)) = false := by rfl) : Tu w H K n env.locals bs own (assign (.Name x pos) env v) R := fun A s Q r S q =>
  wpAny_assign_Name (store_local hl S hv (fun s' S' => q s' _ _ h S') hp)
theorem Tf.for_ {tgt iter : Expr} {body orelse : List Stmt} {pos : Pos} {R : Fl → Bs → Owns → Prop}
    (h : Tv w H K n L bs own (eval iter env) fun f o₁ => ∀ v, FIs v f → Tv w H K n L bs o₁ (pyIter v) fun g o₂ => ∃ it N its Sd item rest, ∃ J : Nat → Bs → Owns → Prop, g = .ref it ∧ o₂ = its 0 ++ rest ∧
      Iter w H K tgt it N its Sd item ∧ J 0 bs rest ∧ (∀ k b r, J k b r → Sd r) ∧
      (∀ k b r v f ex, k < N → J k b r → item k f ex → FIs v f → Tu w H K n L b (ex ++ (its (k + 1) ++ r)) (PySem.assign tgt env v) fun b₂ o₂ => Tf w H K n L b₂ o₂ (execs body env) fun fl b₃ o₃ => match fl with
        | .next | .cont => Turn (J (k + 1)) (its (k + 1)) b₃ o₃
        | .brk => False
        | .ret g => R (.ret g) b₃ o₃) ∧
      (∀ b r, J N b r → Tf w H K n L b r (execs orelse env) R))
    (hs : ∀ x, foldedSetIterable iter env x = Pure.pure x := by intro _; rfl) : Tf w H K n L bs own (exec (.For tgt iter body orelse pos) env) R := fun A s Q r S q => by
  refine wpAny_For (h A s _ r S fun v s₁ f o₁ y hv S₁ => y v hv A s₁ _ r S₁ fun u s₂ g o₂ z hu S₂ => ?_) hs
  obtain ⟨it, N, its, Sd, item, rest, J, rfl, rfl, I, h0, hSd, turn, fin⟩ := z
  obtain rfl := hu
  refine codeAny_forLoop_any (I := fun m s => ∃ k b r', k ≤ N ∧ m = N - k ∧ J k b r' ∧ St H K L b (its k ++ r') s) (fun m s' hI => ?_) N ⟨0, bs, rest, Nat.zero_le _, rfl, h0, S₂⟩
  obtain ⟨k, b, r', hk, rfl, hJ, S'⟩ := hI
  have r0 : Room n (A.mark none) := r.mark
  rcases Nat.lt_or_eq_of_le hk with hk | rfl
  · let Q2 : Flow → Shared → Prop := fun fl s₅ => match fl with
        | .next | .cont => ∃ m', m' < N - k ∧ ∃ k' b r', k' ≤ N ∧ m' = N - k' ∧ J k' b r' ∧ St H K L b (its k' ++ r') s₅
        | .brk => Q .next s₅
        | .ret v => Q (.ret v) s₅
    let Q1 : Value → Shared → Prop := fun v s₃ => wpAny (model pw w) (A.mark none) (PySem.assign tgt env v) (fun _ s₄ => wpAny (model pw w) (A.mark none) (execs body env) Q2 noE s₄) noE s₃
    refine wpAny_mono (I.next k L b r' _ s' Q1 hk r0.hd S' (hSd _ _ _ hJ) fun v s₃ f ex hi hv S₃ => turn k b r' v f ex hk hJ hi hv _ s₃ _ r0 S₃ fun s₄ b₂ o₂ y S₄ => y _ s₄ _ r0 S₄ fun fl s₅ f b₃ o₃ y hf S₅ => ?_) (fun rr s₁ z => ?_) fun _ _ z => z.elim
    · have go : Turn (J (k + 1)) (its (k + 1)) b₃ o₃ → ∃ m', m' < N - k ∧ ∃ k' b r', k' ≤ N ∧ m' = N - k' ∧ J k' b r' ∧ St H K L b (its k' ++ r') s₅ := fun ⟨b', r₂, hJ', hb, hr⟩ =>
        ⟨N - (k + 1), by omega, k + 1, b', r₂, hk, rfl, hJ', (S₅.names hb.get).sub hr⟩
      cases fl <;> cases f <;> first | exact hf.elim | exact go y | exact y.elim | exact q _ _ _ _ _ y hf S₅
    · cases rr with
      | none => exact z.elim
      | some v => exact wpAny_mono z (fun _ s₄ z => wpAny_mono z (fun _ s₅ z => wpAny_mono z (fun fl s₆ z => by cases fl <;> exact z) fun _ _ z => z.elim) fun _ _ z => z.elim) fun _ _ z => z.elim
  · refine wpAny_mono (I.done L b r' _ s' (fun s₃ => wpAny (model pw w) _ (execs orelse env) (fun f s₄ => Q f s₄) noE s₃) r0.hd S' (hSd _ _ _ hJ) fun s₃ S₃ => fin b r' hJ _ s₃ _ r0 S₃ q) (fun rr s₁ z => ?_) fun _ _ z => z.elim
    obtain ⟨rfl, z⟩ := z
    exact wpAny_mono z (fun _ _ z => z) fun _ _ z => z.elim
theorem Tf.while_ {test : Expr} {body orelse : List Stmt} {pos : Pos} {R : Fl → Bs → Owns → Prop} (J : Nat → Bs → Owns → Prop) (m : Nat) (h0 : J m bs own)
    (turn : ∀ m b o, J m b o → Tb w H K n L b o (isTrue test env (eval test env)) fun t o₂ => match t with
      | true => Tf w H K n L b o₂ (execs body env) fun fl b₃ o₃ => match fl with
        | .next | .cont => ∃ m', m' < m ∧ Turn (J m') [] b₃ o₃
        | .brk => R .next b₃ o₃
        | .ret g => R (.ret g) b₃ o₃
      | false => Tf w H K n L b o₂ (execs orelse env) R) : Tf w H K n L bs own (exec (.While test body orelse pos) env) R := fun A s Q r S q => by
  refine wpAny_While (codeAny_whileLoop (I := fun m s => ∃ b o, J m b o ∧ St H K L b o s) (fun m s' hI => ?_) m ⟨bs, own, h0, S⟩)
  obtain ⟨b, o, hJ, S'⟩ := hI
  refine wpAny_mono (turn m b o hJ A s' _ r S' fun t s₂ o₂ y S₂ => ?_) (fun _ _ z => z) fun _ _ z => z.elim
  cases t with
  | true =>
    refine wpAny_mono (y A s₂ _ r S₂ fun fl s₅ f b₃ o₃ y hf S₅ => ?_) (fun _ _ z => z) fun _ _ z => z.elim
    have go : (∃ m', m' < m ∧ Turn (J m') [] b₃ o₃) → ∃ m', m' < m ∧ ∃ b o, J m' b o ∧ St H K L b o s₅ := fun ⟨m', hm, b', r₂, hJ', hb, hr⟩ =>
      ⟨m', hm, b', r₂, hJ', (S₅.names hb.get).sub hr⟩
    cases fl <;> cases f <;> first | exact hf.elim | exact go y | exact q _ _ _ _ _ y trivial S₅ | exact q _ _ _ _ _ y hf S₅
  | false => exact wpAny_mono (y A s₂ _ r S₂ q) (fun _ _ z => z) fun _ _ z => z.elim
end
end Mine
end
section
open PySem.Calls
open AutoSeq1 (wpAny_loadPart')
namespace Mine
/-- a text, by its signs -/
noncomputable def T (l : List Nat) : Str := ⟨l.toArray⟩
theorem T_len (l : List Nat) : (T l).length = l.length := by simp [T, Str.length]
theorem T_app (a b : List Nat) : T a ++ T b = T (a ++ b) := by
  show (⟨a.toArray ++ b.toArray⟩ : Str) = _
  simp [T]
theorem T_inj {a b : List Nat} (h : T a = T b) : a = b := by
  have := congrArg (fun s : Str => s.cps.toList) h
  simpa [T] using this
theorem T_of (s : Str) : s = T s.cps.toList := by cases s; simp [T]
noncomputable def StrIt (x : Str) (k : Nat) (o : Obj) : Prop := ∃ t, o.cls = .type (strIterType x) ∧ o.data = .fields #[.str x t, .int k 0]
noncomputable def ListIt (l : Addr) (k : Nat) (o : Obj) : Prop := o.cls = .type "list_iterator" ∧ o.data = .fields #[.ref l, .int k 0]
noncomputable def RangeIt (k N : Nat) (o : Obj) : Prop := o = { cls := .type "range_iterator", dict := none, data := .fields #[rawInt k, rawInt ((N : Int) - k), rawInt 1], slots := #[] }
/-- what the heap bears, from of old or as owned -/
noncomputable def Hs (H : Heap) (own : Owns) (a : Addr) (w : Own) : Prop := w.At H a ∨ (a, w) ∈ own
section
variable {w : World} {mg mb : Str → Option Value} {H : Heap} {K : Kn} {n : Nat} {L : Addr} {bs : Bs} {own : Owns} {env : Env}
theorem St.look {s : Shared} {a : Addr} {w : Own} (S : St H K L bs own s) (h : Hs H own a w) : w.At s.heap a := h.elim (fun h => h.ext S.keep) (fun h => S.has _ h)
/-- one owned thing turns that is no tuple and no one's pair -/
theorem St.turn {s : Shared} {a : Addr} {P P' : Obj → Prop} {rest : Owns} (S : St H K L bs ((a, .raw P) :: rest) s) {h' : Heap} {t : Nat} (hs : Heap.ExtBut a s.heap h') (ho : ∃ o, h'.get? a = some o ∧ P' o)
    (hP : ∀ o, P o → ¬ IsTupO o) : St H K L bs ((a, .raw P') :: rest) { s with heap := h', toks := t } := by
  have m : Mut a s.heap h' := ⟨fun o e => by
    obtain ⟨o', e', p⟩ := S.has _ (.head _)
    have e' : s.heap.get? a = some o' := e'
    rw [e] at e'; cases e'; exact hP _ p, hs⟩
  exact S.mut (i := 0) (a := a) (w := .raw P) (w' := .raw P') rfl m ho (n2 := rfl)
theorem St.off {s : Shared} {a : Addr} {P : Obj → Prop} {rest : Owns} (S : St H K L bs ((a, .raw P) :: rest) s) {h' : Heap} (hs : Heap.ExtBut a s.heap h')
    (hP : ∀ o, P o → ¬ IsTupO o) : St H K L bs rest { s with heap := h' } := by
  have nd := S.nd
  rw [ads_cons] at nd
  have nd1 : L ≠ a ∧ a ∉ ads rest := by
    rw [List.nodup_cons] at nd
    refine ⟨fun q => nd.1 (by rw [q]; exact List.mem_append_left _ (.head _)), fun q => ?_⟩
    exact (List.nodup_append.mp nd.2).2.2 a (.head _) a q rfl
  have m : Mut a s.heap h' := ⟨fun o e => by
    obtain ⟨o', e', p⟩ := S.has _ (.head _)
    have e' : s.heap.get? a = some o' := e'
    rw [e] at e'; cases e'; exact hP _ p, hs⟩
  refine ⟨S.rest, fun b o e => hs b o ?_ (S.keep b o e), S.loc.mut nd1.1 m, fun p hp => (S.has p (.tail _ hp)).mut (fun q => nd1.2 (ads_mem hp q)) m, ?_, fun b hb => S.fresh b ?_⟩
  · rintro rfl
    rw [S.fresh b (by rw [ads_cons]; exact List.mem_cons_of_mem _ (List.mem_append_left _ (.head _)))] at e; cases e
  · rw [List.nodup_cons] at nd ⊢
    exact ⟨fun q => nd.1 (List.mem_append_right _ q), (List.nodup_append.mp nd.2).2.1⟩
  · rw [ads_cons]
    rcases List.mem_cons.mp hb with rfl | hb
    · exact .head _
    · exact List.mem_cons_of_mem _ (List.mem_append_right _ hb)
theorem nt_str {x : Str} {k : Nat} : ∀ o, StrIt x k o → ¬ IsTupO o := fun o ⟨t, hc, hd⟩ ⟨_, vs, n, hd'⟩ => by rw [hd] at hd'; cases hd'
theorem nt_list {l : Addr} {k : Nat} : ∀ o, ListIt l k o → ¬ IsTupO o := fun o ⟨hc, hd⟩ ⟨_, vs, n, hd'⟩ => by rw [hd] at hd'; cases hd'
theorem nt_range {k N : Nat} : ∀ o, RangeIt k N o → ¬ IsTupO o := fun o h ⟨_, vs, n, hd'⟩ => by rw [h] at hd'; cases hd'
theorem iter_str {tgt : Expr} {it : Addr} (x : List Nat) (hgo : ∀ v, letOwnedTupleGo tgt (.ref it) v = Pure.pure ()) :
    Iter w H K tgt it x.length (fun k => [(it, .raw (StrIt (T x) k))]) (fun _ => True) (fun k f ex => ∃ c, x[k]? = some c ∧ f = .str (T [c]) ∧ ex = []) where
  next := fun k L bs rest A s Q hk hh S _ q => by
    obtain ⟨o, e, t, hc, hd⟩ := S.has _ (.head _)
    have hx : (T x).cps[k]? = some x[k] := by simp [T, hk]
    have hx' : x[k]? = some x[k] := by simp [hk]
    cases ha : (T x).cps.all (· < 128) with
    | true =>
      have st : strIterType (T x) = "str_ascii_iterator" := by simp [strIterType, ha]
      rw [st] at hc
      refine wpAny_pyNext_ascii_item ⟨o, e, hc, hd⟩ hx fun h' hit hs => ?_
      obtain ⟨o', e', hc', hd'⟩ := hit
      refine wpAny_of_eq (hgo _) (q _ _ _ [] ⟨_, hx', rfl, rfl⟩ ⟨_, rfl⟩ (S.turn hs.extBut ⟨o', e', t, by rw [st]; exact hc', hd'⟩ nt_str))
    | false =>
      have st : strIterType (T x) = "str_iterator" := by simp [strIterType, ha]
      rw [st] at hc
      refine wpAny_pyNext_wide_item ⟨o, e, hc, hd⟩ hx fun h' hit hs => ?_
      obtain ⟨o', e', hc', hd'⟩ := hit
      refine wpAny_of_eq (hgo _) (q _ _ _ [] ⟨_, hx', rfl, rfl⟩ ⟨_, rfl⟩ (S.turn hs.extBut ⟨o', e', t, by rw [st]; exact hc', hd'⟩ nt_str))
  done := fun L bs rest A s Q hh S _ q => by
    obtain ⟨o, e, t, hc, hd⟩ := S.has _ (.head _)
    have hx : (T x).cps[x.length]? = none := by simp [T]
    cases ha : (T x).cps.all (· < 128) with
    | true =>
      have st : strIterType (T x) = "str_ascii_iterator" := by simp [strIterType, ha]
      rw [st] at hc
      exact wpAny_pyNext_ascii_end hh ⟨o, e, hc, hd⟩ hx fun h' hs => ⟨rfl, q _ (S.off hs (hP := nt_str))⟩
    | false =>
      have st : strIterType (T x) = "str_iterator" := by simp [strIterType, ha]
      rw [st] at hc
      exact wpAny_pyNext_wide_end hh ⟨o, e, hc, hd⟩ hx fun h' hs => ⟨rfl, q _ (S.off hs (hP := nt_str))⟩
  self := fun L bs rest A s Q S q => by
    obtain ⟨o, e, t, hc, hd⟩ := S.has _ (.head _)
    cases ha : (T x).cps.all (· < 128) with
    | true => exact wpAny_pyIter_striter_ascii (t := t) (i := 0) ⟨o, e, by rw [hc]; simp [strIterType, ha], hd⟩ q
    | false => exact wpAny_pyIter_striter_wide (t := t) (i := 0) ⟨o, e, by rw [hc]; simp [strIterType, ha], hd⟩ q
theorem seq_next {prog : Program} {A : Around} {E : Value → Shared → Prop} {s : Shared} {it l : Addr} {i : Nat} {ol : Obj} {items : Array Value} {nl : Nat} {x : Value} {Q : Option Value → Shared → Prop} (hit : s.heap.IsListIter it l i)
    (hol : s.heap.get? l = some ol) (hdl : ol.data = .seq items nl) (hx : items[i]? = some x) (hQ : ∀ h', h'.IsListIter it l (i + 1) → Heap.SameBut it s.heap h' → Q (some x) { s with heap := h' }) :
    wpAny (model prog w) A (pyNext (.ref it)) Q E s := by
  obtain ⟨o, ho, hc, hd⟩ := id hit
  unfold pyNext
  refine wpAny_bind (wpAny_attempt (wpAny_callSpecial?_slot (name := Str.ofString "__next__") hit.typeIs slot_listiter_next (wpAny_call_entry slot_listiter_next hit.typeIs entry_listiter_next ?_ (args_listiter_next _))))
  show wpAny _ _ (field (.ref it) 0 >>= _) _ _ s
  refine wpAny_bind (wpAny_field ho hd (x := .ref l) rfl ?_)
  show wpAny _ _ (if (Value.ref l == Value.none) = true then _ else _) _ _ s
  rw [if_neg (by exact Bool.false_ne_true)]
  show wpAny _ _ (field (.ref it) 1 >>= _) _ _ s
  refine wpAny_bind (wpAny_field ho hd (x := .int i 0) rfl ?_)
  show wpAny _ _ (seqItems? (.ref l) >>= _) _ _ s
  refine wpAny_bind (wpAny_seqItems hol hdl ?_)
  simp only [Int.toNat_natCast, hx]
  refine wpAny_bind (wpAny_setField ho hd (by simp) (wpAny_pure ⟨x, rfl, wpAny_pure (hQ _ ⟨_, Heap.get?_update_self _ ho (Obj.isFreed_of_fields (Obj.data_mapFields hd _)), (Obj.cls_mapFields ..).trans hc, ?_⟩ (Heap.SameBut.update ..))⟩))
  rw [Obj.data_mapFields hd]; simp [rawInt]
theorem seq_end {prog : Program} {A : Around} {E : Value → Shared → Prop} {s : Shared} {it l : Addr} {i : Nat} {ol : Obj} {items : Array Value} {nl : Nat} {Q : Option Value → Shared → Prop} (hh : A.handled = none) (hit : s.heap.IsListIter it l i)
    (hol : s.heap.get? l = some ol) (hdl : ol.data = .seq items nl) (hx : items[i]? = none) (hQ : ∀ h', Heap.ExtBut it s.heap h' → Q none { s with heap := h' }) :
    wpAny (model prog w) A (pyNext (.ref it)) Q E s := by
  obtain ⟨o, ho, hc, hd⟩ := id hit
  unfold pyNext
  refine wpAny_bind (wpAny_attempt (wpAny_callSpecial?_slot (name := Str.ofString "__next__") hit.typeIs slot_listiter_next (wpAny_call_entry slot_listiter_next hit.typeIs entry_listiter_next ?_ (args_listiter_next _))))
  show wpAny _ _ (field (.ref it) 0 >>= _) _ _ s
  refine wpAny_bind (wpAny_field ho hd (x := .ref l) rfl ?_)
  show wpAny _ _ (if (Value.ref l == Value.none) = true then _ else _) _ _ s
  rw [if_neg (by exact Bool.false_ne_true)]
  show wpAny _ _ (field (.ref it) 1 >>= _) _ _ s
  refine wpAny_bind (wpAny_field ho hd (x := .int i 0) rfl ?_)
  show wpAny _ _ (seqItems? (.ref l) >>= _) _ _ s
  refine wpAny_bind (wpAny_seqItems hol hdl ?_)
  simp only [Int.toNat_natCast, hx]
  refine wpAny_bind (wpAny_rule (wpAny_bind (wpAny_setField ho hd (by simp) ?_)))
  show wpAny _ _ (newExc (.type "StopIteration") [] >>= _) _ _ _
  refine wpAny_bind ?_
  simp only [newExc, newTuple]
  refine wpAny_bind (wpAny_newObj_type ?_ (by size_fits))
  refine wpAny_bind (m := firstArgMember _ _) (wpAny_of_eq (a := Value.none) rfl ?_)
  refine wpAny_newObj_type ?_ (by size_fits)
  simp only [raiseNew]
  refine wpAny_bind (wpAny_handled ?_)
  rw [show A.in1.handled = none from hh]
  refine wpAny_bind (wpAny_pure (wpAny_throw ?_))
  refine wpAny_bind (wpAny_isInstance (T := "StopIteration") (b := true) ⟨_, Heap.get?_push_size _ rfl, rfl⟩ isSubtype_stop ?_)
  exact wpAny_pure (hQ _ (((Heap.SameBut.update ..).extBut.push _).push _))
theorem iter_list {tgt : Expr} {it l : Addr} (fs : List Fv) (hgo : ∀ v, letOwnedTupleGo tgt (.ref it) v = Pure.pure ()) :
    Iter w H K tgt it fs.length (fun k => [(it, .raw (ListIt l k))]) (fun r => Hs H r l (.list fs)) (fun k f ex => fs[k]? = some f ∧ ex = []) where
  next := fun k L bs rest A s Q hk hh S hl q => by
    obtain ⟨o, e, hit⟩ := S.has _ (.head _)
    obtain ⟨vs, nl, el, fl⟩ := S.look (hl.elim .inl fun h => .inr (.tail _ h))
    obtain ⟨v, hv, hf⟩ := fl.get (i := k) (f := fs[k]) (by simp [hk])
    refine seq_next ⟨o, e, hit⟩ el rfl (by simpa using hv) fun h' hit' hs => ?_
    refine wpAny_of_eq (hgo _) (q _ _ _ [] ⟨List.getElem?_eq_getElem hk, rfl⟩ hf (S.turn hs.extBut hit' nt_list))
  done := fun L bs rest A s Q hh S hl q => by
    obtain ⟨o, e, hit⟩ := S.has _ (.head _)
    obtain ⟨vs, nl, el, fl⟩ := S.look (hl.elim .inl fun h => .inr (.tail _ h))
    have := fl.length
    refine seq_end hh ⟨o, e, hit⟩ el rfl (by simp only [Array.length_toList] at this; simp [this]) fun h' hs => ⟨rfl, q _ (S.off hs (hP := nt_list))⟩
  self := fun L bs rest A s Q S q => by
    obtain ⟨o, e, hit⟩ := S.has _ (.head _)
    exact wpAny_pyIter_listiter (i := 0) ⟨o, e, hit⟩ q
theorem PL.get {h : Heap} {vs : List Value} {ps : List (Str × Str)} (x : PL h vs ps) : ∀ {i : Nat} {p}, ps[i]? = some p → ∃ v, vs[i]? = some v ∧ PairIs h v p := by
  induction x with
  | nil => intro i p e; simp at e
  | cons a _ ih =>
    intro i p e
    cases i with
    | zero => simp only [List.getElem?_cons_zero, Option.some.injEq] at e ⊢; subst e; exact ⟨_, rfl, a⟩
    | succ i => simp only [List.getElem?_cons_succ] at e ⊢; exact ih e
theorem iter_acc {it l : Addr} {elts : List Expr} {x1 : Nat} {pos : Pos} (ps : List (Str × Str)) :
    Iter w H K (.Tuple elts x1 pos) it ps.length (fun k => [(it, .raw (ListIt l k))]) (fun r => ∃ d z, (l, .acc d z ps) ∈ r) (fun k f ex => ∃ t p, ps[k]? = some p ∧ f = .ref t ∧ ex = [(t, .tup [.str p.1, .str p.2])]) where
  next := fun k L bs rest A s Q hk hh S ⟨d, z, hl⟩ q => by
    obtain ⟨o, e, hit⟩ := S.has _ (.head _)
    obtain ⟨⟨vs, nl, el, fl⟩, -⟩ := S.has _ (List.mem_cons_of_mem _ hl)
    obtain ⟨v, hv, t, rfl, ht⟩ := fl.get (i := k) (p := ps[k]) (by simp [hk])
    refine seq_next ⟨o, e, hit⟩ el rfl (by simpa using hv) fun h' hit' hs => ?_
    have m : Mut it s.heap h' := ⟨fun o e' => by rw [e] at e'; cases e'; exact nt_list _ hit, hs.extBut⟩
    have S' := (S.turn hs.extBut hit' nt_list (t := s.toks)).tup (ht.mut m)
    obtain ⟨o', e', hit'⟩ := hit'
    exact wpAny_letOwnedTupleGo_listiter (i := k + 1) ⟨o', e', hit'⟩ (q _ _ _ _ ⟨t, _, List.getElem?_eq_getElem hk, rfl, rfl⟩ rfl S')
  done := fun L bs rest A s Q hh S ⟨d, z, hl⟩ q => by
    obtain ⟨o, e, hit⟩ := S.has _ (.head _)
    obtain ⟨⟨vs, nl, el, fl⟩, -⟩ := S.has _ (List.mem_cons_of_mem _ hl)
    have := fl.length
    refine seq_end hh ⟨o, e, hit⟩ el rfl (by simp only [Array.length_toList] at this; simp [this]) fun h' hs => ⟨rfl, q _ (S.off hs (hP := nt_list))⟩
  self := fun L bs rest A s Q S q => by
    obtain ⟨o, e, hit⟩ := S.has _ (.head _)
    exact wpAny_pyIter_listiter (i := 0) ⟨o, e, hit⟩ q
theorem iter_range {tgt : Expr} {it : Addr} (N : Nat) (hgo : ∀ v, letOwnedTupleGo tgt (.ref it) v = Pure.pure ()) :
    Iter w H K tgt it N (fun k => [(it, .raw (RangeIt k N))]) (fun _ => True) (fun k f ex => f = .int k ∧ ex = []) where
  next := fun k L bs rest A s Q hk hh S _ q => by
    obtain ⟨o, e, rfl⟩ := S.has _ (.head _)
    refine wpAny_pyNext_range_item e (by omega) fun h' hit hs => ?_
    have e' : ((N : Int) - k) - 1 = (N : Int) - ((k + 1 : Nat) : Int) := by omega
    rw [e', show (k : Int) + 1 = ((k + 1 : Nat) : Int) by omega] at hit
    exact wpAny_of_eq (hgo _) (q _ _ _ [] ⟨rfl, rfl⟩ ⟨_, rfl⟩ (S.turn hs.extBut ⟨_, hit, rfl⟩ nt_range))
  done := fun L bs rest A s Q hh S _ q => by
    obtain ⟨o, e, rfl⟩ := S.has _ (.head _)
    exact wpAny_pyNext_range_end hh e (by omega) fun h' hs => ⟨rfl, q _ (S.off hs (hP := nt_range))⟩
  self := fun L bs rest A s Q S q => by
    obtain ⟨o, e, rfl⟩ := S.has _ (.head _)
    exact wpAny_pyIter_rangeiter e q
end
end Mine
end
section
open PySem.Calls
open AutoSeq1 (wpAny_loadPart')
namespace Mine
section
variable {w : World} {mg mb : Str → Option Value} {H : Heap} {K : Kn} {n : Nat} {L : Addr} {bs : Bs} {own : Owns} {env : Env}
theorem Tu.tup2 {x y : Str} {px py pos : Pos} {k : Nat} {t : Addr} {f g : Fv} {R : Bs → Owns → Prop} (hx : env.kindOf x = some .local) (hy : env.kindOf y = some .local) (ht : (t, .tup [f, g]) ∈ own) (h : R (setB y g (setB x f bs)) own)
    (hp : (env.scope.kind == .class || (env.scope.kind == .module && env.locals != env.globals)) = false := by rfl) :
    Tu w H K n env.locals bs own (PySem.assign (.Tuple [.Name x px, .Name y py] k pos) env (.ref t)) R := fun A s Q r S q => by
  obtain ⟨vs, e, hv⟩ := S.has _ ht
  obtain ⟨v, u, e2, h1, h2⟩ := hv.two
  have hsz : vs.size = 2 := by rw [← Array.length_toList, e2]; rfl
  refine wpAny_assign_Tuple r.hd ⟨_, e, rfl, 0, rfl⟩ (by rw [hsz]; rfl) rfl fun h' hk => ?_
  rw [e2]
  have S' : St H K env.locals bs own { s with heap := h' } := S.ext S.rest.1 rfl fun b o e => hk b o (Nat.ne_of_lt (Heap.lt_size e)) e
  show wpAny _ _ (do holding [u] (PySem.assign (.Name x px) env v); assignInOrder [PySem.assign (.Name y py) env] [u]) _ _ _
  refine wpAny_bind (wpAny_holding (wpAny_assign_Name (store_local hx S' h1 (fun s₂ S₂ => ?_) hp)))
  show wpAny _ _ (do holding [] (PySem.assign (.Name y py) env u); assignInOrder [] []) _ _ _
  exact wpAny_bind (wpAny_holding (wpAny_assign_Name (store_local hy S₂ h2 (fun s₃ S₃ => wpAny_pure (q _ _ _ h S₃)) hp)))
theorem Tv.iter_s {v : Value} {x : List Nat} {R : Fv → Owns → Prop} (hv : FIs v (.str (T x))) (h : ∀ it, R (.ref it) ((it, .raw (StrIt (T x) 0)) :: own)) : Tv w H K n L bs own (pyIter v) R := fun A s Q r S q => by
  obtain ⟨t, rfl⟩ := hv
  exact wpAny_pyIter_strU (q _ _ _ _ (h _) rfl (S.push (t := s.toks) (w := .raw (StrIt (T x) 0)) ⟨_, Heap.get?_push_size _ rfl, t, rfl, rfl⟩))
theorem Tv.iter_l {l : Addr} {fs : List Fv} {R : Fv → Owns → Prop} (hl : Hs H own l (.list fs)) (h : ∀ it, R (.ref it) ((it, .raw (ListIt l 0)) :: own)) : Tv w H K n L bs own (pyIter (.ref l)) R := fun A s Q r S q => by
  obtain ⟨vs, k, e, _⟩ := S.look hl
  exact wpAny_pyIter_list ⟨_, e, rfl, k, rfl⟩ (q _ _ _ _ (h _) rfl (S.push (t := s.toks) (w := .raw (ListIt l 0)) ⟨_, Heap.get?_push_size _ rfl, rfl, rfl⟩))
theorem acc_iter_slot {P : Params} : findIn (KB P) (.ref 101) "__iter__" = some (some (.builtin "list.__iter__")) := by kernel_rfl
theorem pyIter_acc {A : Around} {s : Shared} {x d : Addr} {vs : Array Value} {k : Nat} {Q : Value → Shared → Prop} (X : (KB w.params).In s.heap) (e : s.heap.get? x = some (accO d vs k))
    (q : Q (.ref s.heap.objs.size) { s with heap := s.heap.push { cls := .type "list_iterator", data := .fields #[.ref x, .int 0 0] } }) : wpAny (model pw w) A (pyIter (.ref x)) Q noE s := by
  have ty : Looks (model pw w) s.heap (typeOf (.ref x)) (.ref 101) := (Looks.ld (part := none) e).andThen .now
  have li := looks_findIn (M := model pw w) X acc_iter_slot
  have bd := slot_list_iter.bind (.ref x)
  have io : Looks (model pw w) s.heap (isInstance (.ref x) (.type "list")) true := ty.andThen (acc_sub_list X)
  have hl' : (s.heap.push { cls := .type "list_iterator", data := .fields #[.ref x, .int 0 0] }).get? s.heap.objs.size = some { cls := .type "list_iterator", data := .fields #[.ref x, .int 0 0] } := Heap.get?_push_size _ rfl
  have cl : ∀ (Q' : Value → Shared → Prop), Q' (.ref s.heap.objs.size) { s with heap := s.heap.push { cls := .type "list_iterator", data := .fields #[.ref x, .int 0 0] } } → wpAny (model pw w) A (call (.builtin "list.__iter__") [.ref x]) Q' noE s := by
    intro Q' hq
    refine wpAny_call (codeAny_call_builtin slot_list_iter.plain entry_list_iter (@check_slot (model pw w) _ _ _ "list.__iter__" "list" "__iter__" (.ref x) [] [] _ (by decide +kernel) (by decide +kernel) io (args_list_iter _) ?_))
    show wpAny _ _ (do ret (← newFields "list_iterator" [.ref x, rawInt 0])) _ _ s
    exact wpAny_bind (wpAny_newObj_type (wpAny_pure hq))
  have key : ∀ {C : Option (Value × List Value) → Shared → Prop}, C (some (.builtin "list.__iter__", [.ref x])) s → wpAny (model pw w) A (bindSpecialIfBound? (.ref x) "__iter__") C noE s := by
    intro C hC
    unfold bindSpecialIfBound?
    refine wpAny_bind (wpAny_bind (ty.here (li.here ?_)))
    simp only [bd]
    refine wpAny_bind (wpAny_askSetting (wpAny_ite ?_))
    split
    · exact wpAny_bind (wpAny_pure (wpAny_pure hC))
    · exact wpAny_tryCatch (wpAny_bind (wpAny_pure (wpAny_pure hC)))
  unfold pyIter
  refine wpAny_bind (wpAny_bind (ty.here (li.here ?_)))
  show wpAny _ _ (callSpecialIfBoundUnlessNone? (.ref x) "__iter__" _ >>= _) _ _ _
  unfold callSpecialIfBoundUnlessNone?
  refine wpAny_bind (wpAny_holding (wpAny_bind (key ?_)))
  dsimp only
  rw [if_neg (by simp [builtin_beq_none])]
  refine wpAny_bind (cl _ (wpAny_pure ?_))
  exact wpAny_bind (wpAny_specialOf (T := "list_iterator") ⟨_, hl', rfl⟩ slot_listiter_next.lookup (wpAny_pure q))
theorem Tv.iter_a {x d : Addr} {z : Int} {ps : List (Str × Str)} {R : Fv → Owns → Prop} (BH : Base w mg mb H) (hl : (x, .acc d z ps) ∈ own) (h : ∀ it, R (.ref it) ((it, .raw (ListIt x 0)) :: own)) : Tv w H K n L bs own (pyIter (.ref x)) R := fun A s Q r S q => by
  obtain ⟨⟨vs, k, e, f⟩, -⟩ := S.has _ hl
  exact pyIter_acc (BH.ext S.keep).frag e (q _ _ _ _ (h _) rfl (S.push (t := s.toks) (w := .raw (ListIt x 0)) ⟨_, Heap.get?_push_size _ rfl, rfl, rfl⟩))
noncomputable def RangeO (N : Nat) (o : Obj) : Prop := ∃ t u v, o = { cls := .type "range", dict := none, data := .fields #[.int 0 t, .int N u, .int 1 v], slots := #[] }
theorem range_small (N : Nat) (h : N ≤ 1000000) : Builtin.Range.small 0 N 1 = true ∧ Builtin.Range.rangeSize 0 N 1 = N := by
  have e : Builtin.Range.rangeSize 0 N 1 = N := by rw [rangeSize_one]; split <;> omega
  refine ⟨?_, e⟩
  unfold Builtin.Range.small
  rw [e]
  have f : ∀ i : Int, 0 ≤ i → i ≤ 1000000 → Builtin.Range.rangeFitsLong i = true := fun i h0 h1 => by unfold Builtin.Range.rangeFitsLong; simp; omega
  rw [f 0 (by omega) (by omega), f N (by omega) (by omega), f 1 (by omega) (by omega)]
  simp only [Bool.and_self, Bool.true_and, Bool.or_eq_true, beq_iff_eq]
  rw [show ((N : Int) + (1 - 1)) = N by omega, f N (by omega) (by omega)]
  right; rfl
/-- a call of a built-in class by its name -/
theorem Tv.callT {x : Str} {id : String} {e rest pos pos'} {R : Fv → Owns → Prop} (BH : Base w mg mb H)
    (hx : nsIn (KF w.params) mainGlobals x = some Option.none) (hb : bootBuiltins x = some (.type id)) (hl : env.kindOf x = some .globalImplicit)
    (h : Ts w H K n L bs own (spliced (backTo pos (starEach (e :: rest) env))) fun fs o₁ => ∀ vals, FL vals fs → Tv w H K n L bs o₁ (call (.type id) vals) R)
    (hs : starEach (e :: rest) env = (false, eval e env) :: starEach rest env := by rfl) (hp : (backTo pos (starEach rest env)).any (·.1) = false := by rfl)
    (hg : env.globals = mainGlobals := by rfl) (hbu : env.builtins = builtinsNs := by rfl) (hk : env.scope.kind = .function := by rfl) (hdb : (x == ("__debug__" : Str)) = false := by decide)
    (hn : x ≠ "__name__" := by decide) :
    Tv w H K n L bs own (eval (.Call (.Name x pos') (e :: rest) [] pos) env) R := fun A s Q r S q => by
  show wpAny (model pw w) A (do callWith pos (← eval (.Name x pos') env) [] (backTo pos (starEach (e :: rest) env)) (backToKw pos (keywordEach [] env))) Q noE s
  refine wpAny_bind (Calls.Name_function_global hk hl (Calls.loadGlobal_builtin (by rw [hg]; exact BH.g.keeps S.keep) (BH.mgs _ _ hx) (by rw [hbu]; exact BH.b.keeps S.keep) ((BH.mbs _ hn).trans hb) ?_) hdb)
  show wpAny (model pw w) A (callWith pos (.type id) [] (backTo pos (starEach (e :: rest) env)) []) Q noE s
  exact callWith_type1 (h A s _ r S fun vs s₁ fs o₁ x hvs S₁ => x vs hvs A s₁ Q r S₁ q) hs hp
theorem range_ {v : Value} {N : Nat} {R : Fv → Owns → Prop} (hv : FIs v (.int N)) (h : ∀ r, R (.ref r) ((r, .raw (RangeO N)) :: own)) : Tv w H K n L bs own (call (.type "range") [v]) R := fun A s Q r S q => by
  obtain ⟨t, rfl⟩ := hv
  exact call_range_1 (q _ _ _ _ (h _) rfl (S.push (w := .raw (RangeO N)) ⟨_, Heap.get?_push_size _ rfl, _, _, _, rfl⟩))
theorem Tv.iter_r {a : Addr} {N : Nat} {R : Fv → Owns → Prop} (hN : N ≤ 1000000) (ha : (a, .raw (RangeO N)) ∈ own) (h : ∀ it, R (.ref it) ((it, .raw (RangeIt 0 N)) :: own)) : Tv w H K n L bs own (pyIter (.ref a)) R := fun A s Q r S q => by
  obtain ⟨o, e, t, u, v, rfl⟩ := S.has _ ha
  obtain ⟨h1, h2⟩ := range_small N hN
  refine wpAny_pyIter_range e h1 ?_
  rw [h2]
  refine q _ _ _ _ (h _) rfl (S.push (t := s.toks) (w := .raw (RangeIt 0 N)) ⟨_, Heap.get?_push_size _ rfl, ?_⟩)
  show _ = _
  rw [show ((N : Int) - ((0 : Nat) : Int)) = N by omega]
  rfl
theorem take_snoc {α : Type} {l : List α} {k : Nat} {c : α} (h : l[k]? = some c) : l.take (k + 1) = l.take k ++ [c] ∧ l = l.take k ++ c :: l.drop (k + 1) := by
  obtain ⟨hk, rfl⟩ := List.getElem?_eq_some_iff.mp h
  refine ⟨by simp, by rw [List.getElem_cons_drop, List.take_append_drop]⟩
/-- for x in a text -/
theorem Tf.for_str {x : Str} {px : Pos} {iter : Expr} {body orelse : List Stmt} {pos : Pos} {R : Fl → Bs → Owns → Prop} (hx : env.kindOf x = some .local)
    (h : Tv w H K n env.locals bs own (eval iter env) fun f o₁ => ∃ l, ∃ J : List Nat → Bs → Owns → Prop, f = .str (T l) ∧ J [] bs o₁ ∧
      (∀ pre c suf b r it k, l = pre ++ c :: suf → J pre b r → Tf w H K n env.locals (setB x (.str (T [c])) b) ((it, .raw (StrIt (T l) k)) :: r) (execs body env) fun fl b₃ o₃ => match fl with
        | .next | .cont => Turn (J (pre ++ [c])) [(it, .raw (StrIt (T l) k))] b₃ o₃
        | .brk => False
        | .ret g => R (.ret g) b₃ o₃) ∧
      (∀ b r, J l b r → Tf w H K n env.locals b r (execs orelse env) R))
    (hs : ∀ x, foldedSetIterable iter env x = Pure.pure x := by intro _; rfl)
    (hp : (env.scope.kind == .class || (env.scope.kind == .module && env.locals != env.globals)) = false := by rfl) :
    Tf w H K n env.locals bs own (exec (.For (.Name x px) iter body orelse pos) env) R := by
  refine Tf.for_ (h.mono fun f o y v hv => ?_) hs
  obtain ⟨l, J, rfl, h0, turn, fin⟩ := y
  refine Tv.iter_s hv fun it => ⟨it, _, _, _, _, o, fun k => J (l.take k), rfl, rfl, iter_str l (fun _ => rfl), h0, fun _ _ _ _ => trivial, ?_, ?_⟩
  · rintro k b r v f ex hk hJ ⟨c, hc, rfl, rfl⟩ hv
    obtain ⟨e1, e2⟩ := take_snoc hc
    refine Tu.name hx hv ?_ hp
    show Tf _ _ _ _ _ _ _ _ fun fl b₃ o₃ => match fl with
        | .next | .cont => Turn (J (l.take (k + 1))) [(it, .raw (StrIt (T l) (k + 1)))] b₃ o₃
        | .brk => False
        | .ret g => R (.ret g) b₃ o₃
    rw [e1]
    exact turn _ _ _ _ _ _ (k + 1) e2 hJ
  · intro b r hJ
    simp only [List.take_length] at hJ
    exact fin b r hJ
/-- for x in range(N) -/
theorem Tf.for_range {x : Str} {px : Pos} {iter : Expr} {body orelse : List Stmt} {pos : Pos} {R : Fl → Bs → Owns → Prop} (hx : env.kindOf x = some .local)
    (h : Tv w H K n env.locals bs own (eval iter env) fun f o₁ => ∃ a N, ∃ J : Nat → Bs → Owns → Prop, f = .ref a ∧ N ≤ 1000000 ∧ (a, .raw (RangeO N)) ∈ o₁ ∧ J 0 bs o₁ ∧
      (∀ k b r it, k < N → J k b r → Tf w H K n env.locals (setB x (.int k) b) ((it, .raw (RangeIt (k + 1) N)) :: r) (execs body env) fun fl b₃ o₃ => match fl with
        | .next | .cont => Turn (J (k + 1)) [(it, .raw (RangeIt (k + 1) N))] b₃ o₃
        | .brk => False
        | .ret g => R (.ret g) b₃ o₃) ∧
      (∀ b r, J N b r → Tf w H K n env.locals b r (execs orelse env) R))
    (hs : ∀ x, foldedSetIterable iter env x = Pure.pure x := by intro _; rfl)
    (hp : (env.scope.kind == .class || (env.scope.kind == .module && env.locals != env.globals)) = false := by rfl) :
    Tf w H K n env.locals bs own (exec (.For (.Name x px) iter body orelse pos) env) R := by
  refine Tf.for_ (h.mono fun f o y v hv => ?_) hs
  obtain ⟨a, N, J, rfl, hN, ha, h0, turn, fin⟩ := y
  obtain rfl := hv
  refine Tv.iter_r hN ha fun it => ⟨it, _, _, _, _, o, J, rfl, rfl, iter_range N (fun _ => rfl), h0, fun _ _ _ _ => trivial, ?_, fin⟩
  rintro k b r v f ex hk hJ ⟨rfl, rfl⟩ hv
  exact Tu.name hx hv (turn _ _ _ _ hk hJ) hp
end
end Mine
end
section
open PySem.Calls
open AutoSeq1 (wpAny_loadPart')
namespace Mine
section
variable {w : World} {mg mb : Str → Option Value} {H : Heap} {K : Kn} {n : Nat} {L : Addr} {bs : Bs} {own : Owns} {env : Env}
theorem Tf.aug {x : Str} {op : Operator} {value : Expr} {pos pos' : Pos} {f : Fv} {R : Fl → Bs → Owns → Prop} (hl : env.kindOf x = some .local) (e : bs.lookup x = some f)
    (h : Tv w H K n env.locals bs own (eval value env) fun g o => ∀ v u, FIs v f → FIs u g → Tv w H K n env.locals bs o (inplaceOp op v u) fun k o' => R .next (setB x k bs) o')
    (hk : env.scope.kind = .function := by rfl) (hp : (env.scope.kind == .class || (env.scope.kind == .module && env.locals != env.globals)) = false := by rfl) :
    Tf w H K n env.locals bs own (exec (.AugAssign (.Name x pos') op value pos) env) R := fun A s Q r S q => by
  obtain ⟨m, hn, hm⟩ := S.loc
  obtain ⟨v, hv, hf⟩ := hm x f e
  exact wpAny_AugAssign_Name (wpAny_loadName_local hk hl hn hv (h A s _ r S fun u s₁ g o y hu S₁ => y v u hf hu A s₁ _ r S₁ fun k s₂ kf o₂ z hk' S₂ => store_local hl S₂ hk' (fun s₃ S₃ => q _ _ .next _ _ z trivial S₃) hp))
theorem iadd_i {v u i j} {R : Fv → Owns → Prop} (hv : FIs v (.int i)) (hu : FIs u (.int j)) (h : R (.int (i + j)) own) : Tv w H K n L bs own (inplaceOp .Add v u) R := fun A s Q r S q => by
  obtain ⟨t, rfl⟩ := hv; obtain ⟨t', rfl⟩ := hu
  exact wpAny_iadd_int (q _ _ _ _ h ⟨_, rfl⟩ (S.toks _))
theorem iadd_s {v u x y} {R : Fv → Owns → Prop} (hv : FIs v (.str (T x))) (hu : FIs u (.str (T y))) (hz : x.length + y.length ≤ 100000) (h : R (.str (T (x ++ y))) own) : Tv w H K n L bs own (inplaceOp .Add v u) R := fun A s Q r S q => by
  obtain ⟨t, rfl⟩ := hv; obtain ⟨t', rfl⟩ := hu
  refine SB.iadd (fun t' k => ?_) (by rw [T_len, T_len]; exact Nat.le_trans hz (by decide))
  rw [T_app]
  exact q _ _ _ _ h ⟨_, rfl⟩ (S.toks _)
theorem add_t {v u x y} {R : Fv → Owns → Prop} (hv : FIs v (.str (T x))) (hu : FIs u (.str (T y))) (hz : x.length + y.length ≤ 100000) (h : R (.str (T (x ++ y))) own) : Tv w H K n L bs own (binaryOp .Add v u) R := by
  refine add_s hv hu (by rw [T_len, T_len]; exact Nat.le_trans hz (by decide)) ?_
  rw [T_app]; exact h
/-- a, b = f(..) -/
theorem Tf.assign2 {x y : Str} {px py pt pos : Pos} {k : Nat} {value : Expr} {R : Fl → Bs → Owns → Prop} (hx : env.kindOf x = some .local) (hy : env.kindOf y = some .local)
    (h : Tv w H K n env.locals bs own (eval value env) fun f o => ∃ t g g', f = .ref t ∧ (t, .tup [g, g']) ∈ o ∧ R .next (setB y g' (setB x g bs)) o)
    (he : exec (.Assign [.Tuple [.Name x px, .Name y py] k pt] value pos) env = (do standAt pos; let v ← eval value env; PySem.assign (.Tuple [.Name x px, .Name y py] k pt) env v; Pure.pure .next) := by rfl)
    (hp : (env.scope.kind == .class || (env.scope.kind == .module && env.locals != env.globals)) = false := by rfl) :
    Tf w H K n env.locals bs own (exec (.Assign [.Tuple [.Name x px, .Name y py] k pt] value pos) env) R := fun A s Q r S q => by
  rw [he]
  refine wpAny_bind (wpAny_standAt (wpAny_bind (h A s _ r S fun v s₁ f o z hv S₁ => wpAny_bind ?_)))
  obtain ⟨t, g, g', rfl, ht, z⟩ := z
  obtain rfl := hv
  exact Tu.tup2 (R := fun b o => R .next b o) hx hy ht z hp A s₁ _ r S₁ fun s₂ b o z S₂ => wpAny_pure (q _ _ .next _ _ z trivial S₂)
/-- v[i] -/
theorem Tv.sub {value slice : Expr} {pos : Pos} {R : Fv → Owns → Prop}
    (h : Tv w H K n L bs own (eval value env) fun f o₁ => Tv w H K n L bs o₁ (eval slice env) fun g o₂ => ∀ v u, FIs v f → FIs u g → (∀ s, St H K L bs o₂ s → ∃ T id, s.TypeIs v T ∧ typeLookup (.type T) "__getitem__" = Pure.pure (some (.builtin id))) ∧
      Tv w H K n L bs o₂ (getItem v u) R) : Tv w H K n L bs own (eval (.Subscript value slice pos) env) R := fun A s Q r S q => by
  rw [eval_Subscript]
  refine wpAny_bind (h A s _ r S fun v s₁ f o₁ y hv S₁ => wpAny_bind (wpAny_holding (y A s₁ _ r S₁ fun u s₂ g o₂ z hu S₂ => wpAny_bind (wpAny_standAt ?_))))
  obtain ⟨ht, z⟩ := z v u hv hu
  obtain ⟨T, id, hT, hl⟩ := ht _ S₂
  rw [getitemInPython_of_ne (Shared.TypeIs.not_modules hT)]
  refine wpAny_bind (wpAny_bind (wpAny_specialOf hT hl (wpAny_pure (wpAny_bind ?_))))
  have fin : wpAny (model pw w) A (getItem v u) (fun a s' => wpAny (model pw w) A (letTemporaryGo value v a) (fun _ s'' => wpAny (model pw w) A (Pure.pure a) Q noE s'') noE s') noE s₂ :=
    z A s₂ _ r S₂ fun a s₃ k o₃ y hk S₃ => wpAny_letTemporaryGo (wpAny_pure (q _ _ _ _ y hk S₃))
  have fin' : wpAny (model pw w) A (getItem v u) (fun a s' => wpAny (model pw w) A (letTemporaryGo value v a >>= fun _ => Pure.pure a) Q noE s') noE s₂ := wpAny_mono fin (fun _ _ z => wpAny_bind z) fun _ _ z => z
  have e : subscripted slice false v u = operate [u, v] (getItem v u) ∨ subscripted slice false v u = operate [v, u] (getItem v u) := by
    cases slice <;> first | exact .inr rfl | skip
    rename_i a b c p
    cases c <;> first | exact .inl rfl | exact .inr rfl
  rcases e with e | e <;> (rw [e]; exact wpAny_operating fin')
theorem ty_list {o : Owns} {a : Addr} {fs : List Fv} (hl : Hs H o a (.list fs)) : ∀ s, St H K L bs o s → ∃ T id, s.TypeIs (.ref a) T ∧ typeLookup (.type T) "__getitem__" = Pure.pure (some (.builtin id)) := fun s S => by
  obtain ⟨vs, k, e, _⟩ := S.look hl
  exact ⟨"list", _, ⟨_, e, rfl⟩, slot_list_getitem.lookup⟩
theorem ty_tup {o : Owns} {a : Addr} {fs : List Fv} (hl : (a, .tup fs) ∈ o) : ∀ s, St H K L bs o s → ∃ T id, s.TypeIs (.ref a) T ∧ typeLookup (.type T) "__getitem__" = Pure.pure (some (.builtin id)) := fun s S => by
  obtain ⟨vs, e, _⟩ := S.has _ hl
  exact ⟨"tuple", _, ⟨_, e, rfl⟩, F.slot_tuple_getitem.lookup⟩
theorem ty_str {o : Owns} {v : Value} {x : Str} (hv : FIs v (.str x)) : ∀ s, St H K L bs o s → ∃ T id, s.TypeIs v T ∧ typeLookup (.type T) "__getitem__" = Pure.pure (some (.builtin id)) := fun s S => by
  obtain ⟨t, rfl⟩ := hv
  exact ⟨"str", _, typeIs_str s x t, F.slot_str_getitem.lookup⟩
theorem get_list {a : Addr} {fs : List Fv} {u : Value} {i : Int} {f : Fv} {R : Fv → Owns → Prop} (hl : Hs H own a (.list fs)) (hu : FIs u (.int i)) (h0 : 0 ≤ i) (h1 : i < 1000000) (hf : fs[i.toNat]? = some f) (h : R f own) :
    Tv w H K n L bs own (getItem (.ref a) u) R := fun A s Q r S q => by
  obtain ⟨vs, k, e, fl⟩ := S.look hl
  obtain ⟨t, rfl⟩ := hu
  obtain ⟨v, hv, hfv⟩ := fl.get hf
  exact wpAny_getItem_list ⟨_, e, rfl, k, rfl⟩ h0 (by omega) (by simpa using hv) (q _ _ _ _ h hfv S)
theorem get_list_last {a : Addr} {fs : List Fv} {u : Value} {f : Fv} {R : Fv → Owns → Prop} (hl : Hs H own a (.list (fs ++ [f]))) (hu : FIs u (.int (-1))) (h : R f own) :
    Tv w H K n L bs own (getItem (.ref a) u) R := fun A s Q r S q => by
  obtain ⟨vs, k, e, fl⟩ := S.look hl
  obtain ⟨t, rfl⟩ := hu
  have hln : vs.size = fs.length + 1 := by have := fl.length; simpa using this
  obtain ⟨v, hv, hfv⟩ := fl.get (i := fs.length) (f := f) (by simp)
  refine wpAny_getItem_list_neg (x := v) ⟨_, e, rfl, k, rfl⟩ (by omega) (by omega) (by omega) ?_ (q _ _ _ _ h hfv S)
  rw [show ((-1 : Int) + (vs.size : Int)).toNat = fs.length by omega]
  simpa using hv
theorem get_tup {a : Addr} {fs : List Fv} {u : Value} {i : Nat} {f : Fv} {R : Fv → Owns → Prop} (hl : (a, .tup fs) ∈ own) (hu : FIs u (.int i)) (h1 : i < 1000000) (hf : fs[i]? = some f) (h : R f own) :
    Tv w H K n L bs own (getItem (.ref a) u) R := fun A s Q r S q => by
  obtain ⟨vs, e, fl⟩ := S.has _ hl
  obtain ⟨t, rfl⟩ := hu
  obtain ⟨v, hv, hfv⟩ := fl.get hf
  have hi : i < vs.size := by
    obtain ⟨h, _⟩ := List.getElem?_eq_some_iff.mp hv
    simpa using h
  exact P.getItem_tuple e (by omega) (by omega) (seqIndex_of (by omega) (by omega)) (by simpa using hv) (q _ _ _ _ h hfv S)
theorem get_str {v u : Value} {x : List Nat} {i c : Nat} {R : Fv → Owns → Prop} (hv : FIs v (.str (T x))) (hu : FIs u (.int i)) (h1 : i < 1000000) (hc : x[i]? = some c) (h : R (.str (T [c])) own) :
    Tv w H K n L bs own (getItem v u) R := fun A s Q r S q => by
  obtain ⟨t, rfl⟩ := hv; obtain ⟨t', rfl⟩ := hu
  have hi : i < x.length := (List.getElem?_eq_some_iff.mp hc).1
  refine P.getItem_str (c := c) (by simp; omega) ?_ (q _ _ _ _ h ⟨_, rfl⟩ (S.toks _))
  rw [seqIndex_of (by omega) (by rw [T_len]; omega)]
  simpa [T] using hc
/-- x or y, of texts -/
theorem Tv.or_s {x y : Expr} {pos : Pos} {R : Fv → Owns → Prop} (h : Tv w H K n L bs own (eval x env) fun f o => ∃ l, f = .str (T l) ∧ l.length ≤ 100000 ∧ if l = [] then Tv w H K n L bs o (eval y env) R else R f o) :
    Tv w H K n L bs own (eval (.BoolOp .Or [x, y] pos) env) R := fun A s Q r S q => by
  refine wpAny_Or2 (h A s _ r S fun v s₁ f o z hv S₁ => ?_)
  obtain ⟨l, rfl, hz, z⟩ := z
  refine tr_s (R := fun b o' => b = (l != []) ∧ o' = o) hv (by rw [T_len]; exact Nat.le_trans hz (by decide)) ⟨?_, rfl⟩ A s₁ _ r S₁ fun b s₂ o₂ y S₂ => ?_
  · rw [T_len]
    cases l with
    | nil => rfl
    | cons c l =>
      show _ = true
      rw [bne_iff_ne, List.length_cons]
      omega
  · obtain ⟨rfl, rfl⟩ := y
    cases l with
    | nil => simp only [if_true] at z; exact z A s₂ Q r S₂ q
    | cons c l => simp only [List.cons_ne_nil, if_false] at z; exact q _ _ _ _ z hv S₂
end
end Mine
end
section
open PySem.Calls
open AutoSeq1 (wpAny_loadPart')
namespace Mine
noncomputable def lowT (l : List Nat) : List Nat := (Txt.lower (T l)).cps.toList
noncomputable def upT (l : List Nat) : List Nat := (Txt.upper (T l)).cps.toList
noncomputable def capT (l : List Nat) : List Nat := (Txt.capitalize (T l)).cps.toList
noncomputable def rstripT (l m : List Nat) : List Nat := (Txt.rstripChars (T l) (T m)).cps.toList
noncomputable def splitT (l m : List Nat) : List (List Nat) := (Txt.split (T l) (T m)).map (·.cps.toList)
noncomputable def joinL (sep : List Nat) : List (List Nat) → List Nat
  | [] => []
  | [x] => x
  | x :: r => x ++ sep ++ joinL sep r
theorem join_T (sep : List Nat) : ∀ ls : List (List Nat), Txt.join (T sep) (ls.map T) = T (joinL sep ls) := by
  have e : ∀ ls : List (List Nat), Str.join (T sep) (ls.map T) = T (joinL sep ls) := by
    intro ls
    induction ls with
    | nil => rfl
    | cons x r ih =>
      cases r with
      | nil => rfl
      | cons y r =>
        show T x ++ T sep ++ Str.join (T sep) ((y :: r).map T) = _
        rw [ih, T_app, T_app]; rfl
  intro ls
  show Builtin.Str.glued _ _ = _
  rw [StrLaws.glued_eq_join, e]
theorem T_toList (s : Str) : T s.cps.toList = s := (T_of s).symm
noncomputable def Fvs (ls : List (List Nat)) : List Fv := ls.map fun l => .str (T l)
theorem FL.strs : ∀ {vs : List Value} {ls : List (List Nat)}, FL vs (Fvs ls) → ∃ l : List (Str × Tok), vs = strValues l ∧ l.map (·.1) = ls.map T
  | [], [], _ => ⟨[], rfl, rfl⟩
  | _ :: _, _ :: _, .cons ⟨t, e⟩ b => by
    subst e
    obtain ⟨l, rfl, h⟩ := FL.strs b
    exact ⟨(_, t) :: l, rfl, by simp [h]; rfl⟩
theorem joinOk_T {sep : List Nat} {ls : List (List Nat)} (h : ls.length ≤ 1000) (h1 : ∀ l ∈ ls, l.length ≤ 1000) (hs : sep.length ≤ 1000) : JoinOk (T sep) (ls.map T) = true := by
  unfold JoinOk
  rw [StrLaws.joinFits (B := 1000)]
  · rfl
  · intro y hy
    obtain ⟨l, hl, rfl⟩ := List.mem_map.mp hy
    rw [T_len]; exact h1 l hl
  · rw [List.length_map, T_len]
    have : ls.length * sep.length ≤ 1000 * 1000 := Nat.mul_le_mul h hs
    omega
theorem lowT_len (l : List Nat) : (lowT l).length ≤ 3 * l.length := by
  have := StrLaws.placedRaw_le3 (T l).cps (fun i _ => Unicode.lowerAt (T l).cps i) (fun i c => StrLaws.lowerAt_le3 _ _)
  simpa [lowT, Txt.lower, placed, T] using this
theorem upT_len (l : List Nat) : (upT l).length ≤ 3 * l.length := by
  have := StrLaws.placedRaw_le3 (T l).cps (fun _ c => Unicode.upperOf c) (fun i c => StrLaws.upperOf_le3 _)
  simpa [upT, Txt.upper, placed, T] using this
theorem T_cps (l : List Nat) : (T l).cps.toList = l := rfl
section
variable {w : World} {mg mb : Str → Option Value} {H : Heap} {K : Kn} {n : Nat} {L : Addr} {bs : Bs} {own : Owns} {env : Env}
theorem fitT {m : Nat} (h : m ≤ 100000) : Builtin.Str.tooLong m = false := by
  unfold Builtin.Str.tooLong
  have : sizeLine = 2 ^ 24 := rfl
  exact decide_eq_false (by omega)
theorem Tv.strT {i : Str} {l : List Nat} {k : Nat} {pos : Pos} {R : Fv → Owns → Prop} (e : i = T l) (h : R (.str (T l)) own) : Tv w H K n L bs own (eval (.Constant (.str i) k pos) env) R := Tv.str (e ▸ h)
theorem le_t {v u : Value} {x y : List Nat} {R : Fv → Owns → Prop} (hv : FIs v (.str (T x))) (hu : FIs u (.str (T y))) (h : R (.bool (!(decide (y < x)))) own) : Tv w H K n L bs own (compareOp .LtE v u) R := le_s hv hu h
theorem lower_ {v : Value} {x : List Nat} {R : Fv → Owns → Prop} (hv : FIs v (.str (T x))) (hz : (lowT x).length ≤ 100000) (h : R (.str (T (lowT x))) own) : Tv w H K n L bs own (call (.builtin "str.lower") [v]) R := fun A s Q r S q => by
  obtain ⟨t, rfl⟩ := hv
  unfold lowT at hz h
  rw [T_toList] at h
  exact SC.lower (fitT hz) (q _ _ _ _ h ⟨_, rfl⟩ (S.toks _))
theorem upper_ {v : Value} {x : List Nat} {R : Fv → Owns → Prop} (hv : FIs v (.str (T x))) (hz : (upT x).length ≤ 100000) (h : R (.str (T (upT x))) own) : Tv w H K n L bs own (call (.builtin "str.upper") [v]) R := fun A s Q r S q => by
  obtain ⟨t, rfl⟩ := hv
  unfold upT at hz h
  rw [T_toList] at h
  exact SC.upper (fitT hz) (q _ _ _ _ h ⟨_, rfl⟩ (S.toks _))
theorem rstrip_ {v u : Value} {x y : List Nat} {R : Fv → Owns → Prop} (hv : FIs v (.str (T x))) (hu : FIs u (.str (T y))) (hz : x.length ≤ 100000) (h : R (.str (T (rstripT x y))) own) : Tv w H K n L bs own (call (.builtin "str.rstrip") [v, u]) R := fun A s Q r S q => by
  obtain ⟨t, rfl⟩ := hv; obtain ⟨t', rfl⟩ := hu
  unfold rstripT at h
  rw [T_toList] at h
  exact SC.rstripChars (fun t' k => q _ _ _ _ h ⟨_, rfl⟩ (S.toks _)) (by rw [T_len]; exact Nat.le_trans hz (by decide))
theorem join_ {v : Value} {a : Addr} {sep : List Nat} {ls : List (List Nat)} {R : Fv → Owns → Prop} (hv : FIs v (.str (T sep))) (ha : Hs H own a (.list (Fvs ls))) (hz : ls.length ≤ 1000) (h1 : ∀ l ∈ ls, l.length ≤ 1000) (hs : sep.length ≤ 1000)
    (h : R (.str (T (joinL sep ls))) own) : Tv w H K n L bs own (call (.builtin "str.join") [v, .ref a]) R := fun A s Q r S q => by
  obtain ⟨t, rfl⟩ := hv
  obtain ⟨vs, k, e, fl⟩ := S.look ha
  obtain ⟨l, e1, e2⟩ := fl.strs
  refine SC.join (l := l) (texts := ls.map T) ⟨_, e, rfl, k, ?_⟩ e2 (joinOk_T hz h1 hs) fun t' k => ?_
  · rw [← e1]
  · rw [join_T]; exact q _ _ _ _ h ⟨_, rfl⟩ (S.toks _)
/-- a method of a text -/
theorem Tv.strMeth {o : Expr} {nm : Str} {id : String} {apos pos : Pos} {args : List Expr} {pl : Sem Bool} {R : Fv → Owns → Prop}
    (gm : ∀ {x : Str} {t : Tok} {A : Around} {s : Shared} {Q : Value × List Value → Shared → Prop}, Q (.builtin id, [.str x t]) s → wpAny (model pw w) A (getMethod (.str x t) nm pl) Q noE s)
    (h : Tv w H K n L bs own (eval o env) fun g o₁ => ∃ x, g = .str x ∧ Ts w H K n L bs o₁ (spliced (backTo pos (starEach args env))) fun fs o₂ => ∀ v vals, FIs v (.str x) → FL vals fs → Tv w H K n L bs o₂ (call (.builtin id) (v :: vals)) R)
    (hs : args = [] ∨ ∃ e rest, args = e :: rest ∧ starEach (e :: rest) env = (false, eval e env) :: starEach rest env ∧ (backTo pos (starEach rest env)).any (·.1) = false)
    (he : eval (.Call (.Attribute o nm apos) args [] pos) env = (do
      let ov ← eval o env
      standAt apos.atName
      let (f, first) ← holding [ov] (getMethod ov nm pl)
      callWith pos f first (backTo pos (starEach args env)) []) := by rfl) :
    Tv w H K n L bs own (eval (.Call (.Attribute o nm apos) args [] pos) env) R := fun A s Q r S q => by
  refine MethodCall_ (pl := pl) (h A s _ r S fun v s₁ g o₁ y hv S₁ => ?_) he
  obtain ⟨x, rfl, y⟩ := y
  obtain ⟨t, rfl⟩ := hv
  refine gm ?_
  rcases hs with rfl | ⟨e', rest, rfl, hs, hp⟩
  · exact callWith_builtin (args := []) rfl (evalArgs_nilT (y A _ _ r S₁ fun vs s₂ fs o₂ y hvs S₂ => y _ vs ⟨t, rfl⟩ hvs A s₂ Q r S₂ q))
  · refine callWith_method1 ?_ hs hp
    exact y A _ _ r S₁ fun vs s₂ fs o₂ y hvs S₂ => y _ vs ⟨t, rfl⟩ hvs A s₂ Q r S₂ q
theorem Tv.lower {o : Expr} {apos pos : Pos} {pl : Sem Bool} {R : Fv → Owns → Prop} (h : Tv w H K n L bs own (eval o env) fun g o₁ => ∃ x, g = .str (T x) ∧ (lowT x).length ≤ 100000 ∧ R (.str (T (lowT x))) o₁)
    (he : eval (.Call (.Attribute o "lower" apos) [] [] pos) env = (do
      let ov ← eval o env
      standAt apos.atName
      let (f, first) ← holding [ov] (getMethod ov "lower" pl)
      callWith pos f first (backTo pos (starEach [] env)) []) := by rfl) :
    Tv w H K n L bs own (eval (.Call (.Attribute o "lower" apos) [] [] pos) env) R :=
  Tv.strMeth (id := "str.lower") (pl := pl) (fun q => GM.lower q) (h.mono fun g o ⟨x, e, hz, y⟩ => ⟨_, e, Ts.nil fun v vals hv hvs => by cases hvs; exact lower_ hv hz y⟩) (.inl rfl) he
theorem Tv.upper {o : Expr} {apos pos : Pos} {pl : Sem Bool} {R : Fv → Owns → Prop} (h : Tv w H K n L bs own (eval o env) fun g o₁ => ∃ x, g = .str (T x) ∧ (upT x).length ≤ 100000 ∧ R (.str (T (upT x))) o₁)
    (he : eval (.Call (.Attribute o "upper" apos) [] [] pos) env = (do
      let ov ← eval o env
      standAt apos.atName
      let (f, first) ← holding [ov] (getMethod ov "upper" pl)
      callWith pos f first (backTo pos (starEach [] env)) []) := by rfl) :
    Tv w H K n L bs own (eval (.Call (.Attribute o "upper" apos) [] [] pos) env) R :=
  Tv.strMeth (id := "str.upper") (pl := pl) (fun q => GM.upper q) (h.mono fun g o ⟨x, e, hz, y⟩ => ⟨_, e, Ts.nil fun v vals hv hvs => by cases hvs; exact upper_ hv hz y⟩) (.inl rfl) he
theorem Tv.rstrip {o e : Expr} {apos pos : Pos} {pl : Sem Bool} {R : Fv → Owns → Prop} (h : Tv w H K n L bs own (eval o env) fun g o₁ => ∃ x, g = .str (T x) ∧ x.length ≤ 100000 ∧ Tv w H K n L bs o₁ (eval e env) fun f o₂ => ∃ y, f = .str (T y) ∧ R (.str (T (rstripT x y))) o₂)
    (hs : starEach [e] env = (false, eval e env) :: starEach [] env := by rfl)
    (he : eval (.Call (.Attribute o "rstrip" apos) [e] [] pos) env = (do
      let ov ← eval o env
      standAt apos.atName
      let (f, first) ← holding [ov] (getMethod ov "rstrip" pl)
      callWith pos f first (backTo pos (starEach [e] env)) []) := by rfl) :
    Tv w H K n L bs own (eval (.Call (.Attribute o "rstrip" apos) [e] [] pos) env) R :=
  Tv.strMeth (id := "str.rstrip") (pl := pl) (fun q => GM.rstrip q) (h.mono fun g o ⟨x, e, hz, y⟩ => ⟨_, e, Ts.cons (y.mono fun f o₂ ⟨z, ef, y⟩ => Ts.nil fun v vals hv hvs => by
    obtain ⟨u, rfl, hu⟩ := hvs.one
    subst ef
    exact rstrip_ hv hu hz y) hs⟩) (.inr ⟨_, _, rfl, hs, rfl⟩) he
theorem Tv.join {o e : Expr} {apos pos : Pos} {pl : Sem Bool} {R : Fv → Owns → Prop} (h : Tv w H K n L bs own (eval o env) fun g o₁ => ∃ sep, g = .str (T sep) ∧ sep.length ≤ 1000 ∧ Tv w H K n L bs o₁ (eval e env) fun f o₂ => ∃ a ls, f = .ref a ∧ Hs H o₂ a (.list (Fvs ls)) ∧ ls.length ≤ 1000 ∧ (∀ l ∈ ls, l.length ≤ 1000) ∧ R (.str (T (joinL sep ls))) o₂)
    (hs : starEach [e] env = (false, eval e env) :: starEach [] env := by rfl)
    (he : eval (.Call (.Attribute o "join" apos) [e] [] pos) env = (do
      let ov ← eval o env
      standAt apos.atName
      let (f, first) ← holding [ov] (getMethod ov "join" pl)
      callWith pos f first (backTo pos (starEach [e] env)) []) := by rfl) :
    Tv w H K n L bs own (eval (.Call (.Attribute o "join" apos) [e] [] pos) env) R :=
  Tv.strMeth (id := "str.join") (pl := pl) (fun q => GM.join q) (h.mono fun g o ⟨x, e, hz, y⟩ => ⟨_, e, Ts.cons (y.mono fun f o₂ ⟨a, ls, ef, ha, h1, h2, y⟩ => Ts.nil fun v vals hv hvs => by
    obtain ⟨u, rfl, hu⟩ := hvs.one
    subst ef
    obtain rfl := hu
    exact join_ hv ha h1 h2 hz y) hs⟩) (.inr ⟨_, _, rfl, hs, rfl⟩) he
/- lists -/
theorem len_l {a : Addr} {fs : List Fv} {R : Fv → Owns → Prop} (ha : Hs H own a (.list fs)) (hz : fs.length ≤ 100000) (h : R (.int fs.length) own) : Tv w H K n L bs own (call (.builtin "len") [.ref a]) R := fun A s Q r S q => by
  obtain ⟨vs, k, e, fl⟩ := S.look ha
  have hl := fl.length
  rw [Array.length_toList] at hl
  refine call_len_list ⟨_, e, rfl, k, rfl⟩ (by omega) ?_
  rw [hl]
  exact q _ _ _ _ h ⟨_, rfl⟩ (S.toks _)
theorem Tv.lappend {o e : Expr} {apos pos : Pos} {pl : Sem Bool} {R : Fv → Owns → Prop}
    (h : Tv w H K n L bs own (eval o env) fun g o₁ => ∃ a fs, g = .ref a ∧ (a, .list fs) ∈ o₁ ∧ Tv w H K n L bs o₁ (eval e env) fun f o₂ => ∃ i fs, o₂[i]? = some (a, .list fs) ∧ fs.length ≤ 100000 ∧ R .none (o₂.set i (a, .list (fs ++ [f]))))
    (hs : starEach [e] env = (false, eval e env) :: starEach [] env := by rfl)
    (he : eval (.Call (.Attribute o "append" apos) [e] [] pos) env = (do
      let ov ← eval o env
      standAt apos.atName
      let (f, first) ← holding [ov] (getMethod ov "append" pl)
      callWith pos f first (backTo pos (starEach [e] env)) []) := by rfl) :
    Tv w H K n L bs own (eval (.Call (.Attribute o "append" apos) [e] [] pos) env) R := fun A s Q r S q => by
  refine MethodCall_ (pl := pl) (h A s _ r S fun v s₁ g o₁ y hv S₁ => ?_) he
  obtain ⟨a, fs, rfl, hm, y⟩ := y
  obtain rfl := hv
  obtain ⟨vs, k, ex, f⟩ := S₁.has _ hm
  refine getMethod_list_append ex rfl rfl ?_
  rw [hs]
  refine P.append_list (y A _ _ r S₁ fun u s₂ f o₂ y hu S₂ => ?_)
  obtain ⟨i, fs, e1, hz, y⟩ := y
  obtain ⟨vs, k, ex, fl⟩ := S₂.has _ (List.mem_of_getElem? e1)
  have hl := fl.length
  rw [Array.length_toList] at hl
  have m : Mut a s₂.heap (s₂.heap.update a (Obj.mapSeq fun xs => xs.push u)) := ⟨(fun o eo q => by rw [ex] at eo; cases eo; exact absurd q.1 (by simp)), (Heap.SameBut.update ..).extBut⟩
  refine ⟨vs, k, by have : sizeLine = 2 ^ 24 := rfl; omega, ex, q _ _ _ _ y rfl (S₂.mut (i := i) (a := a) (w := .list fs) (w' := .list (fs ++ [f])) e1 (t := s₂.toks) m ⟨_, _, Heap.get?_update_self _ ex rfl, ?_⟩ (n2 := rfl))⟩
  rw [Array.toList_push]
  exact fl.append (.cons hu .nil)
end
end Mine
end
section
open PySem.Calls
open AutoSeq1 (wpAny_loadPart')
namespace Mine
noncomputable abbrev PS := List (List Nat × List Nat)
noncomputable def tp (p : List Nat × List Nat) : Str × Str := (T p.1, T p.2)
noncomputable def popL (ps : PS) : (List Nat × List Nat) × PS := match ps.getLast? with
  | none => (([], []), [])
  | some p => (p, ps.dropLast)
theorem popF_tp (ps : PS) : popF (ps.map tp) = (tp (popL ps).1, (popL ps).2.map tp) := by
  rcases List.eq_nil_or_concat ps with rfl | ⟨qs, p, rfl⟩
  · rfl
  · rw [List.concat_eq_append, List.map_append, List.map_singleton, popF_snoc]
    simp [popL]
theorem popL_snoc (ps : PS) (p) : popL (ps ++ [p]) = (p, ps) := by simp [popL]
noncomputable def lettr (c : Nat) : Bool := !(decide (lowT [c] < [97])) && !(decide ([122] < lowT [c]))
noncomputable def rdStep (k : Int) (st : PS × List Nat) (c : Nat) : PS × List Nat :=
  if isFree k c = true then (st.1, st.2 ++ [c])
  else if lettr c = true then (st.1 ++ [(st.2, [c])], [])
  else ((popL st.1).2 ++ [((popL st.1).1.1, (popL st.1).1.2 ++ [c])], st.2)
noncomputable def rd (k : Int) (l : List Nat) : PS × List Nat := l.foldl (rdStep k) ([], [])
theorem rd_snoc (k : Int) (l : List Nat) (c : Nat) : rd k (l ++ [c]) = rdStep k (rd k l) c := by simp [rd]
noncomputable def Bnd (m : Nat) (ps : PS) : Prop := ps.length ≤ m ∧ ∀ p ∈ ps, p.1.length ≤ m ∧ p.2.length ≤ m
theorem Bnd.mono {m m' : Nat} {ps : PS} (h : Bnd m ps) (k : m ≤ m') : Bnd m' ps := ⟨Nat.le_trans h.1 k, fun p hp => ⟨Nat.le_trans (h.2 p hp).1 k, Nat.le_trans (h.2 p hp).2 k⟩⟩
theorem Bnd.snoc {m : Nat} {ps : PS} {p} (h : Bnd m ps) (h1 : p.1.length ≤ m + 1) (h2 : p.2.length ≤ m + 1) : Bnd (m + 1) (ps ++ [p]) := by
  refine ⟨by simp; exact h.1, fun q hq => ?_⟩
  rcases List.mem_append.mp hq with hq | hq
  · have := h.2 q hq; omega
  · obtain rfl := List.mem_singleton.mp hq; exact ⟨h1, h2⟩
theorem Bnd.pop {m : Nat} {ps : PS} (h : Bnd m ps) : Bnd m (popL ps).2 ∧ (popL ps).1.1.length ≤ m ∧ (popL ps).1.2.length ≤ m ∧ (popL ps).2.length ≤ ps.length := by
  rcases List.eq_nil_or_concat ps with rfl | ⟨qs, p, rfl⟩
  · exact ⟨⟨Nat.zero_le _, fun p hp => nomatch hp⟩, Nat.zero_le _, Nat.zero_le _, Nat.le_refl _⟩
  · rw [List.concat_eq_append] at h ⊢
    rw [popL_snoc]
    have h1 := h.1
    rw [List.length_append] at h1
    have hp := h.2 p (by simp)
    exact ⟨⟨by show qs.length ≤ m; omega, fun q hq => h.2 q (List.mem_append_left _ hq)⟩, hp.1, hp.2, by simp⟩
theorem revInd {α : Type} {P : List α → Prop} (h0 : P []) (h1 : ∀ l c, P l → P (l ++ [c])) (l : List α) : P l := by
  have : ∀ r : List α, P r.reverse := by
    intro r
    induction r with
    | nil => exact h0
    | cons c r ih => rw [List.reverse_cons]; exact h1 _ _ ih
  have := this l.reverse
  rwa [List.reverse_reverse] at this
theorem rd_bnd (k : Int) (l : List Nat) : Bnd l.length (rd k l).1 ∧ (rd k l).2.length ≤ l.length := by
  refine revInd (P := fun l => Bnd l.length (rd k l).1 ∧ (rd k l).2.length ≤ l.length) ⟨⟨Nat.le_refl _, fun p hp => nomatch hp⟩, Nat.le_refl _⟩ (fun l c ih => ?_) l
  · show Bnd _ _ ∧ _
    rw [rd_snoc, List.length_append, List.length_singleton]
    unfold rdStep
    split
    · exact ⟨ih.1.mono (Nat.le_succ _), by simp; exact ih.2⟩
    · split
      · exact ⟨ih.1.snoc (Nat.le_succ_of_le ih.2) (by simp), Nat.zero_le _⟩
      · obtain ⟨h1, h2, h3, _⟩ := ih.1.pop
        exact ⟨h1.snoc (Nat.le_succ_of_le h2) (by simp; exact h3), Nat.le_succ_of_le ih.2⟩
section
variable {w : World} {mg mb : Str → Option Value} {H : Heap} {K : Kn} {n : Nat} {L : Addr} {bs : Bs} {own : Owns} {env : Env}
/-- the class called by its name -/
theorem Tv.make0 {pos pos' : Pos} {R : Fv → Owns → Prop} (BH : Base w mg mb H) (hl : env.kindOf "_Accumulator" = some .globalImplicit) (hn : 2 ≤ n) (h : ∀ x d, R (.ref x) ((x, .acc d 0 []) :: own))
    (hg : env.globals = mainGlobals := by rfl) (hk : env.scope.kind = .function := by rfl) :
    Tv w H K n L bs own (eval (.Call (.Name "_Accumulator" pos') [] [] pos) env) R := fun A s Q r S q => by
  show wpAny (model pw w) A (do callWith pos (← eval (.Name "_Accumulator" pos') env) [] (backTo pos (starEach [] env)) (backToKw pos (keywordEach [] env))) Q noE s
  refine wpAny_bind (Calls.Name_function_global hk hl (Calls.loadGlobal_global (by rw [hg]; exact BH.g.keeps S.keep) (BH.mgs "_Accumulator" (some (.ref 101)) (by kernel_rfl)) ?_))
  show wpAny (model pw w) A (callWith pos (.ref 101) [] [] []) Q noE s
  refine callWith_of (P := fun h => (KB w.params).In h) rfl (keeps_K (by kernel_rfl)) (PyProof.Rows.evalArgs_none ⟨(BH.ext S.keep).frag, ?_⟩)
  exact call_make BH (r.le hn) S (.inl ⟨rfl, rfl⟩) fun s' x d S' => q _ _ _ _ (h x d) rfl S'
theorem fn_read (k : Int) (l : List Nat) (hz : l.length ≤ 500) : Fn w mg mb 3 (.ref 193) [.int k, .str (T l)] noG fun f o => ∃ t p d, f = .ref t ∧
    o = [(t, .tup [.ref p, .str (T (rd k l).2)]), (p, .acc d 0 ((rd k l).1.map tp))] := by
  refine Fn.intro (names := [Str.ofString "kind", Str.ofString "line"]) (body := bodyOf (topSt 17)) (c := 192) (by rfl) (by rfl) rfl (fun H K B hG => ?_) (by rfl) (fun vals e => ?_)
  · refine Tf.cons (Tf.assign (by rfl) (Tv.make0 B (by rfl) (by decide) fun p d => ?_))
    refine Tf.cons (Tf.assign (by rfl) (Tv.str ?_))
    refine Tf.cons (Tf.for_str (by rfl) (Tv.name (by rfl) (by rfl) ⟨l, fun pre b r => b = [(Str.ofString "kind", .int k), (Str.ofString "line", .str (T l)), (Str.ofString "pile", .ref p), (Str.ofString "ahead", .str (T (rd k pre).2))] ∧
      r = [(p, .acc d 0 ((rd k pre).1.map tp))], rfl, ⟨rfl, rfl⟩, ?_, ?_⟩))
    · rintro pre c suf b r it j rfl ⟨rfl, rfl⟩
      have hb := rd_bnd k pre
      have hp : pre.length + 1 ≤ 500 := by simp only [List.length_append, List.length_cons] at hz; omega
      refine Tf.cons (Tf.if_ (Tb.value (Tv.callFn (G := noG) B (by rfl) (by rfl) (by rfl) rfl (by decide) (by decide) (Ts.cons (Tv.name (by rfl) (by rfl) (Ts.cons (Tv.name (by rfl) (by rfl) (Ts.nil ⟨fun _ _ => trivial, (fn_free k c).mono ?_⟩))))) (.inr ⟨_, _, rfl, rfl⟩))))
      rintro g o ⟨rfl, rfl⟩ v hv
      refine tr_b hv ?_
      have e0 := rd_snoc k pre c
      unfold rdStep at e0
      cases hf : isFree k c with
      | true =>
        rw [hf, if_pos rfl] at e0
        refine Tf.cons (Tf.aug (by rfl) (by rfl) (Tv.name (by rfl) (by rfl) fun v u hv hu => iadd_s hv hu (by simp; omega) ?_))
        refine Tf.nil (Tf.nil ⟨_, _, ⟨by rw [e0], by rw [e0]⟩, .cons rfl (.cons rfl (.cons rfl (.cons rfl .nil))), Sub.refl⟩)
      | false =>
        rw [hf, if_neg (by decide)] at e0
        have hlow : (lowT [c]).length ≤ 100000 := Nat.le_trans (lowT_len _) (by simp)
        refine Tf.cons (Tf.if_ (Tb.mono (R := fun b o => b = lettr c ∧ o = [(it, .raw (StrIt (T (pre ++ c :: suf)) j)), (p, .acc d 0 ((rd k pre).1.map tp))]) (Tb.chain2 (Tv.strT (l := [97]) (by decide +kernel) (Tv.lower (Tv.name (by rfl) (by rfl) ⟨[c], rfl, hlow, fun v u hv hu => le_t hv hu ⟨_, rfl, ?_⟩⟩)))) ?_))
        · unfold lettr
          cases h1 : !(decide (lowT [c] < [97])) with
          | true => exact Tv.strT (l := [122]) (by decide +kernel) fun y hy => le_t hu hy ⟨_, rfl, rfl, rfl⟩
          | false => exact ⟨rfl, rfl⟩
        · rintro b o ⟨rfl, rfl⟩
          cases hl : lettr c with
          | true =>
            rw [hl, if_pos rfl] at e0
            refine Tf.cons (Tf.expr (Tv.accCall (fa := 45) (fd := funcOf (o45 w.params)) B (by kernel_rfl) (by kernel_rfl) (by decide) (Tv.name (by rfl) (by rfl) ⟨p, d, 0, _, rfl, .tail _ (.head _), Ts.cons (Tv.name (by rfl) (by rfl) (Ts.cons (Tv.name (by rfl) (by rfl) (Ts.nil fun vals hvs => ?_)))) ⟩) (.inr ⟨_, _, rfl, rfl, rfl⟩)))
            obtain ⟨va, vb, rfl, ha, hb'⟩ := hvs.two
            refine Tv.push (i := 1) B ha hb' (by rfl) (by rw [List.length_map]; have := hb.1.1; omega) (by decide) ?_
            refine Tf.cons (Tf.assign (by rfl) (Tv.strT (l := []) (by decide +kernel) (Tf.nil (Tf.nil (Tf.nil ?_)))))
            refine ⟨_, _, ⟨by rw [e0], by rw [e0]⟩, .cons rfl (.cons rfl (.cons rfl (.cons rfl .nil))), ?_⟩
            rw [List.map_append]
            exact Sub.refl
          | false =>
            rw [hl, if_neg (by decide)] at e0
            obtain ⟨hb1, hb2, hb3, hb4⟩ := hb.1.pop
            refine Tf.cons (Tf.assign2 (by rfl) (by rfl) (Tv.accCall (fa := 61) (fd := funcOf (o61 w.params)) B (by kernel_rfl) (by kernel_rfl) (by decide) (Tv.name (by rfl) (by rfl) ⟨p, d, 0, _, rfl, .tail _ (.head _), Ts.nil fun vals hvs => ?_⟩) (.inl rfl)))
            cases hvs
            refine Tv.pop (i := 1) B (by rfl) (by rw [List.length_map]; have := hb.1.1; omega) (by decide) fun t => ⟨t, _, _, rfl, .head _, ?_⟩
            rw [popF_tp]
            refine Tf.cons (Tf.expr (Tv.accCall (fa := 45) (fd := funcOf (o45 w.params)) B (by kernel_rfl) (by kernel_rfl) (by decide) (Tv.name (by rfl) (by rfl) ⟨p, d, 0, _, rfl, .tail _ (.tail _ (.head _)), ?_⟩) (.inr ⟨_, _, rfl, rfl, rfl⟩)))
            refine Ts.cons (Tv.name (by rfl) (by rfl) (Ts.cons (Tv.binop (Tv.name (by rfl) (by rfl) (Tv.name (by rfl) (by rfl) fun v u hv hu => ?_)))))
            refine add_t (x := (popL (rd k pre).1).1.2) (y := [c]) hv hu (by simp; omega) (Ts.nil fun vals hvs => ?_)
            obtain ⟨va, vb, rfl, ha, hb'⟩ := hvs.two
            refine Tv.push (i := 2) (a := T (popL (rd k pre).1).1.1) B ha hb' (by rfl) (by rw [List.length_map]; have := hb.1.1; omega) (by decide) ?_
            refine Tf.nil (Tf.nil (Tf.nil ⟨_, _, ⟨by rw [e0], by rw [e0]⟩, .cons rfl (.cons rfl (.cons rfl (.cons rfl .nil))), ?_⟩))
            rw [List.map_append]
            exact Sub.skip Sub.refl
    · rintro b r ⟨rfl, rfl⟩
      refine Tf.nil (Tf.cons (Tf.ret (Tv.tuple (Ts.cons (Tv.name (by rfl) (by rfl) (Ts.cons (Tv.name (by rfl) (by rfl) (Ts.nil ⟨Nat.le_of_ble_eq_true rfl, fun t => ⟨t, p, d, rfl, rfl⟩⟩))))))))
  · match vals, e with
    | [v, u], _ => rfl
end
end Mine
end
section
open PySem.Calls
open AutoSeq1 (wpAny_loadPart')
namespace Mine
/- the step, as it is reckoned -/
noncomputable def popB (ca : PS) (c : List Nat) : List Nat := if (popL ca).1.2 = [] then c else (popL ca).1.2
noncomputable def layStep (st : PS × List Nat) (c : Nat) : PS × List Nat := ((popL st.1).2, st.2 ++ popB st.1 [c])
noncomputable def lay (st : PS × List Nat) (l : List Nat) : PS × List Nat := l.foldl layStep st
noncomputable def stpStep (free : List Nat) (st : PS × List Nat) (p : List Nat × List Nat) : PS × List Nat := ((lay st p.1).1 ++ [([], p.2)], (lay st p.1).2 ++ free)
noncomputable def stp1 (free : List Nat) (ps : PS) : PS × List Nat := ps.foldl (stpStep free) ([], [])
noncomputable def drain (ca : PS) : List Nat := (ca.reverse.map (·.2)).flatten
noncomputable def stepL (k : Int) (l free : List Nat) : List Nat := (lay (stp1 free (rd k l).1) (rd k l).2).2 ++ drain (lay (stp1 free (rd k l).1) (rd k l).2).1
theorem lay_snoc (st) (l : List Nat) (c : Nat) : lay st (l ++ [c]) = layStep (lay st l) c := by simp [lay]
theorem stp1_snoc (free) (ps : PS) (p) : stp1 free (ps ++ [p]) = stpStep free (stp1 free ps) p := by simp [stp1]
noncomputable def wt (ps : PS) : Nat := (ps.map fun p => p.1.length + p.2.length).sum
theorem wt_snoc (ps : PS) (p) : wt (ps ++ [p]) = wt ps + (p.1.length + p.2.length) := by simp [wt]
theorem wt_pop (ps : PS) : wt (popL ps).2 + ((popL ps).1.1.length + (popL ps).1.2.length) = wt ps := by
  rcases List.eq_nil_or_concat ps with rfl | ⟨qs, p, rfl⟩
  · rfl
  · rw [List.concat_eq_append, popL_snoc, wt_snoc]
theorem rd_wt (k : Int) (l : List Nat) : wt (rd k l).1 + (rd k l).2.length = l.length := by
  refine revInd (P := fun l => wt (rd k l).1 + (rd k l).2.length = l.length) rfl (fun l c ih => ?_) l
  show wt _ + _ = _
  rw [rd_snoc, List.length_append, List.length_singleton]
  unfold rdStep
  split
  · simp; omega
  · split
    · rw [wt_snoc]; simp; omega
    · rw [wt_snoc]
      have := wt_pop (rd k l).1
      simp only [List.length_append, List.length_singleton]
      omega
theorem pop_len (ps : PS) : (popL ps).2.length ≤ ps.length := by
  rcases List.eq_nil_or_concat ps with rfl | ⟨qs, p, rfl⟩
  · exact Nat.le_refl _
  · rw [List.concat_eq_append, popL_snoc]; simp
theorem lay_bnd (st : PS × List Nat) (l : List Nat) : wt (lay st l).1 + (lay st l).2.length ≤ wt st.1 + st.2.length + l.length ∧ (lay st l).1.length ≤ st.1.length := by
  refine revInd (P := fun l => wt (lay st l).1 + (lay st l).2.length ≤ wt st.1 + st.2.length + l.length ∧ (lay st l).1.length ≤ st.1.length) ⟨Nat.le_refl _, Nat.le_refl _⟩ (fun l c ih => ?_) l
  show _ ≤ _ ∧ _
  rw [lay_snoc, List.length_append, List.length_singleton]
  unfold layStep popB
  have h1 := wt_pop (lay st l).1
  have h2 := pop_len (lay st l).1
  refine ⟨?_, Nat.le_trans h2 ih.2⟩
  simp only [List.length_append]
  split <;> (try simp only [List.length_singleton]) <;> omega
theorem stp1_bnd (free : List Nat) (ps : PS) : wt (stp1 free ps).1 + (stp1 free ps).2.length ≤ wt ps + ps.length * free.length ∧ (stp1 free ps).1.length ≤ ps.length := by
  refine revInd (P := fun ps => wt (stp1 free ps).1 + (stp1 free ps).2.length ≤ wt ps + ps.length * free.length ∧ (stp1 free ps).1.length ≤ ps.length) ⟨Nat.zero_le _, Nat.le_refl _⟩ (fun ps p ih => ?_) ps
  show _ ≤ _ ∧ _
  rw [stp1_snoc, wt_snoc]
  unfold stpStep
  have h := lay_bnd (stp1 free ps) p.1
  rw [wt_snoc]
  simp only [List.length_append, List.length_singleton, List.length_nil, Nat.add_mul, Nat.one_mul]
  omega
theorem drain_snoc (ca : PS) (p) : drain (ca ++ [p]) = p.2 ++ drain ca := by simp [drain]
theorem drain_len (ca : PS) : (drain ca).length ≤ wt ca := by
  refine revInd (P := fun ca => (drain ca).length ≤ wt ca) (Nat.le_refl _) (fun ca p ih => ?_) ca
  show _ ≤ _
  rw [drain_snoc, wt_snoc, List.length_append]
  omega
theorem mul_bnd {a b A B : Nat} (h1 : a ≤ A) (h2 : b ≤ B) : a * b ≤ A * B := Nat.mul_le_mul h1 h2
theorem stepL_len (k : Int) (l free : List Nat) (hf : free.length ≤ 2) : (stepL k l free).length ≤ 3 * l.length := by
  unfold stepL
  have h1 := lay_bnd (stp1 free (rd k l).1) (rd k l).2
  have h2 := stp1_bnd free (rd k l).1
  have h3 := drain_len (lay (stp1 free (rd k l).1) (rd k l).2).1
  have h4 := rd_wt k l
  have h5 := (rd_bnd k l).1.1
  have h6 := mul_bnd h5 hf
  rw [List.length_append]
  omega
section
variable {w : World} {mg mb : Str → Option Value} {H : Heap} {K : Kn} {n : Nat} {L : Addr} {bs : Bs} {own : Owns} {env : Env}
/-- for x, y in an accumulator, by signs -/
theorem Tf.for_ps {x y : Str} {px py pt : Pos} {kt : Nat} {iter : Expr} {body orelse : List Stmt} {pos : Pos} {R : Fl → Bs → Owns → Prop} (BH : Base w mg mb H) (hx : env.kindOf x = some .local) (hy : env.kindOf y = some .local)
    (h : Tv w H K n env.locals bs own (eval iter env) fun f o₁ => ∃ a, ∃ ps : PS, ∃ J : PS → Bs → Owns → Prop, f = .ref a ∧ J [] bs o₁ ∧ (∀ k b r, J k b r → ∃ d z, (a, .acc d z (ps.map tp)) ∈ r) ∧
      (∀ pre p suf b r it k t, ps = pre ++ p :: suf → J pre b r → Tf w H K n env.locals (setB y (.str (T p.2)) (setB x (.str (T p.1)) b)) ((t, .tup [.str (T p.1), .str (T p.2)]) :: (it, .raw (ListIt a k)) :: r) (execs body env) fun fl b₃ o₃ => match fl with
        | .next | .cont => Turn (J (pre ++ [p])) [(it, .raw (ListIt a k))] b₃ o₃
        | .brk => False
        | .ret g => R (.ret g) b₃ o₃) ∧
      (∀ b r, J ps b r → Tf w H K n env.locals b r (execs orelse env) R))
    (hs : ∀ x, foldedSetIterable iter env x = Pure.pure x := by intro _; rfl)
    (hp : (env.scope.kind == .class || (env.scope.kind == .module && env.locals != env.globals)) = false := by rfl) :
    Tf w H K n env.locals bs own (exec (.For (.Tuple [.Name x px, .Name y py] kt pt) iter body orelse pos) env) R := by
  refine Tf.for_ (h.mono fun f o z v hv => ?_) hs
  obtain ⟨a, ps, J, rfl, h0, hS, turn, fin⟩ := z
  obtain rfl := hv
  obtain ⟨d, z, hm⟩ := hS _ _ _ h0
  refine Tv.iter_a BH hm fun it => ⟨it, _, _, _, _, o, fun k => J (ps.take k), rfl, rfl, iter_acc (ps.map tp), h0, fun _ _ _ q => hS _ _ _ q, ?_, ?_⟩
  · rintro k b r v f ex hk hJ ⟨t, p, hc, rfl, rfl⟩ hv
    obtain rfl := hv
    rw [List.getElem?_map] at hc
    obtain ⟨p', hc', rfl⟩ := Option.map_eq_some_iff.mp hc
    obtain ⟨e1, e2⟩ := take_snoc hc'
    refine Tu.tup2 hx hy (.head _) ?_ hp
    show Tf _ _ _ _ _ _ _ _ fun fl b₃ o₃ => match fl with
        | .next | .cont => Turn (J (ps.take (k + 1))) [(it, .raw (ListIt a (k + 1)))] b₃ o₃
        | .brk => False
        | .ret g => R (.ret g) b₃ o₃
    rw [e1]
    exact turn _ _ _ _ _ _ (k + 1) t e2 hJ
  · intro b r hJ
    simp only [List.length_map, List.take_length] at hJ
    exact fin b r hJ
theorem Tv.popM {x : Str} {px apos pos : Pos} {i : Nat} {p d : Addr} {z : Int} {ps : PS} {pl : Sem Bool} {R : Fv → Owns → Prop} (BH : Base w mg mb H) (hl : env.kindOf x = some .local) (e : bs.lookup x = some (.ref p)) (ei : own[i]? = some (p, .acc d z (ps.map tp))) (hps : ps.length ≤ 1000) (hn : 2 ≤ n)
    (h : ∀ t, R (.ref t) ((t, .tup [.str (T (popL ps).1.1), .str (T (popL ps).1.2)]) :: own.set i (p, .acc d z ((popL ps).2.map tp))))
    (he : eval (.Call (.Attribute (.Name x px) "pop" apos) [] [] pos) env = (do
      let ov ← eval (.Name x px) env
      standAt apos.atName
      let (f, first) ← holding [ov] (getMethod ov "pop" pl)
      callWith pos f first (backTo pos (starEach [] env)) []) := by rfl)
    (hk : env.scope.kind = .function := by rfl) (hd : (x == ("__debug__" : Str)) = false := by decide) :
    Tv w H K n env.locals bs own (eval (.Call (.Attribute (.Name x px) "pop" apos) [] [] pos) env) R := by
  refine Tv.accCall (fa := 61) (fd := funcOf (o61 w.params)) (pl := pl) BH (by kernel_rfl) (by kernel_rfl) (by decide) (Tv.name hl e ⟨p, d, z, _, rfl, List.mem_of_getElem? ei, Ts.nil fun vals hvs => ?_⟩ hk hd) (.inl rfl) he
  cases hvs
  refine Tv.pop BH ei (by rw [List.length_map]; exact hps) hn fun t => ?_
  rw [popF_tp]
  exact h t
theorem Tv.pushM {x : Str} {px apos pos : Pos} {e1 e2 : Expr} {p : Addr} {pl : Sem Bool} {R : Fv → Owns → Prop} (BH : Base w mg mb H) (hl : env.kindOf x = some .local) (e : bs.lookup x = some (.ref p)) (hm : ∃ d z ps, (p, .acc d z ps) ∈ own) (hn : 1 ≤ n)
    (h : Tv w H K n env.locals bs own (eval e1 env) fun f o₁ => Tv w H K n env.locals bs o₁ (eval e2 env) fun g o₂ => ∃ i d z, ∃ ps : PS, ∃ a b, f = .str (T a) ∧ g = .str (T b) ∧ o₂[i]? = some (p, .acc d z (ps.map tp)) ∧ ps.length ≤ 1000 ∧ R .none (o₂.set i (p, .acc d z ((ps ++ [(a, b)]).map tp))))
    (hs1 : starEach [e1, e2] env = (false, eval e1 env) :: starEach [e2] env := by rfl) (hs2 : starEach [e2] env = (false, eval e2 env) :: starEach [] env := by rfl)
    (he : eval (.Call (.Attribute (.Name x px) "push" apos) [e1, e2] [] pos) env = (do
      let ov ← eval (.Name x px) env
      standAt apos.atName
      let (f, first) ← holding [ov] (getMethod ov "push" pl)
      callWith pos f first (backTo pos (starEach [e1, e2] env)) []) := by rfl)
    (hk : env.scope.kind = .function := by rfl) (hd : (x == ("__debug__" : Str)) = false := by decide) :
    Tv w H K n env.locals bs own (eval (.Call (.Attribute (.Name x px) "push" apos) [e1, e2] [] pos) env) R := by
  obtain ⟨d, z, ps, hm⟩ := hm
  refine Tv.accCall (fa := 45) (fd := funcOf (o45 w.params)) (pl := pl) BH (by kernel_rfl) (by kernel_rfl) (by decide) (Tv.name hl e ⟨p, d, z, _, rfl, hm, Ts.cons (h.mono fun f o₁ y => Ts.cons (y.mono fun g o₂ y => Ts.nil fun vals hvs => ?_) hs2) hs1⟩ hk hd) (.inr ⟨_, _, rfl, hs1, by rw [hs2]; rfl⟩) he
  obtain ⟨i, d, z, ps, a, b, rfl, rfl, ei, hz, y⟩ := y
  obtain ⟨va, vb, rfl, ha, hb⟩ := hvs.two
  refine Tv.push BH ha hb ei (by rw [List.length_map]; exact hz) hn ?_
  rw [List.map_append] at y
  exact y
theorem Tv.partM {x : Str} {px apos pos : Pos} {i : Nat} {p d : Addr} {z : Int} {ps : PS} {pl : Sem Bool} {R : Fv → Owns → Prop} (BH : Base w mg mb H) (hl : env.kindOf x = some .local) (e : bs.lookup x = some (.ref p)) (ei : own[i]? = some (p, .acc d z (ps.map tp))) (hn : 1 ≤ n)
    (h : R (.int ps.length) own)
    (he : eval (.Call (.Attribute (.Name x px) "part_count" apos) [] [] pos) env = (do
      let ov ← eval (.Name x px) env
      standAt apos.atName
      let (f, first) ← holding [ov] (getMethod ov "part_count" pl)
      callWith pos f first (backTo pos (starEach [] env)) []) := by rfl)
    (hk : env.scope.kind = .function := by rfl) (hd : (x == ("__debug__" : Str)) = false := by decide) :
    Tv w H K n env.locals bs own (eval (.Call (.Attribute (.Name x px) "part_count" apos) [] [] pos) env) R := by
  refine Tv.accCall (fa := 98) (fd := funcOf (o98 w.params)) (pl := pl) BH (by kernel_rfl) (by kernel_rfl) (by decide) (Tv.name hl e ⟨p, d, z, _, rfl, List.mem_of_getElem? ei, Ts.nil fun vals hvs => ?_⟩ hk hd) (.inl rfl) he
  cases hvs
  refine Tv.part BH ei hn ?_
  rw [List.length_map]
  exact h
/-- t[i] of a tuple, i written -/
theorem Tv.subT {value : Expr} {i : Nat} {k : Nat} {p pos : Pos} {R : Fv → Owns → Prop} (hi : i < 1000000) (h : Tv w H K n L bs own (eval value env) fun f o => ∃ t fs g, f = .ref t ∧ (t, .tup fs) ∈ o ∧ fs[i]? = some g ∧ R g o) :
    Tv w H K n L bs own (eval (.Subscript value (.Constant (.int i) k p) pos) env) R := by
  refine Tv.sub (h.mono fun f o y => Tv.int fun v u hv hu => ?_)
  obtain ⟨t, fs, g, rfl, ht, hg, y⟩ := y
  obtain rfl := hv
  exact ⟨ty_tup ht, get_tup ht hu hi hg y⟩
theorem Tf.weak {t : Sem Flow} {bs' : Bs} {own' : Owns} {R : Fl → Bs → Owns → Prop} (h : Tf w H K n L bs' own' t R) (hb : BSub bs' bs) (ho : Sub own' own) : Tf w H K n L bs own t R := fun A s Q r S q => h A s Q r ((S.names hb.get).sub ho) q
theorem Tf.retW {e : Expr} {pos : Pos} {R : Fl → Bs → Owns → Prop} (h : Tv w H K n L bs own (eval e env) fun f o => ∃ o', Sub o' o ∧ R (.ret f) bs o') : Tf w H K n L bs own (exec (.Return (some e) pos) env) R := fun A s Q r S q =>
  wpAny_Return_some (h A s _ r S fun v s₁ f o ⟨o', ho, y⟩ hv S₁ => q _ _ _ _ _ y hv (S₁.sub ho))
theorem wt_split {ps pre suf : PS} {q} (h : ps = pre ++ q :: suf) : wt pre + (q.1.length + q.2.length) ≤ wt ps ∧ pre.length + 1 ≤ ps.length := by
  subst h
  simp [wt, List.length_append]
theorem pop_wt (ps : PS) : (popL ps).1.2.length ≤ wt ps := by have := wt_pop ps; omega
theorem layStep_nil {st : PS × List Nat} {c : Nat} (h : (popL st.1).1.2 = []) : layStep st c = ((popL st.1).2, st.2 ++ [c]) := by unfold layStep popB; rw [if_pos h]
theorem layStep_ball {st : PS × List Nat} {c : Nat} (h : (popL st.1).1.2 ≠ []) : layStep st c = ((popL st.1).2, st.2 ++ (popL st.1).1.2) := by unfold layStep popB; rw [if_neg h]
theorem fn_step (k : Int) (l free : List Nat) (hz : l.length ≤ 500) (hfr : free.length ≤ 2) : Fn w mg mb 4 (.ref 200) [.int k, .str (T l), .str (T free)] noG fun f o => f = .str (T (stepL k l free)) ∧ o = [] := by
  refine Fn.intro (names := [Str.ofString "kind", Str.ofString "line", Str.ofString "free"]) (body := bodyOf (topSt 18)) (c := 199) (by rfl) (by rfl) rfl (fun H K B hG => ?_) (by rfl) (fun vals e => ?_)
  · refine Tf.cons (Tf.assign2 (by rfl) (by rfl) (Tv.callFn (G := noG) B (by rfl) (by rfl) (by rfl) rfl (by decide) (by decide) (Ts.cons (Tv.name (by rfl) (by rfl) (Ts.cons (Tv.name (by rfl) (by rfl) (Ts.nil ⟨fun _ _ => trivial, (fn_read k l hz).mono ?_⟩))))) (.inr ⟨_, _, rfl, rfl⟩)))
    rintro g o ⟨t, p, d, rfl, rfl⟩
    refine ⟨t, _, _, rfl, .head _, ?_⟩
    refine Tf.cons (Tf.assign (by rfl) (Tv.make0 B (by rfl) (by decide) fun c dc => ?_))
    refine Tf.cons (Tf.assign (by rfl) (Tv.strT (l := []) (by decide +kernel) ?_))
    have hrd := rd_bnd k l
    have hwt := rd_wt k l
    have hrl := hrd.1.1
    refine Tf.weak (bs' := [(Str.ofString "free", .str (T free)), (Str.ofString "pile", .ref p), (Str.ofString "behind", .str (T (rd k l).2)), (Str.ofString "carrier", .ref c), (Str.ofString "laid", .str (T []))])
      (own' := [(c, .acc dc 0 []), (p, .acc d 0 ((rd k l).1.map tp))]) ?_ (.cons rfl (.cons rfl (.cons rfl (.cons rfl (.cons rfl .nil))))) (Sub.keep (Sub.skip Sub.refl))
    refine Tf.cons (Tf.for_ps B (by rfl) (by rfl) (Tv.name (by rfl) (by rfl) ⟨p, (rd k l).1, fun pre b r => b = [(Str.ofString "free", .str (T free)), (Str.ofString "pile", .ref p), (Str.ofString "behind", .str (T (rd k l).2)), (Str.ofString "carrier", .ref c), (Str.ofString "laid", .str (T (stp1 free pre).2))] ∧
      r = [(c, .acc dc 0 ((stp1 free pre).1.map tp)), (p, .acc d 0 ((rd k l).1.map tp))], rfl, ⟨rfl, rfl⟩, ?_, ?_, ?_⟩))
    · rintro pre b r ⟨rfl, rfl⟩; exact ⟨_, _, .tail _ (.head _)⟩
    · rintro pre q suf b r it j tq hsp ⟨rfl, rfl⟩
      have hsw := wt_split hsp
      have hst := stp1_bnd free pre
      have hmul : pre.length * free.length ≤ 500 * 2 := mul_bnd (by omega) hfr
      refine Tf.weak (bs' := [(Str.ofString "free", .str (T free)), (Str.ofString "pile", .ref p), (Str.ofString "behind", .str (T (rd k l).2)), (Str.ofString "carrier", .ref c), (Str.ofString "laid", .str (T (stp1 free pre).2)), (Str.ofString "ball", .str (T q.2)), (Str.ofString "signs", .str (T q.1))])
        (own' := [(it, .raw (ListIt p j)), (c, .acc dc 0 ((stp1 free pre).1.map tp)), (p, .acc d 0 ((rd k l).1.map tp))]) ?_ (.cons rfl (.cons rfl (.cons rfl (.cons rfl (.cons rfl (.cons rfl (.cons rfl .nil))))))) (Sub.skip Sub.refl)
      refine Tf.cons (Tf.for_str (by rfl) (Tv.name (by rfl) (by rfl) ⟨q.1, fun pre2 b r => b = [(Str.ofString "free", .str (T free)), (Str.ofString "pile", .ref p), (Str.ofString "behind", .str (T (rd k l).2)), (Str.ofString "carrier", .ref c), (Str.ofString "laid", .str (T (lay (stp1 free pre) pre2).2)), (Str.ofString "ball", .str (T q.2)), (Str.ofString "signs", .str (T q.1))] ∧
        r = [(it, .raw (ListIt p j)), (c, .acc dc 0 ((lay (stp1 free pre) pre2).1.map tp)), (p, .acc d 0 ((rd k l).1.map tp))], rfl, ⟨rfl, rfl⟩, ?_, ?_⟩))
      · rintro pre2 x suf2 b r it2 j2 hs2 ⟨rfl, rfl⟩
        have hl2 : pre2.length + 1 ≤ q.1.length := by rw [hs2]; simp
        have hlb := lay_bnd (stp1 free pre) pre2
        have hpw := pop_wt (lay (stp1 free pre) pre2).1
        refine Tf.cons (Tf.aug (by rfl) (by rfl) (Tv.or_s (Tv.subT (i := 1) (by decide) (Tv.popM (i := 2) B (by rfl) (by rfl) (by rfl) (by omega) (by decide) fun t2 => ⟨t2, _, _, rfl, .head _, rfl, _, rfl, by omega, ?_⟩))))
        by_cases hnil : (popL (lay (stp1 free pre) pre2).1).1.2 = []
        · rw [if_pos hnil]
          refine Tv.name (by rfl) (by rfl) fun v u hv hu => iadd_s (y := [x]) hv hu (by simp; omega) (Tf.nil ⟨_, _, ⟨by rw [lay_snoc, layStep_nil hnil], by rw [lay_snoc, layStep_nil hnil]; rfl⟩, .cons rfl (.cons rfl (.cons rfl (.cons rfl (.cons rfl (.cons rfl (.cons rfl .nil)))))), Sub.skip Sub.refl⟩)
        · rw [if_neg hnil]
          refine fun v u hv hu => iadd_s hv hu (by omega) (Tf.nil ⟨_, _, ⟨by rw [lay_snoc, layStep_ball hnil], by rw [lay_snoc, layStep_ball hnil]; rfl⟩, .cons rfl (.cons rfl (.cons rfl (.cons rfl (.cons rfl (.cons rfl (.cons rfl .nil)))))), Sub.skip Sub.refl⟩)
      · rintro b r ⟨rfl, rfl⟩
        have hlb := lay_bnd (stp1 free pre) q.1
        refine Tf.nil (Tf.cons (Tf.expr (Tv.pushM B (by rfl) (by rfl) ⟨_, _, _, .tail _ (.head _)⟩ (by decide) (Tv.strT (l := []) (by decide +kernel) (Tv.name (by rfl) (by rfl) ⟨1, _, _, _, [], q.2, rfl, rfl, rfl, by omega, ?_⟩)))))
        refine Tf.cons (Tf.aug (by rfl) (by rfl) (Tv.name (by rfl) (by rfl) fun v u hv hu => iadd_s hv hu (by omega) (Tf.nil ?_)))
        exact ⟨_, _, ⟨by rw [stp1_snoc]; try rfl, by rw [stp1_snoc]; try rfl⟩, .cons rfl (.cons rfl (.cons rfl (.cons rfl (.cons rfl .nil)))), Sub.refl⟩
    · rintro b r ⟨rfl, rfl⟩
      refine Tf.nil ?_
      have hst := stp1_bnd free (rd k l).1
      have hmul : (rd k l).1.length * free.length ≤ 500 * 2 := mul_bnd (by omega) hfr
      refine Tf.weak (bs' := [(Str.ofString "behind", .str (T (rd k l).2)), (Str.ofString "carrier", .ref c), (Str.ofString "laid", .str (T (stp1 free (rd k l).1).2))]) (own' := [(c, .acc dc 0 ((stp1 free (rd k l).1).1.map tp))]) ?_ (.cons rfl (.cons rfl (.cons rfl .nil))) (Sub.keep (Sub.nil))
      refine Tf.cons (Tf.for_str (by rfl) (Tv.name (by rfl) (by rfl) ⟨(rd k l).2, fun pre2 b r => b = [(Str.ofString "behind", .str (T (rd k l).2)), (Str.ofString "carrier", .ref c), (Str.ofString "laid", .str (T (lay (stp1 free (rd k l).1) pre2).2))] ∧
        r = [(c, .acc dc 0 ((lay (stp1 free (rd k l).1) pre2).1.map tp))], rfl, ⟨rfl, rfl⟩, ?_, ?_⟩))
      · rintro pre2 x suf2 b r it2 j2 hs2 ⟨rfl, rfl⟩
        have hl2 : pre2.length + 1 ≤ (rd k l).2.length := by rw [hs2]; simp
        have hlb := lay_bnd (stp1 free (rd k l).1) pre2
        have hpw := pop_wt (lay (stp1 free (rd k l).1) pre2).1
        refine Tf.cons (Tf.aug (by rfl) (by rfl) (Tv.or_s (Tv.subT (i := 1) (by decide) (Tv.popM (i := 1) B (by rfl) (by rfl) (by rfl) (by omega) (by decide) fun t2 => ⟨t2, _, _, rfl, .head _, rfl, _, rfl, by omega, ?_⟩))))
        by_cases hnil : (popL (lay (stp1 free (rd k l).1) pre2).1).1.2 = []
        · rw [if_pos hnil]
          refine Tv.name (by rfl) (by rfl) fun v u hv hu => iadd_s (y := [x]) hv hu (by simp; omega) (Tf.nil ⟨_, _, ⟨by rw [lay_snoc, layStep_nil hnil], by rw [lay_snoc, layStep_nil hnil]; try rfl⟩, .cons rfl (.cons rfl (.cons rfl .nil)), Sub.skip Sub.refl⟩)
        · rw [if_neg hnil]
          refine fun v u hv hu => iadd_s hv hu (by omega) (Tf.nil ⟨_, _, ⟨by rw [lay_snoc, layStep_ball hnil], by rw [lay_snoc, layStep_ball hnil]; try rfl⟩, .cons rfl (.cons rfl (.cons rfl .nil)), Sub.skip Sub.refl⟩)
      · rintro b r ⟨rfl, rfl⟩
        have hlb := lay_bnd (stp1 free (rd k l).1) (rd k l).2
        have hdl := drain_len (lay (stp1 free (rd k l).1) (rd k l).2).1
        generalize hcm : (lay (stp1 free (rd k l).1) (rd k l).2) = cm at *
        refine Tf.nil (Tf.weak (bs' := [(Str.ofString "carrier", .ref c), (Str.ofString "laid", .str (T cm.2))]) ?_ (.cons rfl (.cons rfl .nil)) Sub.refl)
        refine Tf.cons (Tf.while_ (fun m b r => ∃ ca : PS, ∃ la : List Nat, ca.length = m ∧ ca.length ≤ 500 ∧ la.length + wt ca ≤ 2000 ∧ la ++ drain ca = stepL k l free ∧ b = [(Str.ofString "carrier", .ref c), (Str.ofString "laid", .str (T la))] ∧ r = [(c, .acc dc 0 (ca.map tp))]) cm.1.length ?_ ?_)
        · exact ⟨cm.1, cm.2, rfl, by omega, by omega, by unfold stepL; rw [hcm], rfl, rfl⟩
        · rintro m b r ⟨ca, la, rfl, h1, h2, h3, rfl, rfl⟩
          refine Tb.compare1 (Tv.partM (i := 0) B (by rfl) (by rfl) (by rfl) (by decide) (Tv.int fun v u hv hu => gt_i hv hu ⟨_, rfl, ?_⟩))
          rcases List.eq_nil_or_concat ca with rfl | ⟨ca, q, rfl⟩
          · refine Tf.nil (Tf.cons (Tf.retW (Tv.name (by rfl) (by rfl) ⟨[], Sub.nil, ?_, rfl⟩)))
            simp [drain] at h3
            rw [h3]
          · rw [List.concat_eq_append] at *
            rw [show decide ((0 : Int) < ((ca ++ [q]).length : Nat)) = true from decide_eq_true (by simp)]
            rw [wt_snoc] at h2
            rw [List.length_append] at h1
            refine Tf.cons (Tf.aug (by rfl) (by rfl) (Tv.subT (i := 1) (by decide) (Tv.popM (i := 0) B (by rfl) (by rfl) (by rfl) (by simp; simp at h1; omega) (by decide) fun t2 => ⟨t2, _, _, rfl, .head _, rfl, ?_⟩)))
            rw [popL_snoc]
            refine fun v u hv hu => iadd_s hv hu (by simp; omega) (Tf.nil ?_)
            refine ⟨ca.length, by simp, _, _, ⟨ca, la ++ q.2, rfl, by simp at h1; omega, by simp; omega, ?_, rfl, rfl⟩, .cons rfl (.cons rfl .nil), Sub.skip Sub.refl⟩
            rw [← h3, drain_snoc, List.append_assoc]
  · match vals, e with
    | [v, u, y], _ => rfl
end
end Mine
end
section
open PySem.Calls
open AutoSeq1 (wpAny_loadPart')
namespace Mine
theorem slice1_T (x : List Nat) : Txt.slice (T x) (some 1) none = T (x.drop 1) := by
  cases x with
  | nil => rw [slice_from_beyond (by decide)]; rfl
  | cons c x =>
    have h := slice_closes_fromL (x := T (c :: x)) (i := 1) (b := (T (c :: x)).length) (by omega) (by rw [T_len, List.length_cons]; omega) rfl
    rw [beq_iff_eq] at h
    rw [h, T_cps, T_len]
    simp [T]
theorem fm_congr {α β : Type} {f g : α → Option β} : ∀ {l : List α}, (∀ x ∈ l, f x = g x) → l.filterMap f = l.filterMap g
  | [], _ => rfl
  | a :: l, h => by rw [List.filterMap_cons, List.filterMap_cons, h a (.head _), fm_congr fun x hx => h x (.tail _ hx)]
theorem FL.take {vs fs} (h : FL vs fs) : ∀ i, FL (vs.take i) (fs.take i) := by
  induction h with
  | nil => intro i; simp; exact .nil
  | cons a b ih =>
    intro i
    cases i with
    | zero => exact .nil
    | succ i => exact .cons a (ih i)
theorem FL.reverse {vs fs} (h : FL vs fs) : FL vs.reverse fs.reverse := by
  induction h with
  | nil => exact .nil
  | cons a b ih => rw [List.reverse_cons, List.reverse_cons]; exact ih.append (.cons a .nil)
theorem pick_take1 (items : Array Value) : (slicePick items none (some 1) none).toList = items.toList.take 1 := by
  rw [show (some (1 : Int)) = some ((1 : Nat) : Int) from rfl, slicePick_upto']
theorem pick_rev (items : Array Value) : (slicePick items none none (some (-1))).toList = items.toList.reverse := by
  have hb : sliceBounds none none (some (-1)) items.size = (((items.size : Int) - 1), -1, -1) := by simp [sliceBounds]
  unfold slicePick
  rw [hb]
  unfold sliceRange
  simp only [show ¬ ((-1 : Int) > 0) by decide, if_false]
  have hc : (if ((items.size : Int) - 1) > -1 then (((items.size : Int) - 1) - -1 - -1 - 1) / (- -1) else 0).toNat = items.size := by
    split <;> simp <;> omega
  rw [hc]
  show List.filterMap _ _ = _
  rw [List.filterMap_map]
  have e : List.filterMap ((fun x => items[x]?) ∘ fun (k : Nat) => ((items.size : Int) - 1 + -1 * (k : Int)).toNat) (List.range items.size) = List.filterMap (fun x => items.toList.reverse.toArray[x]?) (List.range items.size) := by
    refine fm_congr fun k hk => ?_
    have hk := List.mem_range.mp hk
    simp only [Function.comp]
    rw [show ((items.size : Int) - 1 + -1 * (k : Int)).toNat = items.size - 1 - k by omega]
    have h2 : k < items.toList.length := by rw [Array.length_toList]; exact hk
    have h3 := List.getElem?_reverse h2
    rw [Array.length_toList] at h3
    have h4 : items.toList.reverse.toArray[k]? = items.toList.reverse[k]? := List.getElem?_toArray ..
    rw [h4, h3]
    simp
  have p := pick_run items.toList.reverse.toArray 0 items.size
  simp only [Nat.zero_add, List.map_id'] at p
  rw [e, p, List.drop_zero, List.take_of_length_le (by simp)]
section
variable {w : World} {mg mb : Str → Option Value} {H : Heap} {K : Kn} {n : Nat} {L : Addr} {bs : Bs} {own : Owns} {env : Env}
theorem Tv.neg {e : Expr} {pos : Pos} {R : Fv → Owns → Prop} (h : Tv w H K n L bs own (eval e env) fun f o => ∃ i, f = .int i ∧ R (.int (-i)) o) : Tv w H K n L bs own (eval (.UnaryOp .USub e pos) env) R := fun A s Q r S q =>
  wpAny_UnaryOp (h A s _ r S fun v s₁ f o ⟨i, ef, y⟩ hv S₁ => by subst ef; exact neg_i hv y A s₁ Q r S₁ q)
/-- text[1:] -/
theorem Tv.from1 {value : Expr} {k : Nat} {p1 p pos : Pos} {R : Fv → Owns → Prop} (h : Tv w H K n L bs own (eval value env) fun f o => ∃ x, f = .str (T x) ∧ x.length ≤ 100000 ∧ R (.str (T (x.drop 1))) o)
    (ht : ∀ o r, letTemporaryGo value o r = Pure.pure () := by intro _ _; rfl) :
    Tv w H K n L bs own (eval (.Subscript value (.Slice (some (.Constant (.int 1) k p1)) .none .none p) pos) env) R := fun A s Q r S q => by
  refine wpAny_Subscript_Slice (T := "str") F.slot_str_getitem.lookup (h A s _ r S fun v s₁ f o₁ y hv S₁ => ?_) ht
  obtain ⟨x, rfl, hz, y⟩ := y
  obtain ⟨t, rfl⟩ := hv
  refine wpAny_Slice (wpAny_Constant_int (k := k) (pos := p1) (wpAny_pure (wpAny_pure ⟨typeIs_str _ _ _, ?_⟩)))
  refine wpAny_getItem_str_slice (l := some (1, _)) (u := .none) (st := .none) ⟨_, Heap.get?_push_size _ rfl, rfl, rfl⟩ rfl ?_
  refine post_val_or_str ⟨?_, fun t' j => ?_⟩
  · exact Nat.le_trans (Txt.slice_le _ (some 1) .none) (by rw [T_len]; exact Nat.le_trans hz (by decide))
  · have S' : St H K L bs o₁ { s₁ with heap := s₁.heap.push { cls := .type "slice", data := .fields #[.int 1 s₁.toks, .none, .none] }, toks := s₁.toks + 1 } := (S₁.toks (s₁.toks + 1)).ext S₁.rest.1 rfl (Ext.push _ _)
    refine q _ _ _ _ y ⟨t', ?_⟩ (S'.toks j)
    show Value.str (Txt.slice (T x) (some 1) .none) t' = _
    rw [slice1_T]
/-- list[:1] -/
theorem Tv.to1 {value : Expr} {k : Nat} {p1 p pos : Pos} {R : Fv → Owns → Prop} (h : Tv w H K n L bs own (eval value env) fun f o => ∃ a fs, f = .ref a ∧ Hs H o a (.list fs) ∧ fs.length ≤ 100000 ∧ ∀ b, R (.ref b) ((b, .list (fs.take 1)) :: o))
    (ht : ∀ o r, letTemporaryGo value o r = Pure.pure () := by intro _ _; rfl) :
    Tv w H K n L bs own (eval (.Subscript value (.Slice .none (some (.Constant (.int 1) k p1)) .none p) pos) env) R := fun A s Q r S q => by
  refine wpAny_Subscript_list_slice (h A s _ r S fun v s₁ f o₁ y hv S₁ => wpAny_pure (wpAny_Constant_int (k := k) (pos := p1) ?_)) ht
  obtain ⟨a, fs, rfl, ha, hz, y⟩ := y
  obtain rfl := hv
  obtain ⟨vs, j, e, fl⟩ := S₁.look ha
  have hl := fl.length
  rw [Array.length_toList] at hl
  refine ⟨a, vs, .none, some 1, rfl, ⟨_, e, rfl, j, rfl⟩, by have : sizeLine = 2 ^ 24 := rfl; omega, .none, .int _ _, ?_⟩
  have S' : St H K L bs o₁ { s₁ with heap := s₁.heap.push { cls := .type "slice", data := .fields #[.none, .int 1 s₁.toks, .none] }, toks := s₁.toks + 1 } := (S₁.toks (s₁.toks + 1)).ext S₁.rest.1 rfl (Ext.push _ _)
  have S2 := S'.push (o := { cls := .type "list", data := .seq (slicePick vs .none (some 1) .none) }) (t := s₁.toks + 1) (w := .list (fs.take 1)) ⟨_, 0, Heap.get?_push_size _ rfl, by rw [pick_take1]; exact fl.take 1⟩
  rw [Heap.size_push] at S2
  exact q _ _ _ _ (y _) rfl S2
/-- list[::-1] -/
theorem Tv.rev {value : Expr} {k : Nat} {p0 p1 p pos : Pos} {R : Fv → Owns → Prop} (h : Tv w H K n L bs own (eval value env) fun f o => ∃ a fs, f = .ref a ∧ Hs H o a (.list fs) ∧ fs.length ≤ 100000 ∧ ∀ b, R (.ref b) ((b, .list fs.reverse) :: o))
    (ht : ∀ o r, letTemporaryGo value o r = Pure.pure () := by intro _ _; rfl) :
    Tv w H K n L bs own (eval (.Subscript value (.Slice .none .none (some (.UnaryOp .USub (.Constant (.int 1) k p0) p1)) p) pos) env) R := fun A s Q r S q => by
  refine wpAny_Subscript_Slice_step (T := "list") list_getitem_lookup (h A s _ r S fun v s₁ f o₁ y hv S₁ => wpAny_Slice (wpAny_pure (wpAny_pure ?_))) ht
  obtain ⟨a, fs, rfl, ha, hz, y⟩ := y
  obtain rfl := hv
  refine (Tv.neg (R := fun f o => f = .int (-1) ∧ o = o₁) (Tv.int ⟨1, rfl, rfl, rfl⟩)) A s₁ _ r S₁ fun u s₂ g o₂ z hu S₂ => ?_
  obtain ⟨rfl, rfl⟩ := z
  obtain ⟨tk, rfl⟩ := hu
  obtain ⟨vs, j, e, fl⟩ := S₂.look ha
  have hl := fl.length
  rw [Array.length_toList] at hl
  have hL : (s₂.heap.push { cls := .type "slice", data := .fields #[.none, .none, .int (-1) tk] }).IsList a vs := Heap.IsList.push ⟨_, e, rfl, j, rfl⟩ _
  refine ⟨hL.typeIs, wpAny_getItem_list_slice (lo := .none) (hi := .none) (st := some (-1)) hL (Heap.IsSliceOf.new ..) .none .none (.int _ _) (by decide) ?_ (by have : sizeLine = 2 ^ 24 := rfl; omega)⟩
  have S' : St H K L bs o₂ { s₂ with heap := s₂.heap.push { cls := .type "slice", data := .fields #[.none, .none, .int (-1) tk] } } := S₂.ext S₂.rest.1 rfl (Ext.push _ _)
  have S2 := S'.push (o := { cls := .type "list", data := .seq (slicePick vs .none .none (some (-1))) }) (t := s₂.toks) (w := .list fs.reverse) ⟨_, 0, Heap.get?_push_size _ rfl, by rw [pick_rev]; exact fl.reverse⟩
  exact q _ _ _ _ (y _) rfl S2
end
end Mine
end
section
open PySem.Calls
open AutoSeq1 (wpAny_loadPart')
namespace Mine
theorem wpAny_rel {M : Model} {A : Around} {E : Value → Shared → Prop} {s : Shared} {vs keep : List Value} {Q : Unit → Shared → Prop} (h : Q () s) : wpAny M A (release vs keep) Q E s := fun Γ p hΓ => by rw [Sem.wp_release]; exact h
section
variable {w : World} {mg mb : Str → Option Value} {H : Heap} {K : Kn} {n : Nat} {L : Addr} {bs : Bs} {own : Owns} {env : Env}
theorem FL.set {vs fs} (h : FL vs fs) : ∀ {i : Nat} {v f}, FIs v f → FL (vs.set i v) (fs.set i f) := by
  induction h with
  | nil => intro i v f _; exact .nil
  | cons a b ih =>
    intro i v f hf
    cases i with
    | zero => exact .cons hf b
    | succ i => exact .cons a (ih hf)
theorem list_mut {a : Addr} {s : Shared} {vs : Array Value} {k : Nat} {h' : Heap} (e : s.heap.get? a = some { cls := .type "list", data := .seq vs k }) (hs : Heap.ExtBut a s.heap h') : Mut a s.heap h' :=
  ⟨(fun o eo q => by rw [e] at eo; cases eo; exact absurd q.1 (by simp)), hs⟩
theorem set_at {j : Nat} {a : Addr} {fs : List Fv} {u v : Value} {i : Int} {f : Fv} {R : Bs → Owns → Prop} (e : own[j]? = some (a, .list fs)) (hu : FIs u (.int i)) (hv : FIs v f) (h0 : 0 ≤ i) (h1 : i < fs.length) (hz : fs.length ≤ 100000)
    (h : R bs (own.set j (a, .list (fs.set i.toNat f)))) : Tu w H K n L bs own (setItem (.ref a) u v) R := fun A s Q r S q => by
  obtain ⟨vs, k, ex, fl⟩ := S.has _ (List.mem_of_getElem? e)
  obtain ⟨t, rfl⟩ := hu
  have hl := fl.length
  rw [Array.length_toList] at hl
  refine ki_setAt ex h0 (by omega) (by rw [hl]; exact h1) (q _ _ _ h (S.mut (i := j) (a := a) (w := .list fs) (w' := .list (fs.set i.toNat f)) e (t := s.toks) (list_mut ex (Heap.SameBut.update ..).extBut) ⟨_, _, Heap.get?_update_self _ ex rfl, ?_⟩ (n2 := rfl)))
  show FL (vs.setIfInBounds i.toNat v).toList _
  rw [Array.toList_setIfInBounds]
  exact fl.set hv
theorem set_last {j : Nat} {a : Addr} {fs : List Fv} {g : Fv} {u v : Value} {f : Fv} {R : Bs → Owns → Prop} (e : own[j]? = some (a, .list (fs ++ [g]))) (hu : FIs u (.int (-1))) (hv : FIs v f) (hz : fs.length ≤ 100000)
    (h : R bs (own.set j (a, .list (fs ++ [f])))) : Tu w H K n L bs own (setItem (.ref a) u v) R := fun A s Q r S q => by
  obtain ⟨vs, k, ex, fl⟩ := S.has _ (List.mem_of_getElem? e)
  obtain ⟨t, rfl⟩ := hu
  have hl := fl.length
  rw [Array.length_toList, List.length_append, List.length_singleton] at hl
  refine ki_setBack ex (by omega) (by omega) (by omega) (q _ _ _ h (S.mut (i := j) (a := a) (w := .list (fs ++ [g])) (w' := .list (fs ++ [f])) e (t := s.toks) (list_mut ex (Heap.SameBut.update ..).extBut) ⟨_, _, Heap.get?_update_self _ ex rfl, ?_⟩ (n2 := rfl)))
  show FL (vs.setIfInBounds _ v).toList _
  rw [Array.toList_setIfInBounds, show ((-1 : Int) + (vs.size : Int)).toNat = fs.length by omega]
  have := fl.set (i := fs.length) hv
  rwa [List.set_append_right _ _ (Nat.le_refl _), Nat.sub_self] at this
/-- v[i] op= e -/
theorem Tf.augSub {o i value : Expr} {op : Operator} {sp pos : Pos} {R : Fl → Bs → Owns → Prop}
    (h : Tv w H K n L bs own (eval o env) fun f o₁ => Tv w H K n L bs o₁ (eval i env) fun g o₂ => ∀ ov iv, FIs ov f → FIs iv g → Tv w H K n L bs o₂ (getItem ov iv) fun f₃ o₃ => Tv w H K n L bs o₃ (eval value env) fun f₄ o₄ => ∀ a b, FIs a f₃ → FIs b f₄ →
      Tv w H K n L bs o₄ (inplaceOp op a b) fun f₅ o₅ => ∀ c, FIs c f₅ → Tu w H K n L bs o₅ (setItem ov iv c) fun b' o₆ => R .next b' o₆)
    (ha : ∀ ov iv nv, augStore i ov iv nv = (do holding [nv, ov, iv] (setItem ov iv nv); release [nv, ov, iv] []; Pure.pure .next) := by intro _ _ _; rfl) :
    Tf w H K n L bs own (exec (.AugAssign (.Subscript o i sp) op value pos) env) R := fun A s Q r S q => by
  have e : exec (.AugAssign (.Subscript o i sp) op value pos) env = (do
      standAt pos
      let ov ← eval o env
      let iv ← holding [ov] (eval i env)
      let new ← holding [ov, iv] do
        standAt sp
        let old ← getItem ov iv
        let v ← holding [old] (eval value env)
        standAt pos
        operate [old, v] (inplaceOp op old v)
      standAt sp
      augStore i ov iv new) := rfl
  rw [e]
  refine wpAny_bind (wpAny_standAt (wpAny_bind (h A s _ r S fun ov s₁ f o₁ y hov S₁ => wpAny_bind (wpAny_holding (y A s₁ _ r S₁ fun iv s₂ g o₂ y hiv S₂ => ?_)))))
  refine wpAny_bind (wpAny_holding (wpAny_bind (wpAny_standAt (wpAny_bind (y ov iv hov hiv A s₂ _ r S₂ fun a s₃ f₃ o₃ y ha' S₃ => wpAny_bind (wpAny_holding (y A s₃ _ r S₃ fun b s₄ f₄ o₄ y hb S₄ => wpAny_bind (wpAny_standAt (wpAny_operating ?_)))))))))
  refine y a b ha' hb A s₄ _ r S₄ fun c s₅ f₅ o₅ y hc S₅ => wpAny_bind (wpAny_standAt ?_)
  rw [ha]
  refine wpAny_bind (wpAny_holding (y c hc A s₅ _ r S₅ fun s₆ b' o₆ y S₆ => wpAny_bind (wpAny_rel (wpAny_pure (q _ _ .next _ _ y trivial S₆)))))
/-- v[i] = e -/
theorem Tf.assignSub {o i value : Expr} {sp pos : Pos} {R : Fl → Bs → Owns → Prop}
    (h : Tv w H K n L bs own (eval value env) fun k o₁ => Tv w H K n L bs o₁ (eval o env) fun f o₂ => Tv w H K n L bs o₂ (eval i env) fun g o₃ => ∀ v ov iv, FIs v k → FIs ov f → FIs iv g → Tu w H K n L bs o₃ (setItem ov iv v) fun b' o₄ => R .next b' o₄)
    (he : exec (.Assign [.Subscript o i sp] value pos) env = (do standAt pos; let v ← eval value env; PySem.assign (.Subscript o i sp) env v; Pure.pure .next) := by rfl)
    (ha : ∀ v, PySem.assign (.Subscript o i sp) env v = (do
      let ov ← holding [v] (eval o env)
      let iv ← holding [v, ov] (eval i env)
      standAt sp
      holding [v, ov, iv] (setItem ov iv v)
      release [v, ov, iv] []) := by intro _; rfl) :
    Tf w H K n L bs own (exec (.Assign [.Subscript o i sp] value pos) env) R := fun A s Q r S q => by
  rw [he]
  refine wpAny_bind (wpAny_standAt (wpAny_bind (h A s _ r S fun v s₁ k o₁ y hv S₁ => wpAny_bind ?_)))
  rw [ha]
  refine wpAny_bind (wpAny_holding (y A s₁ _ r S₁ fun ov s₂ f o₂ y hov S₂ => wpAny_bind (wpAny_holding (y A s₂ _ r S₂ fun iv s₃ g o₃ y hiv S₃ => ?_))))
  refine wpAny_bind (wpAny_standAt (wpAny_bind (wpAny_holding (y v ov iv hv hov hiv A s₃ _ r S₃ fun s₄ b' o₄ y S₄ => wpAny_rel (wpAny_pure (q _ _ .next _ _ y trivial S₄))))))
theorem mulCore {A : Around} {E : Value → Shared → Prop} {s : Shared} {l : Addr} {items : Array Value} {k : Nat} {x : Int} {u : Tok} {Q : Value → Shared → Prop}
    (hl : s.heap.get? l = some { cls := .type "list", dict := none, data := .seq items k, slots := #[] })
    (hlo : -(2 ^ 63 : Int) ≤ x) (hhi : x < 2 ^ 63) (hsz : items.size * x.toNat ≤ 2 ^ 24)
    (h : Q (.ref s.heap.objs.size) { s with heap := s.heap.push { cls := .type "list", data := .seq (List.foldl (fun x1 x2 => x1 ++ x2) #[] (List.replicate (if items.isEmpty = true then 0 else x.toNat) items)) } }) :
    PySem.wpAny (model pw w) A (binaryOp .Mult (.ref l) (.int x u)) Q E s :=
  wpAny_binaryOp_repeat_ref (T := "list") (U := "int") (by decide) ⟨_, hl, rfl⟩ (fun s' => typeIs_int s' x u) noFill_list_mul F.fills_int_mul F.slot_int_rmul repeat_list F.slot_int_index.lookup
    (call_meets F.slot_int_rmul (typeIs_int s x u) F.entry_int_rmul (F.args_int_rmul_2 _ _) (int___rmul___int_list x u l items k)
      ⟨hl, rfl, ⟨_, hl, rfl⟩, call_meets F.slot_list_mul ⟨_, hl, rfl⟩ F.entry_list_mul (F.args_list_mul_2 _ _)
        (AutoListH.list___mul___list_int_3 l items k x u (by simp [Builtin.List.listFitsIndex]; omega) (by omega) (by simp [Builtin.List.listTooLong, sizeLine]; omega))
        ⟨hl, h⟩⟩)
theorem mul_l {a : Addr} {f : Fv} {u : Value} {m : Nat} {R : Fv → Owns → Prop} (ha : Hs H own a (.list [f])) (hu : FIs u (.int m)) (hz : m ≤ 100000) (h : ∀ b, R (.ref b) ((b, .list (List.replicate m f)) :: own)) :
    Tv w H K n L bs own (binaryOp .Mult (.ref a) u) R := fun A s Q r S q => by
  obtain ⟨vs, k, e, fl⟩ := S.look ha
  obtain ⟨t, rfl⟩ := hu
  obtain ⟨v, ev, hv⟩ := fl.one
  have hvs : vs = #[v] := by rw [← ev]
  subst hvs
  have hf : FIs v f := hv
  have S' := S.push (o := { cls := .type "list", data := .seq (List.foldl (fun x1 x2 => x1 ++ x2) #[] (List.replicate (if (#[v] : Array Value).isEmpty = true then 0 else (m : Int).toNat) #[v])) }) (t := s.toks) (w := .list (List.replicate m f)) ⟨_, 0, Heap.get?_push_size _ rfl, ?_⟩
  · have hsz : (#[v] : Array Value).size * (m : Int).toNat ≤ 2 ^ 24 := by rw [show (#[v] : Array Value).size = 1 from rfl, Int.toNat_natCast]; omega
    exact mulCore e (by omega) (by omega) hsz (q _ _ _ _ (h _) rfl S')
  · have e1 : ∀ (j : Nat) (acc : Array Value), (List.foldl (fun x1 x2 => x1 ++ x2) acc (List.replicate j #[v])).toList = acc.toList ++ List.replicate j v := by
      intro j
      induction j with
      | zero => intro acc; simp
      | succ j ih => intro acc; rw [List.replicate_succ, List.foldl_cons, ih, List.replicate_succ]; simp
    have e2 : ∀ j : Nat, FL (List.replicate j v) (List.replicate j f) := by
      intro j
      induction j with
      | zero => exact .nil
      | succ j ih => exact .cons hf ih
    rw [show (#[v] : Array Value).isEmpty = false from rfl, if_neg (by decide), e1]
    exact e2 _
theorem add_l {a b : Addr} {fs gs : List Fv} {R : Fv → Owns → Prop} (ha : Hs H own a (.list fs)) (hb : Hs H own b (.list gs)) (hz : fs.length + gs.length ≤ 100000) (h : ∀ c, R (.ref c) ((c, .list (fs ++ gs)) :: own)) :
    Tv w H K n L bs own (binaryOp .Add (.ref a) (.ref b)) R := fun A s Q r S q => by
  obtain ⟨vs, k, e, fl⟩ := S.look ha
  obtain ⟨us, k', e', fl'⟩ := S.look hb
  have hl := fl.length
  have hl' := fl'.length
  rw [Array.length_toList] at hl hl'
  refine P.add_list e e' (q _ _ _ _ (h _) rfl (S.push (t := s.toks) (w := .list (fs ++ gs)) ⟨_, 0, Heap.get?_push_size _ rfl, ?_⟩)) (by have : sizeLine = 2 ^ 24 := rfl; omega)
  rw [Array.toList_append]
  exact fl.append fl'
end
end Mine
end
section
open PySem.Calls
open AutoSeq1 (wpAny_loadPart')
namespace Mine
noncomputable def drain2 (ps : PS) : List Nat := (ps.reverse.map fun p => p.2 ++ p.1).flatten
noncomputable def turnL (k : Int) (l : List Nat) : List Nat := (rd k l).2 ++ drain2 (rd k l).1
theorem drain2_snoc (ps : PS) (p) : drain2 (ps ++ [p]) = p.2 ++ p.1 ++ drain2 ps := by simp [drain2]
theorem drain2_len (ps : PS) : (drain2 ps).length = wt ps := by
  refine revInd (P := fun ps => (drain2 ps).length = wt ps) rfl (fun ps p ih => ?_) ps
  show _ = _
  rw [drain2_snoc, wt_snoc, List.length_append, List.length_append]
  omega
theorem turnL_len (k : Int) (l : List Nat) : (turnL k l).length = l.length := by
  unfold turnL
  have := rd_wt k l
  rw [List.length_append, drain2_len]
  omega
noncomputable def isUp (b : List Nat) : Bool := !(decide ([b.headD 0] < [65])) && !(decide ([90] < [b.headD 0]))
noncomputable def sizStep (st : List Int) (p : List Nat × List Nat) : List Int := if isUp p.2 = true then st ++ [1] else st.dropLast ++ [st.getLastD 0 + 1]
noncomputable def sizes (ps : PS) : List Int := ps.foldl sizStep []
theorem sizes_snoc (ps : PS) (p) : sizes (ps ++ [p]) = sizStep (sizes ps) p := by simp [sizes]
/-- every ball is a text, the first one great -/
noncomputable def Okb (ps : PS) : Prop := (∀ p ∈ ps, p.2 ≠ []) ∧ ∀ p, ps.head? = some p → isUp p.2 = true
theorem sizes_ne {ps : PS} (h : ps ≠ []) : sizes ps ≠ [] := by
  rcases List.eq_nil_or_concat ps with rfl | ⟨qs, p, rfl⟩
  · exact absurd rfl h
  · rw [List.concat_eq_append, sizes_snoc]
    unfold sizStep
    split <;> simp
theorem sizes_len (ps : PS) : (sizes ps).length ≤ ps.length := by
  refine revInd (P := fun ps => (sizes ps).length ≤ ps.length) (Nat.le_refl _) (fun ps p ih => ?_) ps
  show _ ≤ _
  rw [sizes_snoc, List.length_append, List.length_singleton]
  unfold sizStep
  split
  · simp; exact ih
  · simp; omega
section
variable {w : World} {mg mb : Str → Option Value} {H : Heap} {K : Kn} {n : Nat} {L : Addr} {bs : Bs} {own : Owns} {env : Env}
theorem fn_turn (k : Int) (l : List Nat) (hz : l.length ≤ 500) : Fn w mg mb 4 (.ref 207) [.int k, .str (T l)] noG fun f o => f = .str (T (turnL k l)) ∧ o = [] := by
  refine Fn.intro (names := [Str.ofString "kind", Str.ofString "line"]) (body := bodyOf (topSt 19)) (c := 206) (by rfl) (by rfl) rfl (fun H K B hG => ?_) (by rfl) (fun vals e => ?_)
  · refine Tf.cons (Tf.assign2 (by rfl) (by rfl) (Tv.callFn (G := noG) B (by rfl) (by rfl) (by rfl) rfl (by decide) (by decide) (Ts.cons (Tv.name (by rfl) (by rfl) (Ts.cons (Tv.name (by rfl) (by rfl) (Ts.nil ⟨fun _ _ => trivial, (fn_read k l hz).mono ?_⟩))))) (.inr ⟨_, _, rfl, rfl⟩)))
    rintro g o ⟨t, p, d, rfl, rfl⟩
    refine ⟨t, _, _, rfl, .head _, ?_⟩
    have hwt := rd_wt k l
    have hrd := (rd_bnd k l).1.1
    refine Tf.weak (bs' := [(Str.ofString "pile", .ref p), (Str.ofString "turned", .str (T (rd k l).2))]) (own' := [(p, .acc d 0 ((rd k l).1.map tp))]) ?_ (.cons rfl (.cons rfl .nil)) (Sub.skip Sub.refl)
    refine Tf.cons (Tf.while_ (fun m b r => ∃ ca : PS, ∃ la : List Nat, ca.length = m ∧ ca.length ≤ 500 ∧ la.length + wt ca ≤ 2000 ∧ la ++ drain2 ca = turnL k l ∧ b = [(Str.ofString "pile", .ref p), (Str.ofString "turned", .str (T la))] ∧ r = [(p, .acc d 0 (ca.map tp))]) (rd k l).1.length ?_ ?_)
    · exact ⟨_, _, rfl, by omega, by omega, rfl, rfl, rfl⟩
    · rintro m b r ⟨ca, la, rfl, h1, h2, h3, rfl, rfl⟩
      refine Tb.compare1 (Tv.partM (i := 0) B (by rfl) (by rfl) (by rfl) (by decide) (Tv.int fun v u hv hu => gt_i hv hu ⟨_, rfl, ?_⟩))
      rcases List.eq_nil_or_concat ca with rfl | ⟨ca, q, rfl⟩
      · refine Tf.nil (Tf.cons (Tf.retW (Tv.name (by rfl) (by rfl) ⟨[], Sub.nil, ?_, rfl⟩)))
        simp [drain2] at h3
        rw [h3]
      · rw [List.concat_eq_append] at *
        rw [show decide ((0 : Int) < ((ca ++ [q]).length : Nat)) = true from decide_eq_true (by simp)]
        rw [wt_snoc] at h2
        rw [List.length_append] at h1
        refine Tf.cons (Tf.assign2 (by rfl) (by rfl) (Tv.popM (i := 0) B (by rfl) (by rfl) (by rfl) (by simp; simp at h1; omega) (by decide) fun t2 => ⟨t2, _, _, rfl, .head _, ?_⟩))
        rw [popL_snoc]
        refine Tf.cons (Tf.aug (by rfl) (by rfl) (Tv.binop (Tv.name (by rfl) (by rfl) (Tv.name (by rfl) (by rfl) fun v u hv hu => add_t (x := q.2) (y := q.1) hv hu (by omega) fun v u hv hu => iadd_s hv hu (by simp; omega) (Tf.nil ?_)))))
        refine ⟨ca.length, by simp, _, _, ⟨ca, la ++ (q.2 ++ q.1), rfl, by simp at h1; omega, by simp; omega, ?_, rfl, rfl⟩, .cons rfl (.cons rfl .nil), Sub.skip Sub.refl⟩
        rw [← h3, drain2_snoc]
        simp
  · match vals, e with
    | [v, u], _ => rfl
theorem fn_sizes (k : Int) (l : List Nat) (hz : l.length ≤ 500) (hok : Okb (rd k l).1) : Fn w mg mb 4 (.ref 221) [.int k, .str (T l)] noG fun f o => ∃ a, f = .ref a ∧ o = [(a, .list ((sizes (rd k l).1).map .int))] := by
  refine Fn.intro (names := [Str.ofString "kind", Str.ofString "text"]) (body := bodyOf (topSt 21)) (c := 220) (by rfl) (by rfl) rfl (fun H K B hG => ?_) (by rfl) (fun vals e => ?_)
  · refine Tf.cons (Tf.assign (by rfl) (Tv.list (Ts.nil ⟨Nat.le_of_ble_eq_true rfl, fun sz => ?_⟩)))
    refine Tf.cons (Tf.for_ps B (by rfl) (by rfl) (Tv.subT (i := 0) (by decide) (Tv.callFn (G := noG) B (by rfl) (by rfl) (by rfl) rfl (by decide) (by decide) (Ts.cons (Tv.name (by rfl) (by rfl) (Ts.cons (Tv.name (by rfl) (by rfl) (Ts.nil ⟨fun _ _ => trivial, (fn_read k l hz).mono ?_⟩))))) (.inr ⟨_, _, rfl, rfl⟩))))
    rintro g o ⟨t, p, d, rfl, rfl⟩
    refine ⟨t, _, _, rfl, .head _, rfl, p, (rd k l).1, fun pre b r => b = [(Str.ofString "kind", .int k), (Str.ofString "text", .str (T l)), (Str.ofString "sizes", .ref sz)] ∧ r = [(t, .tup [.ref p, .str (T (rd k l).2)]), (p, .acc d 0 ((rd k l).1.map tp)), (sz, .list ((sizes pre).map .int))], rfl, ⟨rfl, rfl⟩, ?_, ?_, ?_⟩
    · rintro pre b r ⟨rfl, rfl⟩; exact ⟨_, _, .tail _ (.head _)⟩
    · rintro pre q suf b r it j tq hsp ⟨rfl, rfl⟩
      have hrd := (rd_bnd k l).1.1
      have hsl := sizes_len pre
      have hpl : pre.length ≤ 500 := by have := (wt_split hsp).2; omega
      have hne : q.2 ≠ [] := hok.1 q (by rw [hsp]; simp)
      have hgr : pre = [] → isUp q.2 = true := fun e => hok.2 q (by rw [hsp, e]; rfl)
      obtain ⟨c, cs, hc⟩ : ∃ c cs, q.2 = c :: cs := by cases hq : q.2 with | nil => exact absurd hq hne | cons c cs => exact ⟨c, cs, rfl⟩
      have e0 := sizes_snoc pre q
      unfold sizStep at e0
      refine Tf.cons (Tf.if_ (Tb.mono (R := fun b o => b = isUp q.2 ∧ o = [(tq, .tup [.str (T q.1), .str (T q.2)]), (it, .raw (ListIt p j)), (t, .tup [.ref p, .str (T (rd k l).2)]), (p, .acc d 0 ((rd k l).1.map tp)), (sz, .list ((sizes pre).map .int))]) (Tb.chain2 (Tv.strT (l := [65]) (by decide +kernel) (Tv.sub (Tv.name (by rfl) (by rfl) (Tv.int fun v u hv hu => ⟨ty_str hv, get_str (c := c) hv hu (by decide) (by rw [hc]; rfl) fun v u hv hu => le_t hv hu ⟨_, rfl, ?_⟩⟩))))) ?_))
      · have ec : [c] = [q.2.headD 0] := by rw [hc]; rfl
        unfold isUp
        rw [← ec]
        cases h1 : !(decide ([c] < [65])) with
        | true => exact Tv.strT (l := [90]) (by decide +kernel) fun y hy => le_t hu hy ⟨_, rfl, rfl, rfl⟩
        | false => exact ⟨rfl, rfl⟩
      · rintro b o ⟨rfl, rfl⟩
        cases hu : isUp q.2 with
        | true =>
          rw [hu, if_pos rfl] at e0
          refine Tf.cons (Tf.expr (Tv.lappend (Tv.name (by rfl) (by rfl) ⟨sz, _, rfl, .tail _ (.tail _ (.tail _ (.tail _ (.head _)))), Tv.int ⟨4, _, rfl, by rw [List.length_map]; omega, Tf.nil (Tf.nil ?_)⟩⟩)))
          exact ⟨_, _, ⟨rfl, by rw [e0, List.map_append]; rfl⟩, .cons rfl (.cons rfl (.cons rfl .nil)), Sub.skip Sub.refl⟩
        | false =>
          rw [hu, if_neg (by decide)] at e0
          have hpn : sizes pre ≠ [] := sizes_ne fun e => by rw [hgr e] at hu; cases hu
          obtain ⟨ss, z, hss⟩ : ∃ ss z, sizes pre = ss ++ [z] := by
            rcases List.eq_nil_or_concat (sizes pre) with e | ⟨ss, z, e⟩
            · exact absurd e hpn
            · exact ⟨ss, z, by rw [e, List.concat_eq_append]⟩
          rw [hss] at e0
          rw [hss, List.map_append]
          rw [hss] at hsl
          have hsl' : ss.length ≤ 500 := by simp at hsl; omega
          refine Tf.cons (Tf.augSub (Tv.name (by rfl) (by rfl) (Tv.neg (Tv.int ⟨1, rfl, fun ov iv hov hiv => ?_⟩))))
          obtain rfl := hov
          refine get_list_last (.inr (.tail _ (.tail _ (.tail _ (.tail _ (.head _)))))) hiv (Tv.int fun a b ha hb => iadd_i ha hb fun c hc => ?_)
          refine set_last (j := 4) (by rfl) hiv hc (by rw [List.length_map]; omega) (Tf.nil (Tf.nil ?_))
          refine ⟨_, _, ⟨rfl, by rw [e0]⟩, .cons rfl (.cons rfl (.cons rfl .nil)), ?_⟩
          simp only [List.dropLast_concat, List.getLastD_concat, List.map_append]
          exact Sub.skip Sub.refl
    · rintro b r ⟨rfl, rfl⟩
      exact Tf.nil (Tf.cons (Tf.retW (Tv.name (by rfl) (by rfl) ⟨_, Sub.skip (Sub.skip Sub.refl), sz, rfl, rfl⟩)))
  · match vals, e with
    | [v, u], _ => rfl
end
end Mine
end
section
open PySem.Calls
open AutoSeq1 (wpAny_loadPart')
namespace Mine
noncomputable def EnumO (it : Addr) (k : Nat) (o : Obj) : Prop := ∃ old, o = { cls := .type "enumerate", dict := none, data := .fields #[.none, .bool false, .ref it, rawInt k, .none, old], slots := #[] }
theorem nt_enum {it : Addr} {k : Nat} : ∀ o, EnumO it k o → ¬ IsTupO o := fun o ⟨v, h⟩ ⟨_, vs, n, hd'⟩ => by rw [h] at hd'; cases hd'
section
variable {w : World} {mg mb : Str → Option Value} {H : Heap} {K : Kn} {n : Nat} {L : Addr} {bs : Bs} {own : Owns} {env : Env}
theorem St.swap {s : Shared} {a b : Addr × Own} {rest : Owns} (S : St H K L bs (a :: b :: rest) s) : St H K L bs (b :: a :: rest) s := S.perm (List.Perm.swap ..)
/-- two owned things turn -/
theorem St.turn2 {s : Shared} {a b : Addr} {P P' Q Q' : Obj → Prop} {rest : Owns} (S : St H K L bs ((a, .raw P) :: (b, .raw Q) :: rest) s) {h' : Heap} {t : Nat} (hab : a ≠ b)
    (hs : ∀ c o, c ≠ a → c ≠ b → s.heap.get? c = some o → h'.get? c = some o) (ha : ∃ o, h'.get? a = some o ∧ P' o) (hb : ∃ o, h'.get? b = some o ∧ Q' o)
    (hP : ∀ o, P o → ¬ IsTupO o) (hQ : ∀ o, Q o → ¬ IsTupO o) : St H K L bs ((a, .raw P') :: (b, .raw Q') :: rest) { s with heap := h', toks := t } := by
  obtain ⟨oa, ea, pa⟩ := S.has _ (.head _)
  obtain ⟨ob, eb, pb⟩ := S.has _ (.tail _ (.head _))
  obtain ⟨oa', ea', pa'⟩ := ha
  obtain ⟨ob', eb', pb'⟩ := hb
  have hf : ob'.isFreed = false := (Heap.get?_some_iff.mp eb').2
  have S1 := St.turn (P' := Q') (t := s.toks) S.swap (Heap.SameBut.update (h := s.heap) b fun _ => ob').extBut ⟨ob', Heap.get?_update_self _ eb hf, pb'⟩ hQ
  refine St.turn (P' := P') (t := t) S1.swap (h' := h') (fun c o hc e => ?_) ⟨oa', ea', pa'⟩ hP
  by_cases hcb : c = b
  · subst hcb
    have e2 := Heap.get?_update_self (h := s.heap) (fun _ => ob') eb hf
    rw [e2] at e
    cases e
    exact eb'
  · refine hs c o hc hcb ?_
    rw [← e]
    exact ((Heap.SameBut.update (h := s.heap) b fun _ => ob').2 c hcb).symm
theorem enumerate_ {l : Addr} {fs : List Fv} {R : Fv → Owns → Prop} (hl : Hs H own l (.list fs)) (h : ∀ e it, R (.ref e) ((e, .raw (EnumO it 0)) :: (it, .raw (ListIt l 0)) :: own)) :
    Tv w H K n L bs own (call (.type "enumerate") [.ref l]) R := fun A s Q r S q => by
  obtain ⟨vs, k, e, _⟩ := S.look hl
  refine callType_new F.called_enumerate (by decide) (F.typeCall_enumerate_1 _) (F.newCall_enumerate_1 _) (fun obj => F.args_object_init_2 obj _) F.entry_enumerate_new (meets_enumerate_new l vs k) ⟨e, ?_⟩
  have S1 := S.push (o := { cls := .type "list_iterator", data := .fields #[.ref l, .int 0 0] }) (t := s.toks) (w := .raw (ListIt l 0)) ⟨_, Heap.get?_push_size _ rfl, rfl, rfl⟩
  have S2 := S1.push (o := { cls := .type "enumerate", data := .fields #[.none, .bool false, .ref s.heap.objs.size, rawInt 0, .none, .none] }) (t := s.toks) (w := .raw (EnumO s.heap.objs.size 0)) ⟨_, Heap.get?_push_size _ rfl, _, rfl⟩
  exact ⟨⟨_, Heap.get?_push_size _ rfl, rfl⟩, q _ _ _ _ (h _ _) rfl S2⟩
theorem iter_enum {e it l : Addr} {elts : List Expr} {x1 : Nat} {pos : Pos} (fs : List Fv) :
    Iter w H K (.Tuple elts x1 pos) e fs.length (fun k => [(e, .raw (EnumO it k)), (it, .raw (ListIt l k))]) (fun r => Hs H r l (.list fs)) (fun k f ex => ∃ t g, fs[k]? = some g ∧ f = .ref t ∧ ex = [(t, .tup [.int k, g])]) where
  next := fun k L bs rest A s Q hk hh S hl q => by
    obtain ⟨oe, ee, old, rfl⟩ := S.has _ (.head _)
    obtain ⟨oi, ei, hit⟩ := S.has _ (.tail _ (.head _))
    obtain ⟨vs, nl, el, fl⟩ := S.look (hl.elim .inl fun h => .inr (.tail _ (.tail _ h)))
    obtain ⟨v, hv, hf⟩ := fl.get (i := k) (f := fs[k]) (by simp [hk])
    have hne : e ≠ it := by
      intro q
      subst q
      have ei' : s.heap.get? e = some oi := ei
      have ee' := ee
      rw [show s.heap.get? (e, Own.raw (EnumO e k)).fst = some oi from ei'] at ee'
      cases ee'
      exact absurd hit.1 (by simp)
    refine wpAny_pyNext_enum_item ee ⟨oi, ei, hit⟩ ⟨_, el, rfl, nl, rfl⟩ (by simpa using hv) hne fun h' he' hit' ht hz hk' => ?_
    refine wpAny_letOwnedTupleGo_enum he' fun h₂ he₂ hs₂ => ?_
    have hlt : e < s.heap.objs.size := Heap.lt_size ee
    have hilt : it < s.heap.objs.size := Heap.lt_size ei
    obtain ⟨o2, e2, hit2⟩ := hit'.extBut hs₂.extBut (Ne.symm hne)
    have S' := S.turn2 (P' := EnumO it (k + 1)) (Q' := ListIt l (k + 1)) (h' := h₂) (t := s.toks + 1) hne (fun c o h1 h2 ec => hs₂.extBut c o h1 (hk' c o h1 h2 ec)) ⟨_, he₂, v, rfl⟩ ⟨_, e2, hit2⟩ nt_enum nt_list
    have ht2 : h₂.get? s.heap.objs.size = some { cls := .type "tuple", data := .seq #[.int k s.toks, v] } := hs₂.extBut _ _ (Nat.ne_of_gt hlt) ht
    refine q _ _ _ _ ⟨s.heap.objs.size, _, List.getElem?_eq_getElem hk, rfl, rfl⟩ rfl (S'.tup ⟨_, ht2, .cons ⟨_, rfl⟩ (.cons hf .nil)⟩)
  done := fun L bs rest A s Q hh S hl q => by
    obtain ⟨oe, ee, old, rfl⟩ := S.has _ (.head _)
    obtain ⟨oi, ei, hit⟩ := S.has _ (.tail _ (.head _))
    obtain ⟨vs, nl, el, fl⟩ := S.look (hl.elim .inl fun h => .inr (.tail _ (.tail _ h)))
    have := fl.length
    refine wpAny_pyNext_enum_end hh ee ⟨oi, ei, hit⟩ ⟨_, el, rfl, nl, rfl⟩ (by simp only [Array.length_toList] at this; simp [this]) fun h' hs => ⟨rfl, q _ ((St.off S.swap hs (hP := nt_list)).weak (List.sublist_cons_self ..))⟩
  self := fun L bs rest A s Q S q => by
    obtain ⟨oe, ee, old, rfl⟩ := S.has _ (.head _)
    exact wpAny_pyIter_enum (i := 0) ee q
/-- for x, y in enumerate(list) -/
theorem Tf.for_enum {x y : Str} {px py pt : Pos} {kt : Nat} {iter : Expr} {body orelse : List Stmt} {pos : Pos} {R : Fl → Bs → Owns → Prop} (hx : env.kindOf x = some .local) (hy : env.kindOf y = some .local)
    (h : Tv w H K n env.locals bs own (eval iter env) fun f o₁ => ∃ e it l rest, ∃ fs : List Fv, ∃ J : List Fv → Bs → Owns → Prop, f = .ref e ∧ o₁ = (e, .raw (EnumO it 0)) :: (it, .raw (ListIt l 0)) :: rest ∧ J [] bs rest ∧ (∀ k b r, J k b r → Hs H r l (.list fs)) ∧
      (∀ pre p suf b r k t, fs = pre ++ p :: suf → J pre b r → Tf w H K n env.locals (setB y p (setB x (.int pre.length) b)) ((t, .tup [.int pre.length, p]) :: (e, .raw (EnumO it k)) :: (it, .raw (ListIt l k)) :: r) (execs body env) fun fl b₃ o₃ => match fl with
        | .next | .cont => Turn (J (pre ++ [p])) [(e, .raw (EnumO it k)), (it, .raw (ListIt l k))] b₃ o₃
        | .brk => False
        | .ret g => R (.ret g) b₃ o₃) ∧
      (∀ b r, J fs b r → Tf w H K n env.locals b r (execs orelse env) R))
    (hs : ∀ x, foldedSetIterable iter env x = Pure.pure x := by intro _; rfl)
    (hp : (env.scope.kind == .class || (env.scope.kind == .module && env.locals != env.globals)) = false := by rfl) :
    Tf w H K n env.locals bs own (exec (.For (.Tuple [.Name x px, .Name y py] kt pt) iter body orelse pos) env) R := by
  refine Tf.for_ (h.mono fun f o z v hv => ?_) hs
  obtain ⟨e, it, l, rest, fs, J, rfl, rfl, h0, hS, turn, fin⟩ := z
  obtain rfl := hv
  intro A s Q r S q
  obtain ⟨oe, ee, old, rfl⟩ := S.has _ (.head _)
  refine wpAny_pyIter_enum (i := 0) ee (q _ _ _ _ ⟨e, _, _, _, _, rest, fun k => J (fs.take k), rfl, rfl, iter_enum fs, h0, fun _ _ _ q => hS _ _ _ q, ?_, ?_⟩ rfl S)
  · rintro k b r v f ex hk hJ ⟨t, p, hc, rfl, rfl⟩ hv
    obtain rfl := hv
    obtain ⟨e1, e2⟩ := take_snoc hc
    have hkl : (fs.take k).length = k := by simp; omega
    have hm := turn _ _ _ _ _ (k + 1) t e2 hJ
    rw [hkl] at hm
    refine Tu.tup2 hx hy (.head _) ?_ hp
    show Tf _ _ _ _ _ _ _ _ fun fl b₃ o₃ => match fl with
        | .next | .cont => Turn (J (fs.take (k + 1))) [(e, .raw (EnumO it (k + 1))), (it, .raw (ListIt l (k + 1)))] b₃ o₃
        | .brk => False
        | .ret g => R (.ret g) b₃ o₃
    rw [e1]
    exact hm
  · intro b r hJ
    simp only [List.take_length] at hJ
    exact fin b r hJ
end
end Mine
end
section
open PySem.Calls
open AutoSeq1 (wpAny_loadPart')
namespace Mine
theorem T_ne (x y : List Nat) : (T x != T y) = (x != y) := by
  rw [Bool.eq_iff_iff, bne_iff_ne, bne_iff_ne]
  exact ⟨fun h e => h (by rw [e]), fun h e => h (T_inj e)⟩
theorem T_beq (x y : List Nat) : (T x == T y) = (x == y) := by
  rw [Bool.eq_iff_iff, beq_iff_eq, beq_iff_eq]
  exact ⟨T_inj, fun e => by rw [e]⟩
noncomputable def isb (boxes : List (List Nat)) (free : List Nat) (i : Nat) : Bool := match boxes[i]? with
  | some b => b != free
  | none => false
noncomputable def closeL (boxes : List (List Nat)) (free : List Nat) : Nat → Nat → Nat → Nat
  | 0, to, _ => to
  | m + 1, to, d => if d = 0 then to else closeL boxes free m (to + 1) (if isb boxes free (to + 1) then d + 1 else d - 1)
theorem closeL_zero (boxes free) : ∀ m to, closeL boxes free m to 0 = to
  | 0, _ => rfl
  | _ + 1, _ => rfl
theorem closeL_lt (boxes : List (List Nat)) (free : List Nat) (N : Nat) (hN : N = boxes.length) : ∀ m to d, d + 2 * (N - to) ≤ m → to + d + 2 * (N - 1 - to) ≤ 2 * N - 1 → to ≤ closeL boxes free m to d ∧ closeL boxes free m to d ≤ 2 * N - 1 := by
  intro m
  induction m with
  | zero => intro to d h1 h2; exact ⟨Nat.le_refl _, by show to ≤ _; omega⟩
  | succ m ih =>
    intro to d h1 h2
    unfold closeL
    split
    · exact ⟨Nat.le_refl _, by omega⟩
    · rename_i hd
      cases hb : isb boxes free (to + 1) with
      | true =>
        have hlt : to + 1 < N := by
          unfold isb at hb
          split at hb
          · rename_i e; exact hN ▸ (List.getElem?_eq_some_iff.mp e).1
          · cases hb
        have := ih (to + 1) (d + 1) (by omega) (by omega)
        simp only [if_true]
        omega
      | false =>
        have := ih (to + 1) (d - 1) (by omega) (by omega)
        simp only [Bool.false_eq_true, if_false]
        omega
noncomputable def cloStep (boxes : List (List Nat)) (free : List Nat) (st : Nat × List (List Nat)) (p : List Nat) : Nat × List (List Nat) :=
  (st.1 + 1, if (p != free) = true then st.2.set (closeL boxes free (1 + 2 * (boxes.length - st.1)) st.1 1) p else st.2)
noncomputable def closed (boxes : List (List Nat)) (free : List Nat) (pre : List (List Nat)) : Nat × List (List Nat) := pre.foldl (cloStep boxes free) (0, List.replicate (2 * boxes.length) free)
theorem closed_snoc (boxes free pre p) : closed boxes free (pre ++ [p]) = cloStep boxes free (closed boxes free pre) p := by simp [closed]
theorem closed_fst (boxes free pre) : (closed boxes free pre).1 = pre.length := by
  refine revInd (P := fun pre => (closed boxes free pre).1 = pre.length) rfl (fun pre p ih => ?_) pre
  show _ = _
  rw [closed_snoc, List.length_append, List.length_singleton, ← ih]
  rfl
theorem closed_len (boxes free pre) : (closed boxes free pre).2.length = 2 * boxes.length := by
  refine revInd (P := fun pre => (closed boxes free pre).2.length = 2 * boxes.length) (by simp [closed]) (fun pre p ih => ?_) pre
  show _ = _
  rw [closed_snoc]
  unfold cloStep
  split
  · show (List.set ..).length = _; rw [List.length_set]; exact ih
  · exact ih
theorem closed_mem (boxes free pre) : ∀ l ∈ (closed boxes free pre).2, l = free ∨ l ∈ pre := by
  refine revInd (P := fun pre => ∀ l ∈ (closed boxes free pre).2, l = free ∨ l ∈ pre) (fun l hl => .inl (List.eq_of_mem_replicate hl)) (fun pre p ih => ?_) pre
  intro l hl
  rw [closed_snoc] at hl
  unfold cloStep at hl
  have go : l ∈ (closed boxes free pre).2 → l = free ∨ l ∈ pre ++ [p] := fun h => (ih l h).imp id fun h => List.mem_append_left _ h
  split at hl
  · rcases List.mem_or_eq_of_mem_set hl with h | rfl
    · exact go h
    · exact .inr (by simp)
  · exact go hl
theorem fvs_split {ls : List (List Nat)} : ∀ {pre : List Fv} {p suf}, Fvs ls = pre ++ p :: suf → ∃ a b c, ls = a ++ b :: c ∧ pre = Fvs a ∧ p = .str (T b) := fun {pre p suf} h => by
  obtain ⟨a, r, rfl, ha, hr⟩ := List.map_eq_append_iff.mp h
  obtain ⟨b, c, rfl, hb, hc⟩ := List.map_eq_cons_iff.mp hr
  exact ⟨a, b, c, rfl, ha.symm, hb.symm⟩
theorem fvs_inj {a b : List (List Nat)} (h : Fvs a = Fvs b) : a = b :=
  (List.map_inj_right (fun x y e => by injection e with e; exact T_inj e)).mp h
theorem fvs_set (la : List (List Nat)) (i : Nat) (b : List Nat) : (Fvs la).set i (.str (T b)) = Fvs (la.set i b) := by unfold Fvs; rw [List.map_set]
theorem fvs_get {ls : List (List Nat)} {i : Nat} {b} (h : ls[i]? = some b) : (Fvs ls)[i]? = some (.str (T b)) := by unfold Fvs; rw [List.getElem?_map, h]; rfl
theorem fvs_len (ls : List (List Nat)) : (Fvs ls).length = ls.length := by simp [Fvs]
section
variable {w : World} {mg mb : Str → Option Value} {H : Heap} {K : Kn} {n : Nat} {L : Addr} {bs : Bs} {own : Owns} {env : Env}
theorem fn_closed (a : Addr) (boxes : List (List Nat)) (free : List Nat) (hz : boxes.length ≤ 100) (hb : ∀ l ∈ boxes, l.length ≤ 100) (hf : free.length ≤ 100) :
    Fn w mg mb 2 (.ref 228) [.ref a, .str (T free)] (fun h => (Own.list (Fvs boxes)).At h a) fun f o => f = .str (T (joinL [] (closed boxes free boxes).2)) ∧ o = [] := by
  refine Fn.intro (names := [Str.ofString "boxes", Str.ofString "free"]) (body := bodyOf (topSt 22)) (c := 227) (by rfl) (by rfl) rfl (fun H K B hG => ?_) (by rfl) (fun vals e => ?_)
  · have hB : ∀ {o : Owns}, Hs H o a (.list (Fvs boxes)) := .inl hG
    have hfl := fvs_len boxes
    refine Tf.cons (Tf.assign (by rfl) (Tv.binop (Tv.list (Ts.cons (Tv.name (by rfl) (by rfl) (Ts.nil ⟨Nat.le_of_ble_eq_true rfl, fun l0 => ?_⟩))))))
    refine Tv.binop (Tv.int (Tv.callB (id := "len") B (by rfl) (by decide +kernel) (by rfl) (Ts.cons (Tv.name (by rfl) (by rfl) (Ts.nil fun vals hvs => ?_)))))
    obtain ⟨v, rfl, hv⟩ := hvs.one
    obtain rfl := hv
    refine len_l hB (by omega) fun v u hv hu => mul_i hv hu (.of_left (intBits_le_64 (by decide) (by decide))) fun v u hv hu => ?_
    obtain rfl := hv
    refine mul_l (m := 2 * boxes.length) (.inr (.head _)) (by rw [hfl] at hu; exact hu) (by omega) fun la => ?_
    have e0 : List.replicate (2 * boxes.length) (Fv.str (T free)) = Fvs (closed boxes free []).2 := by simp [closed, Fvs]
    rw [e0]
    refine Tf.weak (bs' := [(Str.ofString "boxes", .ref a), (Str.ofString "free", .str (T free)), (Str.ofString "laid", .ref la)]) (own' := [(la, .list (Fvs (closed boxes free []).2))]) ?_ (.cons rfl (.cons rfl (.cons rfl .nil))) (Sub.keep Sub.nil)
    refine Tf.cons (Tf.for_enum (by rfl) (by rfl) (Tv.callT (id := "enumerate") B (by rfl) (by decide +kernel) (by rfl) (Ts.cons (Tv.name (by rfl) (by rfl) (Ts.nil fun vals hvs => ?_)))))
    obtain ⟨v, rfl, hv⟩ := hvs.one
    obtain rfl := hv
    refine enumerate_ (fs := Fvs boxes) hB fun e it => ⟨e, it, a, _, Fvs boxes, fun pre b r => ∃ pb, pre = Fvs pb ∧ b = [(Str.ofString "boxes", .ref a), (Str.ofString "free", .str (T free)), (Str.ofString "laid", .ref la)] ∧ r = [(la, .list (Fvs (closed boxes free pb).2))], rfl, rfl, ⟨[], rfl, rfl, rfl⟩, fun _ _ _ _ => hB, ?_, ?_⟩
    · rintro pre p suf b r k t hsp ⟨pb, rfl, rfl, rfl⟩
      obtain ⟨pb', q, sf, hsp', hpe, rfl⟩ := fvs_split hsp
      have hpb : pb = pb' := fvs_inj hpe
      subst hpb
      rw [fvs_len]
      have hlen : pb.length + 1 ≤ boxes.length := by rw [hsp']; simp
      have hcl := closed_len boxes free pb
      have hq : q.length ≤ 100 := hb q (by rw [hsp']; simp)
      have es := closed_snoc boxes free pb q
      unfold cloStep at es
      rw [closed_fst] at es
      have es2 := congrArg Prod.snd es
      dsimp only at es2
      refine Tf.cons (Tf.if_ (Tb.compare1 (Tv.name (by rfl) (by rfl) (Tv.name (by rfl) (by rfl) fun v u hv hu => ne_s hv hu ⟨_, rfl, ?_⟩))))
      rw [T_ne]
      cases hqf : (q != free) with
      | false =>
        rw [hqf, if_neg (by decide)] at es2
        refine Tf.nil (Tf.nil ⟨_, _, ⟨pb ++ [q], by simp [Fvs], rfl, by rw [es2]⟩, .cons rfl (.cons rfl (.cons rfl .nil)), Sub.skip Sub.refl⟩)
      | true =>
        rw [hqf, if_pos rfl] at es2
        have hcb := closeL_lt boxes free boxes.length rfl (1 + 2 * (boxes.length - pb.length)) pb.length 1 (Nat.le_refl _) (by omega)
        refine Tf.cons (Tf.assign (by rfl) (Tv.int ?_))
        refine Tf.cons (Tf.assign (by rfl) (Tv.name (by rfl) (by rfl) ?_))
        generalize htg : closeL boxes free (1 + 2 * (boxes.length - pb.length)) pb.length 1 = tg at *
        refine Tf.cons (Tf.mono (R := fun f b' o' => f = .next ∧ ∃ o'', o' = o'' ∧ o'' = [(la, .list (Fvs (closed boxes free pb).2)), (e, .raw (EnumO it k)), (it, .raw (ListIt a k))] ∧ b' = [(Str.ofString "boxes", .ref a), (Str.ofString "free", .str (T free)), (Str.ofString "laid", .ref la), (Str.ofString "box", .str (T q)), (Str.ofString "to", .int tg)])
          (Tf.weak (bs' := [(Str.ofString "boxes", .ref a), (Str.ofString "free", .str (T free)), (Str.ofString "laid", .ref la), (Str.ofString "box", .str (T q)), (Str.ofString "depth", .int (1 : Nat)), (Str.ofString "to", .int pb.length)]) (own' := [(la, .list (Fvs (closed boxes free pb).2)), (e, .raw (EnumO it k)), (it, .raw (ListIt a k))])
            (Tf.while_ (fun m b o => ∃ to d : Nat, d + 2 * (boxes.length - to) ≤ m ∧ closeL boxes free m to d = tg ∧ b = [(Str.ofString "boxes", .ref a), (Str.ofString "free", .str (T free)), (Str.ofString "laid", .ref la), (Str.ofString "box", .str (T q)), (Str.ofString "depth", .int d), (Str.ofString "to", .int to)] ∧ o = [(la, .list (Fvs (closed boxes free pb).2)), (e, .raw (EnumO it k)), (it, .raw (ListIt a k))])
              (1 + 2 * (boxes.length - pb.length)) ⟨pb.length, 1, Nat.le_refl _, htg, rfl, rfl⟩ ?_)
            (.cons rfl (.cons rfl (.cons rfl (.cons rfl (.cons rfl (.cons rfl .nil)))))) ((Sub.skip Sub.refl).perm ?_)) ?_)
        · rintro m b o ⟨to, d, hm, hc, rfl, rfl⟩
          refine Tb.compare1 (Tv.name (by rfl) (by rfl) (Tv.int fun v u hv hu => gt_i hv hu ⟨_, rfl, ?_⟩))
          cases d with
          | zero =>
            rw [closeL_zero] at hc
            subst hc
            refine Tf.weak (bs' := [(Str.ofString "boxes", .ref a), (Str.ofString "free", .str (T free)), (Str.ofString "laid", .ref la), (Str.ofString "box", .str (T q)), (Str.ofString "to", .int to)]) (Tf.nil ⟨rfl, _, rfl, rfl, rfl⟩) (.cons rfl (.cons rfl (.cons rfl (.cons rfl (.cons rfl .nil))))) Sub.refl
          | succ d =>
            obtain ⟨m, rfl⟩ : ∃ m', m = m' + 1 := ⟨m - 1, by omega⟩
            rw [show decide ((0 : Int) < ((d + 1 : Nat) : Int)) = true from decide_eq_true (by omega)]
            unfold closeL at hc
            rw [if_neg (by omega)] at hc
            refine Tf.cons (Tf.aug (by rfl) (by rfl) (Tv.int fun v u hv hu => iadd_i hv hu ?_))
            refine Tf.cons (Tf.aug (by rfl) (by rfl) (Tv.ifExp (Tb.mono (R := fun b o => b = isb boxes free (to + 1) ∧ o = [(la, .list (Fvs (closed boxes free pb).2)), (e, .raw (EnumO it k)), (it, .raw (ListIt a k))]) (Tb.boolOp (Tb.and_cons (Tb.compare1 (Tv.name (by rfl) (by rfl) (Tv.callB (id := "len") B (by rfl) (by decide +kernel) (by rfl) (Ts.cons (Tv.name (by rfl) (by rfl) (Ts.nil fun vals hvs => ?_)))))))) ?_)))
            · obtain ⟨v, rfl, hv⟩ := hvs.one
              obtain rfl := hv
              refine len_l hB (by omega) fun v u hv hu => lt_i hv hu ⟨_, rfl, ?_⟩
              unfold isb
              by_cases hlt : to + 1 < boxes.length
              · have hg : boxes[to + 1]? = some boxes[to + 1] := List.getElem?_eq_getElem hlt
                rw [if_pos (decide_eq_true (by omega))]
                refine Tb.and_cons (Tb.compare1 (Tv.sub (Tv.name (by rfl) (by rfl) (Tv.name (by rfl) (by rfl) fun v u hv hu => ?_))))
                obtain rfl := hv
                refine ⟨ty_list hB, get_list (i := (to + 1 : Nat)) (f := .str (T boxes[to + 1])) hB hu (by omega) (by omega) (by rw [Int.toNat_natCast]; exact fvs_get hg) (Tv.name (by rfl) (by rfl) fun v u hv hu => ne_s hv hu ⟨_, rfl, ?_⟩)⟩
                rw [T_ne, hg]
                dsimp only
                cases (boxes[to + 1] != free) with
                | true => exact Tb.and_nil ⟨rfl, rfl⟩
                | false => exact ⟨rfl, rfl⟩
              · have hg : boxes[to + 1]? = none := List.getElem?_eq_none (by omega)
                rw [if_neg (by rw [decide_eq_true_eq]; omega), hg]
                exact ⟨rfl, rfl⟩
            · rintro b o ⟨rfl, rfl⟩
              cases hib : isb boxes free (to + 1) with
              | true =>
                rw [hib, if_pos rfl] at hc
                have hlt : to + 1 < boxes.length := by
                  unfold isb at hib
                  split at hib
                  · rename_i e; exact (List.getElem?_eq_some_iff.mp e).1
                  · cases hib
                rw [if_pos rfl]
                refine Tv.int fun v u hv hu => iadd_i hv hu (Tf.nil ?_)
                exact ⟨m, Nat.lt_succ_self _, _, _, ⟨to + 1, d + 1 + 1, by omega, hc, rfl, rfl⟩, .cons rfl (.cons rfl (.cons rfl (.cons rfl (.cons rfl (.cons rfl .nil))))), Sub.refl⟩
              | false =>
                rw [hib, if_neg (by decide)] at hc
                rw [if_neg (by decide)]
                refine Tv.neg (Tv.int ⟨1, rfl, fun v u hv hu => iadd_i hv hu (Tf.nil ?_)⟩)
                refine ⟨m, Nat.lt_succ_self _, _, _, ⟨to + 1, d, by omega, hc, rfl, rfl⟩, .cons rfl (.cons rfl (.cons rfl (.cons rfl (.cons ?_ (.cons rfl .nil))))), Sub.refl⟩
                show some (Fv.int (((d + 1 : Nat) : Int) + -1)) = some (Fv.int d)
                rw [show ((d + 1 : Nat) : Int) + -1 = (d : Int) by omega]
        · exact (List.perm_append_comm (l₁ := [(e, Own.raw (EnumO it k)), (it, Own.raw (ListIt a k))]) (l₂ := [(la, .list (Fvs (closed boxes free pb).2))]))
        · rintro f b' o' ⟨rfl, o'', rfl, rfl, rfl⟩
          refine Tf.cons (Tf.assignSub (Tv.name (by rfl) (by rfl) (Tv.name (by rfl) (by rfl) (Tv.name (by rfl) (by rfl) fun v ov iv hv hov hiv => ?_))))
          obtain rfl := hov
          refine set_at (j := 0) (by rfl) hiv hv (by omega) (by rw [fvs_len]; omega) (by rw [fvs_len]; omega) (Tf.nil (Tf.nil ?_))
          rw [Int.toNat_natCast, fvs_set]
          refine ⟨_, _, ⟨pb ++ [q], by simp [Fvs], rfl, rfl⟩, .cons rfl (.cons rfl (.cons rfl .nil)), ?_⟩
          rw [es2]
          exact Sub.refl.perm (List.perm_append_comm (l₁ := [(la, _)]) (l₂ := [(e, Own.raw (EnumO it k)), (it, Own.raw (ListIt a k))]))
    · rintro b r ⟨pb, hpe, rfl, rfl⟩
      have hpb : pb = boxes := (fvs_inj hpe).symm
      subst hpb
      have hcl := closed_len pb free pb
      refine Tf.nil (Tf.cons (Tf.retW (Tv.join (Tv.strT (l := []) (by decide +kernel) ⟨[], rfl, by decide, Tv.name (by rfl) (by rfl) ⟨la, _, rfl, .inr (.head _), by omega, fun l hl => ?_, [], Sub.nil, rfl, rfl⟩⟩))))
      rcases closed_mem pb free pb l hl with rfl | h
      · omega
      · have := hb l h; omega
  · match vals, e with
    | [v, u], _ => rfl
end
end Mine
end
section
open PySem.Calls
open AutoSeq1 (wpAny_loadPart')
namespace Mine
section
variable {w : World} {mg mb : Str → Option Value} {H : Heap} {K : Kn} {n : Nat} {L : Addr} {bs : Bs} {own : Owns} {env : Env}
theorem fn_cells (a : Addr) (ns : List Int) : Fn w mg mb 1 (.ref 169) [.ref a] (fun h => (Own.list (ns.map .int)).At h a) fun f o => ∃ b c0 c1 c2, f = .ref b ∧ o = [(b, .list [.int c0, .int c1, .int c2])] := by
  refine Fn.intro (names := [Str.ofString "script"]) (body := bodyOf (topSt 13)) (c := 168) (by rfl) (by rfl) rfl (fun H K B hG => ?_) (by rfl) (fun vals e => ?_)
  · refine Tf.cons (Tf.assign (by rfl) (Tv.list (Ts.cons (Tv.int (Ts.cons (Tv.int (Ts.cons (Tv.int (Ts.nil ⟨Nat.le_of_ble_eq_true rfl, fun cs => ?_⟩)))))))))
    refine Tf.cons (Tf.for_enum (by rfl) (by rfl) (Tv.callT (id := "enumerate") B (by rfl) (by decide +kernel) (by rfl) (Ts.cons (Tv.name (by rfl) (by rfl) (Ts.nil fun vals hvs => ?_)))))
    obtain ⟨v, rfl, hv⟩ := hvs.one
    obtain rfl := hv
    refine enumerate_ (fs := ns.map .int) (.inl hG) fun e it => ⟨e, it, a, _, ns.map .int, fun pre b r => ∃ cl : List Int, cl.length = 3 ∧ b = [(Str.ofString "script", .ref a), (Str.ofString "cells", .ref cs)] ∧ r = [(cs, .list (cl.map .int))], rfl, rfl, ⟨[_, _, _], rfl, rfl, rfl⟩, fun _ _ _ _ => .inl hG, ?_, ?_⟩
    · rintro pre p suf b r k t hsp ⟨cl, hcl, rfl, rfl⟩
      obtain ⟨x, rfl⟩ : ∃ x, p = .int x := by
        have : p ∈ ns.map Fv.int := by rw [hsp]; simp
        obtain ⟨x, _, rfl⟩ := List.mem_map.mp this
        exact ⟨x, rfl⟩
      have hm : pre.length % 3 < cl.length := by omega
      have hg : cl[pre.length % 3]? = some cl[pre.length % 3] := List.getElem?_eq_getElem hm
      have hfm : ((pre.length : Nat) : Int).fmod 3 = ((pre.length % 3 : Nat) : Int) := by rw [Int.fmod_eq_emod_of_nonneg _ (by decide)]; omega
      refine Tf.cons (Tf.augSub (Tv.name (by rfl) (by rfl) (Tv.binop (Tv.name (by rfl) (by rfl) (Tv.int fun v u hv hu => mod_i hv hu (by decide) ?_)))))
      rw [hfm]
      intro ov iv hov hiv
      obtain rfl := hov
      refine get_list (i := (pre.length % 3 : Nat)) (f := .int cl[pre.length % 3]) (.inr (.tail _ (.tail _ (.tail _ (.head _))))) hiv (by omega) (by omega) (by rw [Int.toNat_natCast, List.getElem?_map, hg]; rfl) (Tv.name (by rfl) (by rfl) fun a b ha hb => iadd_i ha hb fun c hc => ?_)
      refine set_at (j := 3) (by rfl) hiv hc (by omega) (by rw [List.length_map]; omega) (by rw [List.length_map]; omega) (Tf.nil ?_)
      rw [Int.toNat_natCast]
      refine ⟨_, _, ⟨cl.set (pre.length % 3) (cl[pre.length % 3] + x), by rw [List.length_set]; exact hcl, rfl, rfl⟩, .cons rfl (.cons rfl .nil), Sub.skip ?_⟩
      rw [List.map_set]
      exact Sub.refl
    · rintro b r ⟨cl, hcl, rfl, rfl⟩
      match cl, hcl with
      | [c0, c1, c2], _ => exact Tf.nil (Tf.cons (Tf.ret (Tv.name (by rfl) (by rfl) ⟨cs, c0, c1, c2, rfl, rfl⟩)))
  · match vals, e with
    | [v], _ => rfl
end
end Mine
end
section
open PySem.Calls
open AutoSeq1 (wpAny_loadPart')
namespace Mine
section
variable {w : World} {mg mb : Str → Option Value} {H : Heap} {K : Kn} {n : Nat} {L : Addr} {bs : Bs} {own : Owns} {env : Env}
/-- the frame is handed over -/
theorem St.swapF {s : Shared} {C : Addr} {b : Bs} (S : St H K L bs ((C, .ns b) :: own) s) : St H K C b ((L, .ns bs) :: own) s := by
  have nd : (L :: C :: ads own).Nodup := by have := S.nd; rw [ads_cons] at this; exact this
  have hf : ∀ a ∈ L :: C :: ads own, H.get? a = Option.none := fun a ha => S.fresh a (by rw [ads_cons]; exact ha)
  refine ⟨S.rest, S.keep, S.has _ (.head _), fun p hp => ?_, ?_, fun a ha => hf a ?_⟩
  · rcases List.mem_cons.mp hp with rfl | hp
    · exact S.loc
    · exact S.has p (.tail _ hp)
  · rw [ads_cons]
    exact (List.Perm.swap C L (ads own)).nodup_iff.mp nd
  · rw [ads_cons] at ha
    exact (List.Perm.swap C L (ads own)).mem_iff.mpr ha
theorem St.raw {s : Shared} {C : Addr} {b : Bs} (S : St H K L bs ((C, .ns b) :: own) s) : St H K L bs ((C, .raw fun o => ¬ IsTupO o) :: own) s := by
  refine ⟨S.rest, S.keep, S.loc, fun p hp => ?_, S.nd, S.fresh⟩
  rcases List.mem_cons.mp hp with rfl | hp
  · exact NsB.alive (S.has _ (.head _))
  · exact S.has p (.tail _ hp)
/-- the frame of a comprehension goes -/
theorem St.offF {s : Shared} {C : Addr} {b : Bs} (S : St H K C b ((L, .ns bs) :: own) s) {h' : Heap} (hs : Heap.SameBut C s.heap h') : St H K L bs own { s with heap := h' } :=
  St.off S.swapF.raw hs.extBut fun _ h => h
/-- the names of cells -/
theorem Tv.cell {x : Str} {pos : Pos} {c : Addr} {f : Fv} {R : Fv → Owns → Prop} (hl : env.kindOf x = some .cell) (hc : env.cells.lookup x = some c) (hm : (c, .cell (some f)) ∈ own) (h : R f own)
    (hk : env.scope.kind = .function := by rfl) (hd : (x == ("__debug__" : Str)) = false := by decide) : Tv w H K n L bs own (eval (.Name x pos) env) R := fun A s Q r S q => by
  rcases S.has _ hm with ⟨_, _, _, h⟩ | ⟨o, v, g, e, hd', eg, hv⟩
  · cases h
  · cases eg
    exact wpAny_Name (wpAny_loadName_cell hk hl hc ⟨o, e, hd'⟩ (q _ _ _ _ h hv S)) hd
theorem loop_tests {prog : Program} {A : Around} {R : Result → Shared → Prop} {s : Shared} {elt target iter : Expr} {ifs : List Expr} {scope : Scope} {pos : Pos} {it acc : Value} {env : Env} (I : Nat → Shared → Prop)
    (turn : ∀ n s, I n s → wpAny (model prog w) A (pyNext it) (fun r s₁ => match r with
      | none => R (.ok .next) s₁
      | some v => wpAny (model prog w) A (letOwnedTupleGo target it v) (fun _ s₁ => wpAny (model prog w) A (assign target env v) (fun _ s₂ =>
          wpAny (model prog w) A (forIn ifs true fun c r => if r = true then do let ok ← isTrue c env (eval c env); pure (ForInStep.yield ok) else pure (ForInStep.yield r)) (fun ok s₃ =>
            if ok = true then wpAny (model prog w) A (eval elt env) (fun x s₄ =>
              wpAny (model prog w) A (call (.builtin "list.append") [acc, x]) (fun _ s₅ => ∃ m, m < n ∧ I m s₅) noE s₄) noE s₃
            else ∃ m, m < n ∧ I m s₃) noE s₂) noE s₁) noE s₁) noE s)
    (n : Nat) (h : I n s) :
    codeAny (model prog w) A (.compLoop (.ListComp elt [⟨target, iter, ifs, 0⟩] scope pos) 0 it acc env) R s := by
  refine codeAny_loop rfl I (fun n s hI => ?_) n h
  show wpAny _ A ((compTurn (.ListComp elt [⟨target, iter, ifs, 0⟩] scope pos) 0 it acc env).onRaise (fun x => do noteFrame x env; theTreesLotGoes x)) _ _ s
  refine wpAny_noted ?_
  rw [compTurn_list]
  refine wpAny_bind (wpAny_standAt (wpAny_bind (wpAny_mono (turn n s hI) (fun r s₁ h₁ => ?_) fun _ _ h' => h'.elim)))
  cases r with
  | none => exact wpAny_pure h₁
  | some v =>
    refine wpAny_bind (wpAny_mono h₁ (fun _ s₂ h₁ => ?_) fun _ _ h' => h'.elim)
    refine wpAny_bind (wpAny_mono h₁ (fun _ s₂ h₂ => wpAny_bind (wpAny_mono h₂ (fun ok s₃ h₃ => ?_) fun _ _ h' => h'.elim)) fun _ _ h' => h'.elim)
    cases ok with
    | false => exact wpAny_pure ⟨rfl, h₃⟩
    | true =>
      exact wpAny_bind (wpAny_bind (wpAny_mono h₃ (fun x s₄ h₄ => wpAny_bind (wpAny_mono h₄ (fun _ s₅ h₅ => wpAny_pure (wpAny_pure ⟨rfl, h₅⟩)) fun _ _ h' => h'.elim)) fun _ _ h' => h'.elim))
theorem append_at {i : Nat} {a : Addr} {fs : List Fv} {v : Value} {f : Fv} {A : Around} {s : Shared} {Q : Value → Shared → Prop} (S : St H K L bs own s) (e : own[i]? = some (a, .list fs)) (hv : FIs v f) (hz : fs.length ≤ 100000)
    (q : ∀ u s', St H K L bs (own.set i (a, .list (fs ++ [f]))) s' → Q u s') : wpAny (model pw w) A (call (.builtin "list.append") [.ref a, v]) Q noE s := by
  obtain ⟨vs, k, ex, fl⟩ := S.has _ (List.mem_of_getElem? e)
  have hl := fl.length
  rw [Array.length_toList] at hl
  refine wpAny_list_append_plain ⟨_, ex⟩ (fun h' hp hs => ?_) (hsz := by have : sizeLine = 2 ^ 24 := rfl; omega)
  obtain ⟨k', ex'⟩ := hp
  refine q _ _ (S.mut (i := i) (a := a) (w := .list fs) (w' := .list (fs ++ [f])) e (t := s.toks) (list_mut ex hs.extBut) ⟨_, k', ex', ?_⟩ (n2 := rfl))
  rw [Array.toList_push]
  exact fl.append (.cons hv .nil)
/-- the tests of a clause -/
noncomputable def Tests (w : World) (H : Heap) (K : Kn) (n : Nat) (L : Addr) (bs : Bs) (own : Owns) (ifs : List Expr) (env : Env) (R : Bool → Owns → Prop) : Prop := match ifs with
  | [] => R true own
  | [t] => Tb w H K n L bs own (isTrue t env (eval t env)) R
  | _ => False
theorem Tests.run {ifs : List Expr} {R : Bool → Owns → Prop} (h : Tests w H K n L bs own ifs env R) : Tb w H K n L bs own (forIn ifs true fun c r => if r = true then do let ok ← isTrue c env (eval c env); Pure.pure (ForInStep.yield ok) else Pure.pure (ForInStep.yield r)) R := fun A s Q r S q => by
  match ifs, h with
  | [], h => exact wpAny_tests_nil (q _ _ _ h S)
  | [t], h => exact wpAny_tests_one (h A s Q r S q)
/-- what is asked of a comprehension's turns -/
noncomputable def Turns (w : World) (H : Heap) (K : Kn) (n : Nat) (L : Addr) (bs : Bs) (cenv : Env) (D it : Addr) (tgt elt : Expr) (ifs : List Expr) (N : Nat) (its : Nat → Owns) (Sd : Owns → Prop) (item : Nat → Fv → Owns → Prop) (J : Nat → List Fv → Owns → Prop) : Prop :=
  (∀ k ys r, J k ys r → Sd ((D, .list ys) :: (L, .ns bs) :: r) ∧ ys.length ≤ 100000) ∧
  ∀ k ys b r v f ex, k < N → J k ys r → item k f ex → FIs v f → Tu w H K n cenv.locals b (ex ++ (its (k + 1) ++ ((D, .list ys) :: (L, .ns bs) :: r))) (assign tgt cenv v) fun b₂ o₂ =>
    Tests w H K n cenv.locals b₂ o₂ ifs cenv fun ok o₃ => if ok = true then Tv w H K n cenv.locals b₂ o₃ (eval elt cenv) fun g o₄ => ∃ r', Sub (its (k + 1) ++ ((D, .list ys) :: (L, .ns bs) :: r')) o₄ ∧ J (k + 1) (ys ++ [g]) r'
      else ∃ r', Sub (its (k + 1) ++ ((D, .list ys) :: (L, .ns bs) :: r')) o₃ ∧ J (k + 1) ys r'
theorem comp_core {tgt elt iter : Expr} {ifs : List Expr} {scope : Scope} {pos : Pos} {it D : Addr} {cenv : Env} {N : Nat} {its : Nat → Owns} {Sd : Owns → Prop} {item : Nat → Fv → Owns → Prop} {J : Nat → List Fv → Owns → Prop} {b₀ : Bs} {rest : Owns}
    {A : Around} {s : Shared} {R : Result → Shared → Prop} (I : Iter w H K tgt it N its Sd item) (T : Turns w H K n L bs cenv D it tgt elt ifs N its Sd item J) (h0 : J 0 [] rest) (r : Room n A)
    (S : St H K cenv.locals b₀ (its 0 ++ ((D, .list []) :: (L, .ns bs) :: rest)) s)
    (q : ∀ s' b ys r', J N ys r' → St H K cenv.locals b ((D, .list ys) :: (L, .ns bs) :: r') s' → R (.ok .next) s') :
    codeAny (model pw w) A (.compStart (.ListComp elt [⟨tgt, iter, ifs, 0⟩] scope pos) 0 (.ref it) (.ref D) cenv) R s := by
  have loop : codeAny (model pw w) A (.compLoop (.ListComp elt [⟨tgt, iter, ifs, 0⟩] scope pos) 0 (.ref it) (.ref D) cenv) R s := by
    refine loop_tests (I := fun m s => ∃ k b ys r', k ≤ N ∧ m = N - k ∧ J k ys r' ∧ St H K cenv.locals b (its k ++ ((D, .list ys) :: (L, .ns bs) :: r')) s) (fun m s' hI => ?_) N ⟨0, b₀, [], rest, Nat.zero_le _, rfl, h0, S⟩
    obtain ⟨k, b, ys, r', hk, rfl, hJ, S'⟩ := hI
    obtain ⟨hSd, hys⟩ := T.1 _ _ _ hJ
    rcases Nat.lt_or_eq_of_le hk with hk | rfl
    · let I' : Nat → Shared → Prop := fun m s => ∃ k b ys r', k ≤ N ∧ m = N - k ∧ J k ys r' ∧ St H K cenv.locals b (its k ++ ((D, .list ys) :: (L, .ns bs) :: r')) s
      let Q2 : Bool → Shared → Prop := fun ok s₃ => if ok = true then wpAny (model pw w) A (eval elt cenv) (fun x s₄ =>
              wpAny (model pw w) A (call (.builtin "list.append") [.ref D, x]) (fun _ s₅ => ∃ m, m < N - k ∧ I' m s₅) noE s₄) noE s₃
            else ∃ m, m < N - k ∧ I' m s₃
      let Q1 : Value → Shared → Prop := fun v s₁ => wpAny (model pw w) A (assign tgt cenv v) (fun _ s₂ =>
          wpAny (model pw w) A (forIn ifs true fun c r => if r = true then do let ok ← isTrue c cenv (eval c cenv); Pure.pure (ForInStep.yield ok) else Pure.pure (ForInStep.yield r)) Q2 noE s₂) noE s₁
      refine PySem.wpAny_mono (I.next k _ b _ A s' Q1 hk r.hd S' hSd fun v s₃ f ex hi hv S₃ => ?_) (fun rr s₁ z => ?_) fun _ _ z => z.elim
      · refine T.2 k ys b r' v f ex hk hJ hi hv A s₃ _ r S₃ fun s₄ b₂ o₂ y S₄ => y.run A s₄ Q2 r S₄ fun ok s₅ o₃ y S₅ => ?_
        cases ok with
        | true =>
          rw [if_pos rfl] at y
          show wpAny (model pw w) A (eval elt cenv) _ noE s₅
          refine y A s₅ _ r S₅ fun g s₆ fg o₄ y hg S₆ => ?_
          obtain ⟨r₂, hsub, hJ'⟩ := y
          have S₇ := S₆.sub (hsub.perm (List.perm_middle (l₁ := its (k + 1)) (l₂ := (L, .ns bs) :: r₂)))
          refine append_at (i := 0) S₇ rfl hg hys fun u s₈ S₈ => ?_
          exact ⟨N - (k + 1), by omega, k + 1, b₂, _, r₂, hk, rfl, hJ', S₈.perm (List.perm_middle (l₁ := its (k + 1)) (l₂ := (L, .ns bs) :: r₂)).symm⟩
        | false =>
          rw [if_neg (by decide)] at y
          obtain ⟨r₂, hsub, hJ'⟩ := y
          exact ⟨N - (k + 1), by omega, k + 1, b₂, _, r₂, hk, rfl, hJ', S₅.sub hsub⟩
      · cases rr with
        | none => exact z.elim
        | some v => exact z
    · refine PySem.wpAny_mono (I.done _ b _ A s' (fun s₃ => R (.ok .next) s₃) r.hd S' hSd fun s₃ S₃ => q s₃ b ys r' hJ S₃) (fun rr s₁ z => ?_) fun _ _ z => z.elim
      obtain ⟨rfl, z⟩ := z
      exact z
  refine codeAny_compStart_list loop ?_
  exact PySem.wpAny_mono (I.self _ b₀ _ A s (fun v s' => codeAny (model pw w) A (.compLoop (.ListComp elt [⟨tgt, iter, ifs, 0⟩] scope pos) 0 v (.ref D) cenv) R s') S loop) (fun _ _ z => z) fun _ _ z => z.elim
/-- a list made by a comprehension -/
theorem Tv.comp {tgt elt iter : Expr} {ifs : List Expr} {scope : Scope} {pos : Pos} {cl : List (Str × Addr)} {R : Fv → Owns → Prop}
    (h : Tv w H K n env.locals bs own (eval iter env) fun f o₁ => ∀ v, FIs v f → Tv w H K n env.locals bs o₁ (pyIter v) fun g o₂ => ∃ it N its Sd item rest, ∃ J : Nat → List Fv → Owns → Prop, g = .ref it ∧ o₂ = its 0 ++ rest ∧
      Iter w H K tgt it N its Sd item ∧ J 0 [] rest ∧ (∀ C D, Turns w H K n env.locals bs (compEnvC scope cl C env) D it tgt elt ifs N its Sd item J) ∧ ∀ D ys r, J N ys r → R (.ref D) ((D, .list ys) :: r))
    (hclos : closureFor scope env = Pure.pure cl := by rfl) (hcell : ∀ y ∈ scope.names, y.2 ≠ .cell := by decide +kernel) (hkind : scope.kind = .function := by rfl)
    (hnames : ∀ y ∈ scope.names, y.2 = .local → scope.names.lookup y.1 = some .local := by decide +kernel)
    (hs : ∀ x, foldedSetIterable iter env x = Pure.pure x := by intro _; rfl) :
    Tv w H K n env.locals bs own (eval (.ListComp elt [⟨tgt, iter, ifs, 0⟩] scope pos) env) R := fun A s Q r S q => by
  rw [eval_ListComp]
  refine wpAny_comprehension_free (e := .ListComp elt [⟨tgt, iter, ifs, 0⟩] scope pos) (use := Option.none) (g := ⟨tgt, iter, ifs, 0⟩) (gs := []) rfl hs hclos hkind hnames (h A s _ r S fun v s₁ f o₁ y hv S₁ => y v hv A s₁ _ r S₁ fun u s₂ g o₂ z hu S₂ => ?_)
  obtain ⟨it, N, its, Sd, item, rest, J, rfl, rfl, I, h0, T, fin⟩ := z
  obtain rfl := hu
  refine wpAny_newObj_type (wpAny_newFunctionEnv hcell (by intro y hy; simp at hy) (fun h₁ hns₁ hsb₁ => ?_) hkind)
  dsimp only at hns₁ hsb₁ ⊢
  have S3 := S₂.push (o := { cls := .type "list", dict := Option.none, data := .seq ([] : List Value).toArray }) (t := s₂.toks) (w := .list []) ⟨_, 0, Heap.get?_push_size _ rfl, .nil⟩
  generalize hH2 : s₂.heap.push { cls := .type "list", dict := Option.none, data := .seq ([] : List Value).toArray } = H2 at hns₁ hsb₁ S3 ⊢
  have S4 : St H K env.locals bs ((H2.objs.size, .ns []) :: (s₂.heap.objs.size, .list []) :: (its 0 ++ rest)) { s₂ with heap := h₁, toks := s₂.toks + ([] : List (Str × Value)).length } :=
    S3.new (s' := { s₂ with heap := h₁, toks := s₂.toks + ([] : List (Str × Value)).length }) (a := H2.objs.size) (w := .ns []) S3.rest.1 rfl
      (fun b o e => hsb₁.extBut b o (Nat.ne_of_lt (Heap.lt_size e)) (Heap.get?_push_of_some _ e)) (fun b hb => by simp [Own.ads] at hb; exact Nat.le_of_eq hb.symm) (by simp [Own.ads]) ⟨_, hns₁, fun x f e => nomatch e⟩
  have S5 := S4.swapF.perm (own' := its 0 ++ ((s₂.heap.objs.size, .list []) :: (env.locals, .ns bs) :: rest)) (by
    refine (List.Perm.swap ..).trans ?_
    refine ((List.perm_middle (l₁ := its 0) (a := (env.locals, Own.ns bs)) (l₂ := rest)).symm.cons _).trans ?_
    exact (List.perm_middle (l₁ := its 0) (a := (s₂.heap.objs.size, Own.list [])) (l₂ := (env.locals, Own.ns bs) :: rest)).symm)
  refine comp_core (cenv := compEnvC scope cl H2.objs.size env) I (T H2.objs.size s₂.heap.objs.size) h0 r S5 fun s' b ys r' hJ S' => ?_
  obtain ⟨m, hm, _⟩ := S'.loc
  refine ⟨m, hm, fun h' hs' => q _ _ _ _ (fin s₂.heap.objs.size ys r' hJ) rfl ?_⟩
  exact St.offF (S'.perm (List.Perm.swap ..)) hs'
end
end Mine
end
section
open PySem.Calls
open AutoSeq1 (wpAny_loadPart')
namespace Mine
section
variable {w : World} {mg mb : Str → Option Value} {H : Heap} {K : Kn} {n : Nat} {L : Addr} {bs : Bs} {own : Owns} {env : Env}
theorem mem_sub {a b : Owns} (h : Sub a b) : ∀ q ∈ a, q ∈ b := by
  obtain ⟨c, p⟩ := h
  exact fun q hq => p.mem_iff.mpr (List.mem_append_left _ hq)
theorem Sub.trans {a b c : Owns} (h : Sub a b) (k : Sub b c) : Sub a c := by
  obtain ⟨x, p⟩ := h
  obtain ⟨y, q⟩ := k
  exact ⟨x ++ y, q.trans ((p.append_right y).trans (by rw [List.append_assoc]))⟩
/-- what a turn does with one thing of the source -/
noncomputable def Body (w : World) (H : Heap) (K : Kn) (n : Nat) (cenv : Addr → Env) (ifs : List Expr) (elt : Expr) (rest : Owns) (Bd : Bs → Prop) (p : Bool) (F : Fv) : Prop :=
  ∀ C b o, Bd b → (∀ q ∈ rest, q ∈ o) → Tests w H K n C b o ifs (cenv C) fun ok o' => Sub o o' ∧ ok = p ∧ (ok = true → Tv w H K n C b o' (eval elt (cenv C)) fun g o'' => Sub o o'' ∧ g = F)
theorem Tests.mono {ifs : List Expr} {R R' : Bool → Owns → Prop} (h : Tests w H K n L bs own ifs env R) (k : ∀ b o, R b o → R' b o) : Tests w H K n L bs own ifs env R' := by
  match ifs, h with
  | [], h => exact k _ _ h
  | [t], h => exact Tb.mono h k
theorem take_filter_map {α : Type} {l : List α} {k : Nat} {c : α} (p : α → Bool) (F : α → Fv) (h : l[k]? = some c) : ((l.take (k + 1)).filter p).map F = ((l.take k).filter p).map F ++ (if p c = true then [F c] else []) := by
  rw [(take_snoc h).1, List.filter_append, List.map_append]
  cases hp : p c <;> simp [hp]
theorem Tv.compG {α : Type} {tgt elt iter : Expr} {ifs : List Expr} {scope : Scope} {pos : Pos} {cl : List (Str × Addr)} {R : Fv → Owns → Prop}
    (h : Tv w H K n env.locals bs own (eval iter env) fun f o₁ => ∀ v, FIs v f → Tv w H K n env.locals bs o₁ (pyIter v) fun g o₂ => ∃ it its Sd item rest, ∃ src : List α, ∃ p : α → Bool, ∃ F : α → Fv, ∃ Bd : α → Bs → Prop, g = .ref it ∧ o₂ = its 0 ++ rest ∧
      Iter w H K tgt it src.length its Sd item ∧ (∀ D ys, Sd ((D, .list ys) :: (env.locals, .ns bs) :: rest)) ∧ src.length ≤ 100000 ∧
      (∀ C b o v f ex k c, src[k]? = some c → item k f ex → FIs v f → Tu w H K n C b (ex ++ o) (PySem.assign tgt (compEnvC scope cl C env) v) fun b₂ o₂ => Bd c b₂ ∧ Sub o o₂) ∧
      (∀ c ∈ src, Body w H K n (fun C => compEnvC scope cl C env) ifs elt rest (Bd c) (p c) (F c)) ∧ ∀ D, R (.ref D) ((D, .list ((src.filter p).map F)) :: rest))
    (hclos : closureFor scope env = Pure.pure cl := by rfl) (hcell : ∀ y ∈ scope.names, y.2 ≠ .cell := by decide +kernel) (hkind : scope.kind = .function := by rfl)
    (hnames : ∀ y ∈ scope.names, y.2 = .local → scope.names.lookup y.1 = some .local := by decide +kernel)
    (hs : ∀ x, foldedSetIterable iter env x = Pure.pure x := by intro _; rfl) :
    Tv w H K n env.locals bs own (eval (.ListComp elt [⟨tgt, iter, ifs, 0⟩] scope pos) env) R := by
  refine Tv.comp (h.mono fun f o₁ y v hv => (y v hv).mono fun g o₂ z => ?_) hclos hcell hkind hnames hs
  obtain ⟨it, its, Sd, item, rest, src, p, F, Bd, rfl, rfl, I, hSd, hN, asg, body, fin⟩ := z
  refine ⟨it, src.length, its, Sd, item, rest, fun k ys r => ys = ((src.take k).filter p).map F ∧ r = rest, rfl, rfl, I, ⟨rfl, rfl⟩, fun C D => ⟨?_, ?_⟩, ?_⟩
  · rintro k ys r ⟨rfl, rfl⟩
    refine ⟨hSd _ _, ?_⟩
    rw [List.length_map]
    have := List.length_filter_le p (src.take k)
    have h2 : (src.take k).length ≤ src.length := by rw [List.length_take]; exact Nat.min_le_right ..
    omega
  · rintro k ys b r v f ex hk ⟨rfl, hr⟩ hi hv
    subst r
    obtain ⟨c, hc⟩ : ∃ c, src[k]? = some c := ⟨_, List.getElem?_eq_getElem hk⟩
    have hm : c ∈ src := List.mem_of_getElem? hc
    have e0 := take_filter_map p F hc
    refine fun A s Q r S q => asg C b _ v f ex k c hc hi hv A s Q r S fun s' b₂ o₂ y S' => q s' b₂ o₂ ?_ S'
    obtain ⟨hBd, hsub⟩ := y
    have hrest : ∀ q ∈ rest, q ∈ o₂ := fun q hq => mem_sub hsub q (List.mem_append_right _ (.tail _ (.tail _ hq)))
    refine Tests.mono (body c hm C b₂ o₂ hBd hrest) fun ok o' z => ?_
    obtain ⟨hs', rfl, z⟩ := z
    cases hp : p c with
    | true =>
      rw [if_pos rfl]
      rw [hp, if_pos rfl] at e0
      refine Tv.mono (z hp) fun g o'' z => ?_
      obtain ⟨hs'', rfl⟩ := z
      exact ⟨rest, hsub.trans hs'', e0.symm, rfl⟩
    | false =>
      rw [if_neg (by decide)]
      rw [hp, if_neg (by decide), List.append_nil] at e0
      exact ⟨rest, hsub.trans hs', e0.symm, rfl⟩
  · rintro D ys r ⟨rfl, rfl⟩
    rw [List.take_length]
    exact fin D
theorem hpC {scope : Scope} {cl : List (Str × Addr)} {C : Addr} (hkind : scope.kind = .function) : ((compEnvC scope cl C env).scope.kind == .class || ((compEnvC scope cl C env).scope.kind == .module && (compEnvC scope cl C env).locals != (compEnvC scope cl C env).globals)) = false := by
  show (scope.kind == .class || (scope.kind == .module && _)) = false
  rw [hkind]; rfl
/-- .. over a list -/
theorem Tv.comp_l {x : Str} {px : Pos} {elt iter : Expr} {ifs : List Expr} {scope : Scope} {pos : Pos} {cl : List (Str × Addr)} {R : Fv → Owns → Prop}
    (h : Tv w H K n env.locals bs own (eval iter env) fun f o₁ => ∃ a fs, ∃ p : Fv → Bool, ∃ F : Fv → Fv, f = .ref a ∧ Hs H o₁ a (.list fs) ∧ fs.length ≤ 100000 ∧
      (∀ c ∈ fs, Body w H K n (fun C => compEnvC scope cl C env) ifs elt o₁ (fun b => b.lookup x = some c) (p c) (F c)) ∧ ∀ D, R (.ref D) ((D, .list ((fs.filter p).map F)) :: o₁))
    (hx : ∀ C, (compEnvC scope cl C env).kindOf x = some .local := by intro _; rfl)
    (hclos : closureFor scope env = Pure.pure cl := by rfl) (hcell : ∀ y ∈ scope.names, y.2 ≠ .cell := by decide +kernel) (hkind : scope.kind = .function := by rfl)
    (hnames : ∀ y ∈ scope.names, y.2 = .local → scope.names.lookup y.1 = some .local := by decide +kernel)
    (hs : ∀ x, foldedSetIterable iter env x = Pure.pure x := by intro _; rfl) :
    Tv w H K n env.locals bs own (eval (.ListComp elt [⟨.Name x px, iter, ifs, 0⟩] scope pos) env) R := by
  refine Tv.compG (α := Fv) (h.mono fun f o₁ y v hv => ?_) hclos hcell hkind hnames hs
  obtain ⟨a, fs, p, F, rfl, hl, hz, body, fin⟩ := y
  obtain rfl := hv
  refine Tv.iter_l hl fun it => ⟨it, _, _, _, o₁, fs, p, F, fun c b => b.lookup x = some c, rfl, rfl, iter_list fs (fun _ => rfl), fun D ys => hl.elim .inl fun h => .inr (.tail _ (.tail _ h)), hz, ?_, body, fin⟩
  rintro C b o v f ex k c hc ⟨hc', rfl⟩ hv
  rw [hc] at hc'
  cases hc'
  exact Tu.name (env := compEnvC scope cl C env) (hx C) hv ⟨(lookup_setB ..).trans (if_pos rfl), Sub.refl⟩ (hpC hkind)
/-- .. over a text -/
theorem Tv.comp_s {x : Str} {px : Pos} {elt iter : Expr} {ifs : List Expr} {scope : Scope} {pos : Pos} {cl : List (Str × Addr)} {R : Fv → Owns → Prop}
    (h : Tv w H K n env.locals bs own (eval iter env) fun f o₁ => ∃ l, ∃ p : Nat → Bool, ∃ F : Nat → Fv, f = .str (T l) ∧ l.length ≤ 100000 ∧
      (∀ c ∈ l, Body w H K n (fun C => compEnvC scope cl C env) ifs elt o₁ (fun b => b.lookup x = some (.str (T [c]))) (p c) (F c)) ∧ ∀ D, R (.ref D) ((D, .list ((l.filter p).map F)) :: o₁))
    (hx : ∀ C, (compEnvC scope cl C env).kindOf x = some .local := by intro _; rfl)
    (hclos : closureFor scope env = Pure.pure cl := by rfl) (hcell : ∀ y ∈ scope.names, y.2 ≠ .cell := by decide +kernel) (hkind : scope.kind = .function := by rfl)
    (hnames : ∀ y ∈ scope.names, y.2 = .local → scope.names.lookup y.1 = some .local := by decide +kernel)
    (hs : ∀ x, foldedSetIterable iter env x = Pure.pure x := by intro _; rfl) :
    Tv w H K n env.locals bs own (eval (.ListComp elt [⟨.Name x px, iter, ifs, 0⟩] scope pos) env) R := by
  refine Tv.compG (α := Nat) (h.mono fun f o₁ y v hv => ?_) hclos hcell hkind hnames hs
  obtain ⟨l, p, F, rfl, hz, body, fin⟩ := y
  refine Tv.iter_s hv fun it => ⟨it, _, _, _, o₁, l, p, F, fun c b => b.lookup x = some (.str (T [c])), rfl, rfl, iter_str l (fun _ => rfl), fun D ys => trivial, hz, ?_, body, fin⟩
  rintro C b o v f ex k c hc ⟨c', hc', rfl, rfl⟩ hv
  rw [hc] at hc'
  cases hc'
  exact Tu.name (env := compEnvC scope cl C env) (hx C) hv ⟨(lookup_setB ..).trans (if_pos rfl), Sub.refl⟩ (hpC hkind)
end
end Mine
end
section
open PySem.Calls
open AutoSeq1 (wpAny_loadPart')
namespace Mine
noncomputable def codes8 : List Nat := [8303, 832, 833, 8206, 8207, 8234, 8235, 8236, 8237, 8238, 8298, 8299, 8300, 8301, 8302]
/-- what kind, sign and signs behind there are -/
inductive KindOk : Nat → Nat → List (List Nat) → Prop
  | k0 : KindOk 0 32 [[], [31], [33], [9], [160], [12288]]
  | k1 (c : Nat) (h : c ∈ codes8) : KindOk 1 c [[], [831], [834], [8205], [8208], [8233], [8239], [8297], [8304]]
  | k2 (c : Nat) (h : c = 917505 ∨ (917536 ≤ c ∧ c ≤ 917631)) : KindOk 2 c [[], [917504], [917506], [917535], [917632]]
noncomputable def chrF (f : Fv) : Fv := match f with
  | .int i => .str (T [i.toNat])
  | f => f
section
variable {w : World} {mg mb : Str → Option Value} {H : Heap} {K : Kn} {n : Nat} {L : Addr} {bs : Bs} {own : Owns} {env : Env}
theorem starC {c : Const} {k : Nat} {p : Pos} {rest : List Expr} : starEach (.Constant c k p :: rest) env = (false, eval (.Constant c k p) env) :: starEach rest env := rfl
theorem Ts.int {i : Int} {k : Nat} {p pos : Pos} {rest : List Expr} {R : List Fv → Owns → Prop} (h : Ts w H K n L bs own (spliced (backTo pos (starEach rest env))) fun fs o => R (.int i :: fs) o) :
    Ts w H K n L bs own (spliced (backTo pos (starEach (.Constant (.int i) k p :: rest) env))) R := Ts.cons (Tv.int h) starC
theorem Ts.strT {i : Str} (l : List Nat) {k : Nat} {p pos : Pos} {rest : List Expr} {R : List Fv → Owns → Prop} (e : i = T l) (h : Ts w H K n L bs own (spliced (backTo pos (starEach rest env))) fun fs o => R (.str (T l) :: fs) o) :
    Ts w H K n L bs own (spliced (backTo pos (starEach (.Constant (.str i) k p :: rest) env))) R := Ts.cons (Tv.strT e h) starC
theorem swaps_sub {a b : Expr} {p : Pos} {t l} : swapsWith (.Subscript a b p) t l env = Pure.pure false := rfl
theorem fm_nat (a : Int) (m : Nat) (h : m ≠ 0) : ∃ r : Nat, a.fmod m = r ∧ r < m := by
  have h1 := Int.fmod_nonneg_of_pos a (b := m) (by omega)
  have h2 := Int.fmod_lt_of_pos a (b := m) (by omega)
  exact ⟨(a.fmod m).toNat, by omega, by omega⟩
theorem chrT {v : Value} {c : Nat} {R : Fv → Owns → Prop} (hv : FIs v (.int c)) (h1 : c < 0x110000) (h : R (.str (T [c])) own) : Tv w H K n L bs own (call (.builtin "chr") [v]) R :=
  chr_ hv (by omega) (by omega) (by rw [Int.toNat_natCast]; exact h)
set_option maxHeartbeats 1500000 in
theorem fn_kind (c0 : Int) : Fn w mg mb 1 (.ref 174) [.int c0] noG fun f o => ∃ t l k c bsd, f = .ref t ∧ o = [(t, .tup [.int (k : Nat), .str (T [c]), .ref l]), (l, .list (Fvs bsd))] ∧ KindOk k c bsd := by
  refine Fn.intro (names := [Str.ofString "number"]) (body := bodyOf (topSt 14)) (c := 173) (by rfl) (by rfl) rfl (fun H K B hG => ?_) (by rfl) (fun vals e => ?_)
  · obtain ⟨k, hk, hk3⟩ := fm_nat c0 3 (by decide)
    refine Tf.cons (Tf.assign (by rfl) (Tv.binop (Tv.name (by rfl) (by rfl) (Tv.int fun v u hv hu => mod_i hv hu (by decide) ?_))))
    rw [show c0.fmod 3 = ((k : Nat) : Int) from hk]
    refine Tf.cons (Tf.assign (by rfl) (Tv.binop (Tv.name (by rfl) (by rfl) (Tv.int fun v u hv hu => fdiv_i hv hu (by decide) (PyProof.noPylong_small (by decide)) ?_))))
    generalize c0.fdiv 3 = d
    refine Tf.weak (bs' := [(Str.ofString "number", .int d), (Str.ofString "kind", .int k)]) (own' := []) ?_ (.cons rfl (.cons rfl .nil)) Sub.refl
    refine Tf.cons (Tf.if_ (Tb.compare1 (Tv.name (by rfl) (by rfl) (Tv.int fun v u hv hu => eq_i hv hu ⟨_, rfl, ?_⟩))))
    obtain rfl | rfl | rfl : k = 0 ∨ k = 1 ∨ k = 2 := by omega
    · refine Tf.cons (Tf.ret (Tv.tuple (Ts.cons (Tv.name (by rfl) (by rfl) (Ts.cons (Tv.strT (l := [32]) (by decide +kernel) (Ts.cons (Tv.list ?_))))))))
      refine Ts.strT [] (by decide +kernel) ?_
      refine Ts.strT [31] (by decide +kernel) ?_
      refine Ts.strT [33] (by decide +kernel) ?_
      refine Ts.strT [9] (by decide +kernel) ?_
      refine Ts.strT [160] (by decide +kernel) ?_
      refine Ts.strT [12288] (by decide +kernel) ?_
      exact Ts.nil ⟨Nat.le_of_ble_eq_true rfl, fun l => Ts.nil ⟨Nat.le_of_ble_eq_true rfl, fun t => ⟨t, l, 0, 32, _, rfl, rfl, .k0⟩⟩⟩
    · refine Tf.nil (Tf.cons (Tf.if_ (Tb.compare1 (Tv.name (by rfl) (by rfl) (Tv.int fun v u hv hu => eq_i hv hu ⟨_, rfl, ?_⟩)))))
      obtain ⟨r, hr, hr15⟩ := fm_nat d 15 (by decide)
      refine Tf.cons ?_
      refine Tf.assign ?hl0 ?h0 ?hs0 ?hp0
      case hp0 => rfl
      case hl0 => rfl
      case hs0 => exact swaps_sub
      refine Tv.sub ?_
      refine Tv.list ?_
      iterate 15 refine Ts.int ?_
      refine Ts.nil ⟨Nat.le_of_ble_eq_true rfl, fun cl => Tv.binop (Tv.name (by rfl) (by rfl) (Tv.int fun v u hv hu => mod_i hv hu (by decide) ?_))⟩
      rw [show d.fmod 15 = ((r : Nat) : Int) from hr]
      intro v u hv hu
      obtain rfl := hv
      have hlt : r < codes8.length := hr15
      have hg : codes8[r]? = some codes8[r] := List.getElem?_eq_getElem hlt
      have hmem : codes8[r] ∈ codes8 := List.getElem_mem hlt
      have hsm : ∀ c ∈ codes8, c < 0x110000 := by decide
      refine ⟨ty_list (.inr (.head _)), get_list (i := (r : Nat)) (f := .int (codes8[r] : Nat)) (.inr (.head _)) hu (by omega) (by omega) (by
        rw [Int.toNat_natCast]
        show (codes8.map fun c => Fv.int (c : Nat))[r]? = _
        rw [List.getElem?_map, hg]; rfl) ?_⟩
      generalize codes8[r] = c at hmem
      refine Tf.weak (bs' := [(Str.ofString "kind", .int (1 : Nat)), (Str.ofString "code", .int c)]) (own' := []) ?_ (.cons rfl (.cons rfl .nil)) Sub.nil
      refine Tf.cons (Tf.retW (Tv.tuple (Ts.cons (Tv.name (by rfl) (by rfl) (Ts.cons (Tv.callB (id := "chr") B (by rfl) (by decide +kernel) (by rfl) (Ts.cons (Tv.name (by rfl) (by rfl) (Ts.nil fun vals hvs => ?_)))))))))
      obtain ⟨v, rfl, hv⟩ := hvs.one
      refine chrT hv (hsm c hmem) ?_
      refine Ts.cons ?_
      refine Tv.binop ?_
      refine Tv.list ?_
      refine Ts.strT [] (by decide +kernel) ?_
      refine Ts.nil ⟨Nat.le_of_ble_eq_true rfl, fun l0 => ?_⟩
      refine Tv.comp_l ?_
      refine Tv.list ?_
      iterate 8 refine Ts.int ?_
      refine Ts.nil ⟨Nat.le_of_ble_eq_true rfl, fun src => ⟨src, _, fun _ => true, chrF, rfl, .inr (.head _), Nat.le_of_ble_eq_true rfl, fun f hf C b o hb hq => ⟨Sub.refl, rfl, fun _ => ?_⟩, fun D v u hv hu => ?_⟩⟩
      · obtain ⟨x, rfl, hx⟩ : ∃ x : Nat, f = .int x ∧ x < 0x110000 := by
          simp only [List.mem_append, List.mem_cons, List.not_mem_nil, or_false, List.append_nil] at hf
          rcases hf with rfl | rfl | rfl | rfl | rfl | rfl | rfl | rfl <;> exact ⟨_, rfl, by decide⟩
        refine Tv.callB (env := compEnvC _ _ C _) (id := "chr") B (by rfl) (by decide +kernel) (by rfl) (Ts.cons (Tv.name (env := compEnvC _ _ C _) (by rfl) hb (Ts.nil fun vals hvs => ?_)))
        obtain ⟨v, rfl, hv⟩ := hvs.one
        exact chrT hv hx ⟨Sub.refl, rfl⟩
      · obtain rfl := hv
        obtain rfl := hu
        refine add_l (.inr (.tail _ (.tail _ (.head _)))) (.inr (.head _)) (Nat.le_of_ble_eq_true rfl) fun l => Ts.nil ⟨Nat.le_of_ble_eq_true rfl, fun t => ?_⟩
        exact ⟨[(t, .tup [.int (1 : Nat), .str (T [c]), .ref l]), (l, .list (Fvs [[], [831], [834], [8205], [8208], [8233], [8239], [8297], [8304]]))], Sub.keep (Sub.keep Sub.nil), t, l, 1, c, _, rfl, rfl, .k1 c hmem⟩
    · refine Tf.nil (Tf.cons (Tf.if_ (Tb.compare1 (Tv.name (by rfl) (by rfl) (Tv.int fun v u hv hu => eq_i hv hu ⟨_, rfl, ?_⟩)))))
      refine Tf.nil ?_
      obtain ⟨r, hr, hr4⟩ := fm_nat d 4 (by decide)
      obtain ⟨x, hx, hx96⟩ := fm_nat (d.fdiv 4) 96 (by decide)
      refine Tf.cons ?_
      refine Tf.assign ?hl1 ?h1 ?hs1 ?hp1
      case hp1 => rfl
      case hl1 => rfl
      case hs1 => exact swaps_sub
      refine Tv.sub ?_
      refine Tv.list ?_
      iterate 3 refine Ts.int ?_
      refine Ts.cons ?_
      refine Tv.binop (Tv.int ?_)
      refine Tv.binop ?_
      refine Tv.binop (Tv.name (by rfl) (by rfl) ?_)
      refine Tv.int fun v u hv hu => ?_
      refine fdiv_i hv hu (by decide) (PyProof.noPylong_small (by decide)) ?_
      refine Tv.int fun v u hv hu => ?_
      refine mod_i hv hu (by decide) fun v u hv hu => ?_
      refine add_i hv hu ?_
      rw [show (d.fdiv 4).fmod 96 = ((x : Nat) : Int) from hx]
      refine Ts.nil ⟨Nat.le_of_ble_eq_true rfl, fun cl => Tv.binop (Tv.name (by rfl) (by rfl) (Tv.int fun v u hv hu => mod_i hv hu (by decide) ?_))⟩
      rw [show d.fmod 4 = ((r : Nat) : Int) from hr]
      intro v u hv hu
      obtain rfl := hv
      have hlt : r < [917505, 917536, 917631, 917536 + x].length := hr4
      have hg : [917505, 917536, 917631, 917536 + x][r]? = some [917505, 917536, 917631, 917536 + x][r] := List.getElem?_eq_getElem hlt
      have hmem : [917505, 917536, 917631, 917536 + x][r] ∈ [917505, 917536, 917631, 917536 + x] := List.getElem_mem hlt
      refine ⟨ty_list (.inr (.head _)), get_list (i := (r : Nat)) (f := .int ([917505, 917536, 917631, 917536 + x][r] : Nat)) (.inr (.head _)) hu (by omega) (by omega) (by
        rw [Int.toNat_natCast]
        show ([917505, 917536, 917631, 917536 + x].map fun c => Fv.int (c : Nat))[r]? = _
        rw [List.getElem?_map, hg]; rfl) ?_⟩
      generalize [917505, 917536, 917631, 917536 + x][r] = c at hmem
      have hc : c = 917505 ∨ (917536 ≤ c ∧ c ≤ 917631) := by
        simp only [List.mem_cons, List.not_mem_nil, or_false] at hmem
        omega
      refine Tf.weak (bs' := [(Str.ofString "kind", .int (2 : Nat)), (Str.ofString "code", .int c)]) (own' := []) ?_ (.cons rfl (.cons rfl .nil)) Sub.nil
      refine Tf.cons (Tf.retW (Tv.tuple (Ts.cons (Tv.name (by rfl) (by rfl) (Ts.cons (Tv.callB (id := "chr") B (by rfl) (by decide +kernel) (by rfl) (Ts.cons (Tv.name (by rfl) (by rfl) (Ts.nil fun vals hvs => ?_)))))))))
      obtain ⟨v, rfl, hv⟩ := hvs.one
      refine chrT hv (by omega) ?_
      refine Ts.cons ?_
      refine Tv.binop ?_
      refine Tv.list ?_
      refine Ts.strT [] (by decide +kernel) ?_
      refine Ts.nil ⟨Nat.le_of_ble_eq_true rfl, fun l0 => ?_⟩
      refine Tv.comp_l ?_
      refine Tv.list ?_
      iterate 4 refine Ts.int ?_
      refine Ts.nil ⟨Nat.le_of_ble_eq_true rfl, fun src => ⟨src, _, fun _ => true, chrF, rfl, .inr (.head _), Nat.le_of_ble_eq_true rfl, fun f hf C b o hb hq => ⟨Sub.refl, rfl, fun _ => ?_⟩, fun D v u hv hu => ?_⟩⟩
      · obtain ⟨x, rfl, hx⟩ : ∃ x : Nat, f = .int x ∧ x < 0x110000 := by
          simp only [List.mem_append, List.mem_cons, List.not_mem_nil, or_false, List.append_nil] at hf
          rcases hf with rfl | rfl | rfl | rfl <;> exact ⟨_, rfl, by decide⟩
        refine Tv.callB (env := compEnvC _ _ C _) (id := "chr") B (by rfl) (by decide +kernel) (by rfl) (Ts.cons (Tv.name (env := compEnvC _ _ C _) (by rfl) hb (Ts.nil fun vals hvs => ?_)))
        obtain ⟨v, rfl, hv⟩ := hvs.one
        exact chrT hv hx ⟨Sub.refl, rfl⟩
      · obtain rfl := hv
        obtain rfl := hu
        refine add_l (.inr (.tail _ (.tail _ (.head _)))) (.inr (.head _)) (Nat.le_of_ble_eq_true rfl) fun l => Ts.nil ⟨Nat.le_of_ble_eq_true rfl, fun t => ?_⟩
        exact ⟨[(t, .tup [.int (2 : Nat), .str (T [c]), .ref l]), (l, .list (Fvs [[], [917504], [917506], [917535], [917632]]))], Sub.keep (Sub.keep Sub.nil), t, l, 2, c, _, rfl, rfl, .k2 c hc⟩
  · match vals, e with
    | [v], _ => rfl
end
end Mine
end
section
open PySem.Calls
open AutoSeq1 (wpAny_loadPart')
namespace Mine
theorem bindL_eq (kindOf : Str → Option NameKind) : ∀ {names : List Str} (nd : names.Nodup) (vals : List Value) (m : Str → Option Value) (x : Str), bindL kindOf (names.zip vals) m x = if kindOf x = some .local then ((names.zip vals).lookup x).or (m x) else m x := by
  intro names
  induction names with
  | nil => intro _ vals m x; simp [bindL]
  | cons y r ih =>
    intro nd vals m x
    cases vals with
    | nil => simp [bindL]
    | cons v vs =>
      rw [List.nodup_cons] at nd
      rw [List.zip_cons_cons, bindL, ih nd.2]
      have hno : x = y → (r.zip vs).lookup x = none := fun e => by
        subst e
        rw [List.lookup_eq_none_iff]
        intro p hp
        have hm : p.1 ∈ r := (List.of_mem_zip (a := p.1) (b := p.2) hp).1
        have ne : x ≠ p.1 := fun e => nd.1 (by rw [e]; exact hm)
        simp [ne]
      by_cases hx : x = y
      · subst hx
        rw [hno rfl]
        by_cases hk : kindOf x = some .local <;> simp [hk, List.lookup]
      · have hb : (x == y) = false := beq_eq_false_iff_ne.mpr hx
        by_cases hk : kindOf y = some .local <;> simp [hk, hx, hb, List.lookup]
theorem bindC_eq (kindOf : Str → Option NameKind) : ∀ {names : List Str} (nd : names.Nodup) (vals : List Value) (m : Str → Option Value) (x : Str), bindC kindOf (names.zip vals) m x = if kindOf x = some .local then m x else ((names.zip vals).lookup x).or (m x) := by
  intro names
  induction names with
  | nil => intro _ vals m x; simp [bindC]
  | cons y r ih =>
    intro nd vals m x
    cases vals with
    | nil => simp [bindC]
    | cons v vs =>
      rw [List.nodup_cons] at nd
      rw [List.zip_cons_cons, bindC, ih nd.2]
      have hno : x = y → (r.zip vs).lookup x = none := fun e => by
        subst e
        rw [List.lookup_eq_none_iff]
        intro p hp
        have hm : p.1 ∈ r := (List.of_mem_zip (a := p.1) (b := p.2) hp).1
        have ne : x ≠ p.1 := fun e => nd.1 (by rw [e]; exact hm)
        simp [ne]
      by_cases hx : x = y
      · subst hx
        rw [hno rfl]
        by_cases hk : kindOf x = some .local <;> simp [hk, List.lookup]
      · have hb : (x == y) = false := beq_eq_false_iff_ne.mpr hx
        by_cases hk : kindOf y = some .local <;> simp [hk, hx, hb, List.lookup]
theorem lookup_of_mem {α : Type} : ∀ {l : List (Str × α)} {n : Str} {c : α}, (l.map (·.1)).Nodup → (n, c) ∈ l → l.lookup n = some c
  | (k, v) :: r, n, c, nd, h => by
    rw [List.map_cons, List.nodup_cons] at nd
    rw [List.lookup_cons]
    rcases List.mem_cons.mp h with e | h
    · cases e; simp
    · have : (n == k) = false := beq_eq_false_iff_ne.mpr fun e => nd.1 (by rw [← show n = k from e]; exact List.mem_map.mpr ⟨_, h, rfl⟩)
      rw [this]
      exact lookup_of_mem nd.2 h
theorem lookup_zip_none {names : List Str} : ∀ {vals : List Value} {fs : List Fv}, FL vals fs → ∀ x, (names.zip fs).lookup x = none → (names.zip vals).lookup x = none := by
  induction names with
  | nil => intro vals fs h x e; simp
  | cons y r ih =>
    intro vals fs h x e
    cases h with
    | nil => simp
    | cons h1 h2 =>
      simp only [List.zip_cons_cons, List.lookup] at e ⊢
      cases q : x == y with
      | true => rw [q] at e; cases e
      | false => rw [q] at e; exact ih h2 x e
section
variable {w : World} {mg mb : Str → Option Value} {H : Heap} {K : Kn} {n : Nat} {L : Addr} {bs : Bs} {own : Owns} {env : Env}
noncomputable def cellOwn (cl : List (Str × Addr)) (b : Bs) : Owns := cl.map fun p => (p.2, .cell (b.lookup p.1))
theorem ads_cellOwn (cl : List (Str × Addr)) (b : Bs) : ads (cellOwn cl b) = cl.map (·.2) := by
  induction cl with
  | nil => rfl
  | cons p r ih => rw [cellOwn, List.map_cons, ads_cons]; exact congrArg (p.2 :: ·) ih
/-- the contract of a def with cells -/
theorem Fn.introC {fa : Addr} {fd : FuncData} {body : List Stmt} {names ln : List Str} {fs : List Fv} {bsL : Bs} {G : Heap → Prop} {R : Fv → Owns → Prop} {c : Addr} {vs : Array Value} {t : Tok}
    (hK : (KF w.params).lookup fa = some ⟨.type "function", none, .func fd, #[]⟩) (hC : (KF w.params).lookup c = some ⟨.type "code", none, .fields vs, #[]⟩)
    (hlen : fs.length = names.length)
    (h : ∀ (H : Heap) (K : Kn), Base w mg mb H → G H →
      Tf w H K n (callEnvC fd H.objs.size fa).locals bsL (cellOwn (cellsFrom (H.objs.size + 1) fd.scope.names []) (names.zip fs)) (execs body (callEnvC fd H.objs.size fa)) fun f _ o => match f with | .ret g => R g o | _ => R .none o)
    (hbs : BSub bsL (names.zip fs)) (hln : bsL.map (·.1) = ln) (hlo : ∀ x ∈ ln, fd.scope.names.lookup x = some .local)
    (hce : ∀ x ∈ fd.scope.names, x.2 = .cell → fd.scope.names.lookup x.1 = some .cell)
    (hpa : ∀ x ∈ names, fd.scope.names.lookup x = some .local ∨ (fd.scope.names.lookup x = some .cell ∧ ((cellsFrom 0 fd.scope.names []).lookup x).isSome = true))
    (hcf : ∀ a, (cellsFrom a fd.scope.names []).map (·.1) = (cellsFrom 0 fd.scope.names []).map (·.1)) (hcn : ∀ x ∈ (cellsFrom 0 fd.scope.names []).map (·.1), fd.scope.names.lookup x = some .cell)
    (hcl : fd.closure = []) (hbody : fd.body = .stmts body) (hbind : ∀ vals : List Value, vals.length = names.length → bindArgs fd ⟨vals, []⟩ = Pure.pure (names.zip vals))
    (hcode : fd.code = .ref c := by rfl) (hq : vs[1]? = some (.str fd.qualname t) := by rfl) (nds : names.Nodup := by decide +kernel)
    (hcd : ∀ a, ((cellsFrom a fd.scope.names []).map (·.1)).Nodup)
    (hco : fd.scope.isCoroutine = false := by rfl) (hgen : fd.scope.isGenerator = false := by rfl) (hk : fd.scope.kind = .function := by rfl)
    (n1 : fa ≠ 63 ∧ fa ≠ 70 ∧ c ≠ 63 ∧ c ≠ 70 := by decide) : Fn w mg mb (n + 1) (.ref fa) fs G R := fun A s vals Q r B hg hG hv q => by
  have ho := B.k _ _ hK n1.1 n1.2.1
  have hc := B.k _ _ hC n1.2.2.1 n1.2.2.2
  have isS : ∀ a x, ((cellsFrom 0 fd.scope.names []).lookup x).isSome = true → ((cellsFrom a fd.scope.names []).lookup x).isSome = true := fun a x hx => by
    cases e : (cellsFrom a fd.scope.names []).lookup x with
    | some => rfl
    | none =>
      rw [List.lookup_eq_none_iff] at e
      obtain ⟨c, hc⟩ := Option.isSome_iff_exists.mp hx
      have hm : x ∈ (cellsFrom a fd.scope.names []).map (·.1) := by rw [hcf a]; exact List.mem_map.mpr ⟨_, mem_of_lookup hc, rfl⟩
      obtain ⟨p, hp, rfl⟩ := List.mem_map.mp hm
      exact absurd (e p hp) (by simp)
  refine wpAny_call (codeAny_call_cells (vals := vals) (binds := names.zip vals) r.limit ho rfl B.nl ⟨c, _, vs, t, hcode, hc, rfl, hq⟩ hbody (hbind vals (by rw [hv.length, hlen])) hcl
    (fun x hx => (hpa x.1 (List.of_mem_zip (a := x.1) (b := x.2) hx).1).imp id fun h => ⟨h.1, isS _ _ h.2⟩) (fun s₁ I => ?_) hco hgen hk)
  obtain ⟨h₁, tk, rfl⟩ := I.toInCall.same
  have k : Ext s.heap h₁ := I.toInCall.keep
  have kf : ∀ x, (callEnvC fd s.heap.objs.size fa).kindOf x = fd.scope.names.lookup x := fun x => rfl
  have S : St s.heap s.os s.heap.objs.size bsL (cellOwn (cellsFrom (s.heap.objs.size + 1) fd.scope.names []) (names.zip fs)) { s with heap := h₁, toks := tk } := by
    refine ⟨⟨hg, rfl⟩, k, ⟨_, I.toInCall.ns, fun x f e => ?_⟩, fun p hp => ?_, ?_, fun a ha => ?_⟩
    · obtain ⟨v, e1, hf⟩ := lookup_zip hv x f (hbs.get x f e)
      refine ⟨v, ?_, hf⟩
      have hx : x ∈ ln := by rw [← hln]; exact List.mem_map.mpr ⟨_, PySem.mem_of_lookup e, rfl⟩
      rw [bindL_eq _ nds, if_pos (by rw [kf]; exact hlo x hx), e1]
      rfl
    · obtain ⟨q, hq, rfl⟩ := List.mem_map.mp hp
      obtain ⟨x, a⟩ := q
      have hxm : x ∈ (cellsFrom (s.heap.objs.size + 1) fd.scope.names []).map (·.1) := List.mem_map.mpr ⟨_, hq, rfl⟩
      have hkx : fd.scope.names.lookup x = some .cell := hcn x (by rw [← hcf (s.heap.objs.size + 1)]; exact hxm)
      have hlk : (cellsFrom (s.heap.objs.size + 1) fd.scope.names []).lookup x = some a := lookup_of_mem (hcd _) hq
      obtain ⟨o, eo, ed⟩ := I.cell x a hlk
      rw [bindC_eq _ nds, if_neg (by rw [kf, hkx]; decide)] at ed
      show Own.At h₁ a (.cell ((names.zip fs).lookup x))
      cases ef : (names.zip fs).lookup x with
      | none =>
        rw [lookup_zip_none hv x ef] at ed
        exact .inl ⟨o, eo, ed, rfl⟩
      | some f =>
        obtain ⟨v, e1, hf⟩ := lookup_zip hv x f ef
        rw [e1] at ed
        exact .inr ⟨o, v, f, eo, ed, rfl, hf⟩
    · rw [ads_cellOwn, List.nodup_cons]
      refine ⟨fun hm => ?_, ?_⟩
      · obtain ⟨p, hp, e⟩ := List.mem_map.mp hm
        have := I.above p.1 p.2 hp
        rw [e] at this
        exact Nat.lt_irrefl _ this
      · exact List.pairwise_map.mpr I.apart
    · rw [ads_cellOwn] at ha
      have hge : s.heap.objs.size ≤ a := by
        rcases List.mem_cons.mp ha with rfl | ha
        · exact Nat.le_refl _
        · obtain ⟨p, hp, e⟩ := List.mem_map.mp ha
          have := I.above p.1 p.2 hp
          rw [e] at this
          exact Nat.le_of_lt this
      cases e : s.heap.get? a with
      | none => rfl
      | some o => exact absurd (Heap.lt_size e) (Nat.not_lt_of_le hge)
  refine PySem.wpAny_mono (h s.heap s.os B hG _ _ (fun f s' => Q (match f with | .ret v => v | _ => .none) s') r.deeper S (fun v s' f bs' own' x hf S' => ?_)) (fun f s' x => x) (fun _ _ x => x.elim)
  have fin : Ret s s' own' := ⟨fun _ => S'.rest.1, S'.rest.2, S'.keep, S'.has, (List.nodup_cons.mp S'.nd).2, fun a ha => S'.fresh a (List.mem_cons_of_mem _ ha)⟩
  cases v <;> cases f <;> first | exact hf.elim | exact q _ _ _ _ x hf fin | exact q _ _ _ _ x rfl fin
end
end Mine
end
section
open PySem.Calls
open AutoSeq1 (wpAny_loadPart')
namespace Mine
/-- the boxes: free ones, or a letter of its place and a text behind; balls are five at most -/
structure BoxesOk (fc : Nat) (bsd boxes : List (List Nat)) : Prop where
  balls : (boxes.filter (· != [fc])).length ≤ 5
  each : ∀ i b, boxes[i]? = some b → b = [fc] ∨ ∃ u s, (u = 97 ∨ u = 65) ∧ s ∈ bsd ∧ b = (u + i) :: s
noncomputable def pS (x : List Nat) (f : Fv) : Bool := match f with
  | .str y => y != T x
  | _ => false
theorem fvs_filter (x : List Nat) (ls : List (List Nat)) : ((Fvs ls).filter (pS x)).map id = Fvs (ls.filter (· != x)) := by
  induction ls with
  | nil => rfl
  | cons a r ih =>
    have e : pS x (.str (T a)) = (a != x) := T_ne a x
    show List.map id (List.filter (pS x) (.str (T a) :: Fvs r)) = _
    rw [List.filter_cons, List.filter_cons, e]
    cases (a != x) with
    | true => show _ :: _ = _ :: _; exact congrArg (_ :: ·) ih
    | false => exact ih
theorem fvs_mem {ls : List (List Nat)} {f : Fv} (h : f ∈ Fvs ls) : ∃ l ∈ ls, f = .str (T l) := by
  obtain ⟨l, hl, rfl⟩ := List.mem_map.mp h
  exact ⟨l, hl, rfl⟩
theorem BoxesOk.free {fc bsd boxes} (h : BoxesOk fc bsd boxes) : BoxesOk fc bsd (boxes ++ [[fc]]) := by
  refine ⟨?_, fun i b hb => ?_⟩
  · rw [List.filter_append]; simp; exact h.balls
  · rcases Nat.lt_trichotomy i boxes.length with q | q | q
    · rw [List.getElem?_append_left q] at hb; exact h.each i b hb
    · subst q; simp at hb; exact .inl hb.symm
    · rw [List.getElem?_eq_none (by simp; omega)] at hb; cases hb
theorem BoxesOk.ball {fc bsd boxes} (h : BoxesOk fc bsd boxes) {u s} (hu : u = 97 ∨ u = 65) (hs : s ∈ bsd) (h5 : (boxes.filter (· != [fc])).length < 5) : BoxesOk fc bsd (boxes ++ [(u + boxes.length) :: s]) := by
  refine ⟨?_, fun i b hb => ?_⟩
  · rw [List.filter_append, List.length_append]
    have : (List.filter (· != [fc]) [(u + boxes.length) :: s]).length ≤ 1 := List.length_filter_le ..
    omega
  · rcases Nat.lt_trichotomy i boxes.length with q | q | q
    · rw [List.getElem?_append_left q] at hb; exact h.each i b hb
    · subst q; simp at hb; exact .inr ⟨u, s, hu, hs, hb.symm⟩
    · rw [List.getElem?_eq_none (by simp; omega)] at hb; cases hb
section
variable {w : World} {mg mb : Str → Option Value} {H : Heap} {K : Kn} {n : Nat} {L : Addr} {bs : Bs} {own : Owns} {env : Env}
set_option maxHeartbeats 1500000 in
theorem fn_boxes (c1 c2 : Int) (fc : Nat) (l : Addr) (bsd : List (List Nat)) (hz : bsd.length ≤ 100) (h0 : bsd ≠ []) (hs : ∀ s ∈ bsd, s.length ≤ 1) :
    Fn w mg mb 1 (.ref 179) [.int c1, .int c2, .str (T [fc]), .ref l] (fun h => (Own.list (Fvs bsd)).At h l) fun f o => ∃ a boxes, f = .ref a ∧ Sub [(a, .list (Fvs boxes))] o ∧ boxes.length = 7 ∧ BoxesOk fc bsd boxes := by
  refine Fn.introC (names := [Str.ofString "bits", Str.ofString "number", Str.ofString "free", Str.ofString "besides"]) (ln := [Str.ofString "bits", Str.ofString "number", Str.ofString "besides"])
    (bsL := [(Str.ofString "bits", .int c1), (Str.ofString "number", .int c2), (Str.ofString "besides", .ref l)]) (body := bodyOf (topSt 15)) (c := 178) (by rfl) (by rfl) rfl (fun H K B hG => ?_)
    (.cons rfl (.cons rfl (.cons rfl .nil))) rfl (by decide +kernel) (by decide +kernel) (by decide +kernel) (fun a => by rfl) (by decide +kernel) rfl (by rfl) (fun vals e => ?_) (hcd := fun a => by rw [show (cellsFrom a _ []).map (·.1) = [Str.ofString "free"] from rfl]; decide +kernel)
  · have hB : ∀ {o : Owns}, Hs H o l (.list (Fvs bsd)) := .inl hG
    have hbl : 1 ≤ bsd.length := by cases bsd with | nil => exact absurd rfl h0 | cons a r => simp
    show Tf w H K 0 (callEnvC _ H.objs.size 179).locals _ [(H.objs.size + 1, .cell (some (.str (T [fc]))))] _ _
    generalize hcell : H.objs.size + 1 = ce
    refine Tf.cons (Tf.assign (by rfl) (Tv.list (Ts.nil ⟨Nat.le_of_ble_eq_true rfl, fun bx => ?_⟩)))
    refine Tf.cons (Tf.for_range (by rfl) (Tv.callT (id := "range") B (by rfl) (by decide +kernel) (by rfl) (Ts.cons (Tv.int (Ts.nil fun vals hvs => ?_)))))
    obtain ⟨v, rfl, hv⟩ := hvs.one
    refine range_ (N := 7) hv fun rg => ⟨rg, 7, fun k b r => ∃ boxes d1 d2, boxes.length = k ∧ BoxesOk fc bsd boxes ∧ b = [(Str.ofString "bits", .int d1), (Str.ofString "number", .int d2), (Str.ofString "besides", .ref l), (Str.ofString "boxes", .ref bx)] ∧
      r = [(rg, .raw (RangeO 7)), (bx, .list (Fvs boxes)), (ce, .cell (some (.str (T [fc]))))], rfl, by decide, .head _, ?_, ?_, ?_⟩
    · exact ⟨[], c1, c2, rfl, ⟨Nat.zero_le _, fun i b h => nomatch h⟩, rfl, rfl⟩
    · rintro k b r it hk ⟨boxes, d1, d2, hlen, hok, rfl, rfl⟩
      have hBx : ∀ {x y z : Addr × Own} {tl : Owns}, Hs H (x :: y :: (bx, .list (Fvs boxes)) :: tl) bx (.list (Fvs boxes)) := .inr (.tail _ (.tail _ (.head _)))
      refine Tf.cons ?_
      refine Tf.mono (R := fun f b o => f = .next ∧ ∃ boxes', boxes'.length = k + 1 ∧ BoxesOk fc bsd boxes' ∧ b = [(Str.ofString "bits", .int d1), (Str.ofString "number", .int d2), (Str.ofString "besides", .ref l), (Str.ofString "boxes", .ref bx), (Str.ofString "place", .int k)] ∧
        Sub [(it, .raw (RangeIt (k + 1) 7)), (rg, .raw (RangeO 7)), (bx, .list (Fvs boxes')), (ce, .cell (some (.str (T [fc]))))] o) ?if1 ?rest1
      case rest1 =>
        rintro f b o ⟨rfl, boxes', hl', hok', rfl, ho⟩
        refine Tf.weak (bs' := [(Str.ofString "bits", .int d1), (Str.ofString "number", .int d2), (Str.ofString "besides", .ref l), (Str.ofString "boxes", .ref bx)]) ?_ (.cons rfl (.cons rfl (.cons rfl (.cons rfl .nil)))) ho
        refine Tf.cons (Tf.assign (by rfl) (Tv.binop (Tv.name (by rfl) (by rfl) (Tv.int fun v u hv hu => fdiv_i hv hu (by decide) (PyProof.noPylong_small (by decide)) ?_))))
        refine Tf.cons (Tf.assign (by rfl) (Tv.binop (Tv.name (by rfl) (by rfl) ?_)))
        refine Tv.binop (Tv.int (Tv.callB (id := "len") B (by rfl) (by decide +kernel) (by rfl) (Ts.cons (Tv.name (by rfl) (by rfl) (Ts.nil fun vals hvs => ?_)))))
        obtain ⟨v, rfl, hv⟩ := hvs.one
        obtain rfl := hv
        refine len_l hB (by rw [fvs_len]; omega) fun v u hv hu => mul_i hv hu (.of_left (intBits_le_64 (by decide) (by decide))) fun v u hv hu => ?_
        rw [fvs_len] at hu
        refine fdiv_i hv hu (by omega) (PyProof.noPylong_small (by omega)) (Tf.nil ?_)
        exact ⟨_, _, ⟨boxes', _, _, hl', hok', rfl, rfl⟩, .cons rfl (.cons rfl (.cons rfl (.cons rfl .nil))), Sub.refl⟩
      case if1 =>
        refine Tf.if_ (Tb.mono (R := fun b o => (b = true → (boxes.filter (· != [fc])).length < 5) ∧ Sub [(it, .raw (RangeIt (k + 1) 7)), (rg, .raw (RangeO 7)), (bx, .list (Fvs boxes)), (ce, .cell (some (.str (T [fc]))))] o) ?test ?cont)
        case cont =>
          rintro b o ⟨h5, ho⟩
          cases b with
          | false =>
            refine Tf.weak (bs' := [(Str.ofString "bits", .int d1), (Str.ofString "number", .int d2), (Str.ofString "besides", .ref l), (Str.ofString "boxes", .ref bx), (Str.ofString "place", .int k)]) ?_ (.cons rfl (.cons rfl (.cons rfl (.cons rfl (.cons rfl .nil))))) ho
            refine Tf.cons (Tf.expr (Tv.lappend (Tv.name (by rfl) (by rfl) ⟨bx, _, rfl, .tail _ (.tail _ (.head _)), Tv.cell (by rfl) (by rw [← hcell]; rfl) (.tail _ (.tail _ (.tail _ (.head _)))) ⟨2, Fvs boxes, rfl, by rw [fvs_len]; omega, ?_⟩⟩)))
            refine Tf.nil ⟨rfl, boxes ++ [[fc]], by simp [hlen], hok.free, rfl, ?_⟩
            unfold Fvs
            rw [List.map_append]
            exact Sub.refl
          | true =>
            have h5 := h5 rfl
            refine Tf.weak (bs' := [(Str.ofString "bits", .int d1), (Str.ofString "number", .int d2), (Str.ofString "besides", .ref l), (Str.ofString "boxes", .ref bx), (Str.ofString "place", .int k)]) ?_ (.cons rfl (.cons rfl (.cons rfl (.cons rfl (.cons rfl .nil))))) ho
            refine Tf.cons (Tf.expr ?_)
            refine Tv.lappend (Tv.name (by rfl) (by rfl) ⟨bx, _, rfl, .tail _ (.tail _ (.head _)), ?_⟩)
            refine Tv.binop ?_
            obtain ⟨r2, hr2, hr2'⟩ := fm_nat d2 2 (by decide)
            obtain ⟨rb, hrb, hrb'⟩ := fm_nat (d2.fdiv 2) bsd.length (by omega)
            refine Tv.callB (id := "chr") B (by rfl) (by decide +kernel) (by rfl) (Ts.cons ?_)
            refine Tv.binop ?_
            refine Tv.sub ?_
            refine Tv.list ?_
            iterate 2 refine Ts.int ?_
            refine Ts.nil ⟨Nat.le_of_ble_eq_true rfl, fun l2 => ?_⟩
            refine Tv.binop (Tv.name (by rfl) (by rfl) (Tv.int fun v u hv hu => mod_i hv hu (by decide) ?_))
            rw [show d2.fmod 2 = ((r2 : Nat) : Int) from hr2]
            intro v u hv hu
            obtain rfl := hv
            obtain ⟨ul, hul, hulg⟩ : ∃ ul : Nat, (ul = 97 ∨ ul = 65) ∧ ([Fv.int 97, Fv.int 65] : List Fv)[r2]? = some (.int ul) := by
              match r2, hr2' with
              | 0, _ => exact ⟨97, .inl rfl, rfl⟩
              | 1, _ => exact ⟨65, .inr rfl, rfl⟩
            refine ⟨ty_list (.inr (.head _)), get_list (i := (r2 : Nat)) (.inr (.head _)) hu (by omega) (by omega) (by rw [Int.toNat_natCast]; exact hulg) ?_⟩
            refine Tv.name (by rfl) (by rfl) fun v u hv hu => add_i hv hu (Ts.nil fun vals hvs => ?_)
            obtain ⟨v, rfl, hv⟩ := hvs.one
            refine chrT (c := ul + k) (by rw [Int.natCast_add]; exact hv) (by omega) ?_
            refine Tv.sub (Tv.name (by rfl) (by rfl) ?_)
            refine Tv.binop (Tv.binop (Tv.name (by rfl) (by rfl) (Tv.int fun v u hv hu => fdiv_i hv hu (by decide) (PyProof.noPylong_small (by decide)) ?_)))
            refine Tv.callB (id := "len") B (by rfl) (by decide +kernel) (by rfl) (Ts.cons (Tv.name (by rfl) (by rfl) (Ts.nil fun vals hvs => ?_)))
            obtain ⟨v, rfl, hv⟩ := hvs.one
            obtain rfl := hv
            refine len_l hB (by rw [fvs_len]; omega) fun v u hv hu => mod_i hv hu (by rw [fvs_len]; omega) ?_
            rw [fvs_len, hrb]
            intro v u hv hu
            obtain rfl := hv
            have hgb : bsd[rb]? = some bsd[rb] := List.getElem?_eq_getElem hrb'
            have hmb : bsd[rb] ∈ bsd := List.getElem_mem hrb'
            refine ⟨ty_list hB, get_list (i := (rb : Nat)) hB hu (by omega) (by omega) (by rw [Int.toNat_natCast]; exact fvs_get hgb) fun v u hv hu => ?_⟩
            have hsl := hs _ hmb
            refine add_t (x := [ul + k]) (y := bsd[rb]) hv hu (by simp; omega) ⟨3, Fvs boxes, rfl, by rw [fvs_len]; omega, ?_⟩
            refine Tf.nil ⟨rfl, boxes ++ [(ul + boxes.length) :: bsd[rb]], by simp [hlen], hok.ball hul hmb h5, rfl, ?_⟩
            unfold Fvs
            rw [List.map_append, hlen]
            exact Sub.skip Sub.refl
        case test =>
          refine Tb.boolOp (Tb.and_cons (Tb.compare1 (Tv.binop (Tv.name (by rfl) (by rfl) (Tv.int fun v u hv hu => mod_i hv hu (by decide) (Tv.int fun v u hv hu => eq_i hv hu ⟨_, rfl, ?_⟩))))))
          cases (d1.fmod 2 == 1) with
          | false => rw [if_neg (by decide)]; exact ⟨(fun h => by cases h), Sub.refl⟩
          | true =>
            rw [if_pos rfl]
            refine Tb.and_cons (Tb.compare1 (Tv.callB (id := "len") B (by rfl) (by decide +kernel) (by rfl) (Ts.cons ?_)))
            refine Tv.comp_l (cl := [(Str.ofString "free", ce)]) (hclos := by rw [← hcell]; rfl) (Tv.name (by rfl) (by rfl) ⟨bx, Fvs boxes, pS [fc], id, rfl, .inr (.tail _ (.tail _ (.head _))), by rw [fvs_len]; omega, fun f hf C b o hb hq => ?_, fun D => ?_⟩)
            · obtain ⟨y, hy, rfl⟩ := fvs_mem hf
              refine Tb.compare1 (Tv.name (env := compEnvC _ _ C _) (by rfl) hb (Tv.cell (env := compEnvC _ _ C _) (by rfl) (by rfl) (hq _ (.tail _ (.tail _ (.tail _ (.head _))))) fun v u hv hu => ne_s hv hu ⟨_, rfl, Sub.refl, rfl, fun _ => ?_⟩))
              exact Tv.name (env := compEnvC _ _ C _) (by rfl) hb ⟨Sub.refl, rfl⟩
            · rw [fvs_filter]
              refine Ts.nil fun vals hvs => ?_
              obtain ⟨v, rfl, hv⟩ := hvs.one
              obtain rfl := hv
              have hfl := List.length_filter_le (· != [fc]) boxes
              refine len_l (.inr (.head _)) (by rw [fvs_len]; omega) (Tv.int fun v u hv hu => lt_i hv hu ⟨_, rfl, ?_⟩)
              rw [fvs_len]
              by_cases h5 : (boxes.filter (· != [fc])).length < 5
              · rw [if_pos (decide_eq_true (by omega))]
                exact Tb.and_nil ⟨fun _ => h5, Sub.skip Sub.refl⟩
              · rw [if_neg (by rw [decide_eq_true_eq]; omega)]
                exact ⟨(fun h => by cases h), Sub.skip Sub.refl⟩
    · rintro b r ⟨boxes, d1, d2, hlen, hok, rfl, rfl⟩
      exact Tf.nil (Tf.cons (Tf.ret (Tv.name (by rfl) (by rfl) ⟨bx, boxes, rfl, Sub.skip (Sub.keep Sub.nil), hlen, hok⟩)))
  · match vals, e with
    | [v, u, x, y], _ => rfl
end
end Mine
end
section
open PySem.Calls
open AutoSeq1 (wpAny_loadPart')
namespace Mine
namespace F2
theorem mro_map : mroOf (.type "map") = pure [.type "map", .type "object"] := by rw [mroOf_type]; kernel_rfl
theorem lookup_map_new : typeLookup (.type "map") "__new__" = pure (some (.builtin "map.__new__")) := by rw [typeLookup_type, builtinLookup_eq_fast]; kernel_rfl
theorem slot_map_init : Slot "map" "__init__" "object.__init__" := .of (owner := "object") (n := "__init__") (by rw [typeLookup_type, builtinLookup_eq_fast]; kernel_rfl) (by decide +kernel) (by decide +kernel) (by decide +kernel)
    (by first | exact .inl (by decide +kernel) | exact .inr (by decide +kernel)) (by rw [isSubtype_type]; kernel_rfl)
theorem called_map : TypeCalled "map" "map.__new__" "object.__init__" :=
  ⟨by decide +kernel, by decide +kernel, ⟨_, _, mro_map⟩, madeBy_type mro_map lookup_map_new (by decide +kernel), by decide +kernel, by rw [isSubtype_type]; kernel_rfl, slot_map_init⟩
theorem typeCall_map_2 (a b : Value) : checkTypeCall "map" ⟨[a, b], []⟩ = pure () := by kernel_rfl
theorem newCall_map_2 (a b : Value) : checkBuiltinCall "map.__new__" ⟨[.type "map", a, b], []⟩ = pure () := by kernel_rfl
theorem args_object_init_3 (a b c : Value) : argsOk "object.__init__" ⟨[a, b, c], []⟩ := by unfold argsOk; kernel_rfl
theorem entry_map_new : entryFor table "map.__new__" = some Builtin.«map.__new__» := entryFor_of_tree (by kernel_rfl)
theorem slot_map_next : Slot "map" "__next__" "map.__next__" := .of (owner := "map") (n := "__next__") (by rw [typeLookup_type, builtinLookup_eq_fast]; kernel_rfl) (by decide +kernel) (by decide +kernel) (by decide +kernel)
    (by first | exact .inl (by decide +kernel) | exact .inr (by decide +kernel)) (by rw [isSubtype_type]; kernel_rfl)
theorem entry_map_next : entryFor table "map.__next__" = some Builtin.«map.__next__» := entryFor_of_tree (by kernel_rfl)
theorem args_map_next (a : Value) : argsOk "map.__next__" ⟨[a], []⟩ := by unfold argsOk; kernel_rfl
theorem slot_map_iter : Slot "map" "__iter__" "map.__iter__" := .of (owner := "map") (n := "__iter__") (by rw [typeLookup_type, builtinLookup_eq_fast]; kernel_rfl) (by decide +kernel) (by decide +kernel) (by decide +kernel)
    (by first | exact .inl (by decide +kernel) | exact .inr (by decide +kernel)) (by rw [isSubtype_type]; kernel_rfl)
theorem entry_map_iter : entryFor table "map.__iter__" = some Builtin.«dict_keyiterator.__iter__» :=
  entryFor_alias (id' := "dict_keyiterator.__iter__") (by kernel_rfl) (by first | rfl | decide +kernel | (unfold String.splitOn; simp +decide [String.splitOnAux])) (by decide +kernel) (by kernel_rfl)
theorem args_map_iter (a : Value) : argsOk "map.__iter__" ⟨[a], []⟩ := by unfold argsOk; kernel_rfl
theorem map_no_len : typeLookup (.type "map") "__len__" = pure none := by rw [typeLookup_type, builtinLookup_eq_fast]; kernel_rfl
theorem map_no_hint : typeLookup (.type "map") "__length_hint__" = pure none := by rw [typeLookup_type, builtinLookup_eq_fast]; kernel_rfl
theorem sub_map : isSubtype (.type "map") (.type "map") = pure true := by rw [isSubtype_type]; kernel_rfl
end F2
end Mine
end
section
open PySem.Calls
open AutoSeq1 (wpAny_loadPart')
namespace Mine
noncomputable def mapIt (l : Addr) : Obj := { cls := .type "list_iterator", data := .fields #[.ref l, .int 0 0] }
theorem meets_map_new (l : Addr) (id : String) (items : Array Value) (n : Nat) :
    Meets (Builtin.«map.__new__» ⟨[.type "map", .builtin id, .ref l], []⟩) (fun _ R s => s.heap.get? l = some { cls := .type "list", dict := none, data := .seq items n, slots := #[] } ∧
      R (.ok (.ret (.ref (s.heap.objs.size + 2))))
        { s with heap := ((s.heap.push (mapIt l)).push { cls := .type "tuple", data := .seq #[.ref s.heap.objs.size] }).push { cls := .type "map", data := .fields #[.ref (s.heap.objs.size + 1), .builtin id] } }) :=
  .of_wp fun prog w A R s h => by
    obtain ⟨hp, g, d, tk, os⟩ := s; obtain ⟨hl, h⟩ := h
    have hsub := F2.sub_map
    have hL : Heap.IsList (Shared.heap ⟨hp, g, d, tk, os⟩) l items := ⟨_, hl, rfl, n, rfl⟩
    have e1 : (hp.push (mapIt l)).objs.size = hp.objs.size + 1 := Heap.size_push ..
    wp_walk using wpAny_loadPart' hl, wpAny_pyIter_list hL
    refine ⟨_, rfl, ?_⟩
    have e2 : ((hp.push (mapIt l)).push { cls := .type "tuple", data := .seq #[.ref hp.objs.size] }).objs.size = hp.objs.size + 2 := by rw [Heap.size_push, e1]
    show R (.ok (.ret (.ref ((hp.push (mapIt l)).push { cls := .type "tuple", data := .seq #[.ref hp.objs.size] }).objs.size))) _
    rw [e2]
    have h' := h
    rw [show (Shared.heap ⟨hp, g, d, tk, os⟩).objs.size + 1 = (hp.push (mapIt l)).objs.size from e1.symm] at h'
    exact h'
section
variable {prog : Program} {w : World} {A : Around} {E : Value → Shared → Prop} {s : Shared}
noncomputable abbrev MapAt (h : Heap) (m tup it : Addr) (id : String) : Prop := h.get? m = some { cls := .type "map", dict := none, data := .fields #[.ref tup, .builtin id], slots := #[] } ∧ h.get? tup = some { cls := .type "tuple", dict := none, data := .seq #[.ref it], slots := #[] }
theorem map_next_item {m tup it l : Addr} {i : Nat} {items : Array Value} {v : Value} {id : String} {Q : Option Value → Shared → Prop}
    (hm : MapAt s.heap m tup it id) (hit : s.heap.IsListIter it l i) (hl : s.heap.IsList l items) (hx : items[i]? = some v)
    (hQ : ∀ h', h'.IsListIter it l (i + 1) → Heap.SameBut it s.heap h' → wpAny (model prog w) A.in1 (call (.builtin id) [v]) (fun r s' => Q (some r) s') (fun _ _ => False) { s with heap := h' }) :
    wpAny (model prog w) A (pyNext (.ref m)) Q E s := by
  obtain ⟨hm, ht⟩ := hm
  have hT : s.TypeIs (.ref m) "map" := ⟨_, hm, rfl⟩
  unfold pyNext
  refine wpAny_bind (wpAny_attempt (wpAny_callSpecial?_slot (name := Str.ofString "__next__") hT F2.slot_map_next
    (wpAny_call_entry F2.slot_map_next hT F2.entry_map_next ?_ (F2.args_map_next _))))
  show wpAny _ _ (field (.ref m) 0 >>= _) _ _ s
  refine wpAny_bind (wpAny_field hm rfl (x := .ref tup) rfl ?_)
  show wpAny _ _ (seqItems? (.ref tup) >>= _) _ _ s
  refine wpAny_bind (wpAny_seqItems ht rfl ?_)
  show wpAny _ _ (forIn #[Value.ref it] #[] _ >>= _) _ _ s
  rw [← Array.forIn_toList, show (#[Value.ref it] : Array Value).toList = [Value.ref it] from rfl, List.forIn_cons]
  refine wpAny_bind (wpAny_bind (wpAny_bind (wpAny_holding (wpAny_nextOf_list_item hit hl hx fun h₁ hit₁ hs₁ => wpAny_pure ?_))))
  dsimp only
  rw [List.forIn_nil]
  refine wpAny_pure ?_
  have hne : m ≠ it := by
    rintro rfl
    obtain ⟨o, ho, hc, _⟩ := hit
    rw [hm] at ho
    cases ho
    exact absurd hc (by simp)
  have hm₁ : h₁.get? m = some { cls := .type "map", dict := none, data := .fields #[.ref tup, .builtin id], slots := #[] } := (hs₁.2 m hne).trans hm
  refine wpAny_bind (wpAny_field hm₁ rfl (x := .builtin id) rfl ?_)
  refine wpAny_bind (wpAny_holding (wpAny_mono (hQ h₁ hit₁ hs₁) (fun r s' z => ?_) fun _ _ z => z.elim))
  exact wpAny_bind (wpAny_letGo (wpAny_pure ⟨_, rfl, wpAny_pure z⟩))
theorem map_next_end {m tup it l : Addr} {i : Nat} {items : Array Value} {id : String} {Q : Option Value → Shared → Prop} (hh : A.handled = none)
    (hm : MapAt s.heap m tup it id) (hit : s.heap.IsListIter it l i) (hl : s.heap.IsList l items) (hx : items[i]? = none)
    (hQ : ∀ h', Heap.ExtBut it s.heap h' → Q none { s with heap := h' }) : wpAny (model prog w) A (pyNext (.ref m)) Q E s := by
  obtain ⟨hm, ht⟩ := hm
  have hT : s.TypeIs (.ref m) "map" := ⟨_, hm, rfl⟩
  unfold pyNext
  refine wpAny_bind (wpAny_attempt (wpAny_callSpecial?_slot (name := Str.ofString "__next__") hT F2.slot_map_next
    (wpAny_call_entry F2.slot_map_next hT F2.entry_map_next ?_ (F2.args_map_next _))))
  show wpAny _ _ (field (.ref m) 0 >>= _) _ _ s
  refine wpAny_bind (wpAny_field hm rfl (x := .ref tup) rfl ?_)
  show wpAny _ _ (seqItems? (.ref tup) >>= _) _ _ s
  refine wpAny_bind (wpAny_seqItems ht rfl ?_)
  show wpAny _ _ (forIn #[Value.ref it] #[] _ >>= _) _ _ s
  rw [← Array.forIn_toList, show (#[Value.ref it] : Array Value).toList = [Value.ref it] from rfl, List.forIn_cons]
  refine wpAny_bind (wpAny_bind (wpAny_bind (wpAny_holding (wpAny_nextOf_list_end hh hit hl hx fun h' x he' hx' => ?_))))
  obtain ⟨o, ho, hc⟩ := hx'
  refine wpAny_bind (wpAny_isInstance (T := "StopIteration") (b := true) ⟨o, ho, hc⟩ isSubtype_stop ?_)
  exact wpAny_pure (hQ _ he')
theorem pyIter_map {m tup it : Addr} {id : String} {Q : Value → Shared → Prop} (hm : MapAt s.heap m tup it id) (h : Q (.ref m) s) : wpAny (model prog w) A (pyIter (.ref m)) Q E s := by
  have hT : s.TypeIs (.ref m) "map" := ⟨_, hm.1, rfl⟩
  refine wpAny_pyIter_slot hT F2.slot_map_iter (wpAny_call_entry F2.slot_map_iter hT F2.entry_map_iter ?_ (F2.args_map_iter _))
  show wpAny _ _ (ret (.ref m)) _ _ s
  exact wpAny_pure ⟨_, rfl, "map", _, hT, F2.slot_map_next.lookup, h⟩
end
end Mine
end
section
open PySem.Calls
open AutoSeq1 (wpAny_loadPart')
open Builtin Builtin.Str Builtin.Int
namespace Mine
noncomputable def MapO (tup : Addr) (id : String) (o : Obj) : Prop := o = { cls := .type "map", dict := none, data := .fields #[.ref tup, .builtin id], slots := #[] }
noncomputable def capNe (l : List Nat) : List Nat := (Txt.capitalized (T l)).cps.toList
theorem capT_len (l : List Nat) : (capT l).length ≤ 3 * l.length := by
  have h2 : (capNe l).length ≤ 3 * l.length := by
    have := StrLaws.placedRaw_le3 (T l).cps (fun i c => if i == 0 then Unicode.titleOf c else Unicode.lowerAt (T l).cps i) (fun i c => by
      split
      · exact StrLaws.titleOf_le3 _
      · exact StrLaws.lowerAt_le3 _ _)
    simpa [capNe, Txt.capitalized, placed, T] using this
  unfold capT Txt.capitalize
  split
  · show (T l).cps.toList.length ≤ _
    rw [T_cps]; omega
  · exact h2
section
variable {w : World} {mg mb : Str → Option Value} {H : Heap} {K : Kn} {n : Nat} {L : Addr} {bs : Bs} {own : Owns} {env : Env}
theorem cap_ {v : Value} {x : List Nat} {A : Around} {s : Shared} {E : Value → Shared → Prop} {Q : Value → Shared → Prop} (S : St H K L bs own s) (hv : FIs v (.str (T x))) (hz : x.length ≤ 10000)
    (q : ∀ u s', FIs u (.str (T (capT x))) → St H K L bs own s' → Q u s') : wpAny (model pw w) A (call (.builtin "str.capitalize") [v]) Q E s := by
  obtain ⟨t, rfl⟩ := hv
  have hz2 : (capNe x).length ≤ 100000 := by
    have := StrLaws.placedRaw_le3 (T x).cps (fun i c => if i == 0 then Unicode.titleOf c else Unicode.lowerAt (T x).cps i) (fun i c => by
      split
      · exact StrLaws.titleOf_le3 _
      · exact StrLaws.lowerAt_le3 _ _)
    have h2 : (capNe x).length ≤ 3 * x.length := by simpa [capNe, Txt.capitalized, placed, T] using this
    omega
  refine SC.capitalize (fitT (m := (Txt.capitalized (T x)).length) ?_) fun t' k => q _ _ ⟨t', ?_⟩ (S.toks k)
  · show (Txt.capitalized (T x)).cps.size ≤ _
    rw [← Array.length_toList]; exact hz2
  · show Value.str (Txt.capitalize (T x)) t' = Value.str (T (capT x)) t'
    unfold capT
    rw [T_toList]
noncomputable def mst (m tup it l k : Nat) (rest : Owns) : Owns := (it, .raw (ListIt l k)) :: (m, .raw (MapO tup "str.capitalize")) :: (tup, .tup [.ref it]) :: rest
theorem mst_at {m tup it l k : Addr} {rest : Owns} {s : Shared} (S : St H K L bs (mst m tup it l k rest) s) : MapAt s.heap m tup it "str.capitalize" ∧ s.heap.IsListIter it l k := by
  obtain ⟨oi, ei, hit⟩ := S.has _ (.head _)
  obtain ⟨om, em, rfl⟩ := S.has _ (.tail _ (.head _))
  obtain ⟨vs, et, hv⟩ := S.has _ (.tail _ (.tail _ (.head _)))
  obtain ⟨v, ev, hv⟩ := hv.one
  obtain rfl := hv
  have : vs = #[.ref it] := by rw [← ev]
  subst this
  exact ⟨⟨em, et⟩, ⟨oi, ei, hit⟩⟩
theorem map_next {m tup it l k : Addr} {ls : List (List Nat)} {rest : Owns} {A : Around} {s : Shared} {E : Value → Shared → Prop} {Q : Option Value → Shared → Prop} (S : St H K L bs (mst m tup it l k rest) s) (hl : Hs H rest l (.list (Fvs ls)))
    (hz : ∀ x ∈ ls, x.length ≤ 10000) {x : List Nat} (hx : ls[k]? = some x) (q : ∀ v s', FIs v (.str (T (capT x))) → St H K L bs (mst m tup it l (k + 1) rest) s' → Q (some v) s') : wpAny (model pw w) A (pyNext (.ref m)) Q E s := by
  obtain ⟨hm, hit⟩ := mst_at S
  obtain ⟨vs, nl, el, fl⟩ := S.look (hl.elim .inl fun h => .inr (.tail _ (.tail _ (.tail _ h))))
  obtain ⟨v, hv, hf⟩ := fl.get (fvs_get hx)
  refine map_next_item hm hit ⟨_, el, rfl, nl, rfl⟩ (by simpa using hv) fun h' hit' hs => ?_
  have S' : St H K L bs (mst m tup it l (k + 1) rest) { s with heap := h' } := S.turn hs.extBut hit' nt_list
  exact cap_ S' hf (hz x (List.mem_of_getElem? hx)) q
theorem map_end {m tup it l k : Addr} {ls : List (List Nat)} {rest : Owns} {A : Around} {s : Shared} {E : Value → Shared → Prop} {Q : Option Value → Shared → Prop} (hh : A.handled = none) (S : St H K L bs (mst m tup it l k rest) s) (hl : Hs H rest l (.list (Fvs ls)))
    (hk : ls.length ≤ k) (q : ∀ s', St H K L bs rest s' → Q none s') : wpAny (model pw w) A (pyNext (.ref m)) Q E s := by
  obtain ⟨hm, hit⟩ := mst_at S
  obtain ⟨vs, nl, el, fl⟩ := S.look (hl.elim .inl fun h => .inr (.tail _ (.tail _ (.tail _ h))))
  have := fl.length
  rw [fvs_len, Array.length_toList] at this
  refine map_next_end (items := vs) hh hm hit ⟨_, el, rfl, nl, rfl⟩ (by simp; omega) fun h' hs => q _ ?_
  exact (St.off S hs (hP := nt_list)).weak ((List.sublist_cons_self ..).trans (List.sublist_cons_self ..))
theorem list_push {i : Nat} {a : Addr} {fs gs : List Fv} {f : Obj → Obj} {s : Shared} {vs vs' : Array Value} {k k' : Nat} (S : St H K L bs own s) (e : own[i]? = some (a, .list fs)) (ex : s.heap.get? a = some { cls := .type "list", data := .seq vs k })
    (hf : f { cls := .type "list", data := .seq vs k } = { cls := .type "list", data := .seq vs' k' }) (fl : FL vs'.toList gs) : St H K L bs (own.set i (a, .list gs)) { s with heap := s.heap.update a f } := by
  have hu := Heap.get?_update_self f ex (by rw [hf]; rfl)
  rw [hf] at hu
  exact S.mut (i := i) (a := a) (w := .list fs) (w' := .list gs) e (t := s.toks) (list_mut ex (Heap.SameBut.update ..).extBut) ⟨_, k', hu, fl⟩ (n2 := rfl)
theorem mapLoop {m tup it l D : Addr} {ls : List (List Nat)} {rest : Owns} {A : Around} {R : Result → Shared → Prop} {res : Value} (hh : A.handled = none) (hl : Hs H rest l (.list (Fvs ls))) (hz : ∀ x ∈ ls, x.length ≤ 10000) (hN : ls.length ≤ 1000) :
    ∀ j k s, k + j = ls.length → St H K L bs (mst m tup it l k ((D, .list (Fvs ((ls.take k).map capT))) :: rest)) s → (∀ s', St H K L bs ((D, .list (Fvs (ls.map capT))) :: rest) s' → R (.ok (.ret res)) s') →
      codeAny (model pw w) A (.builtin "list.extend.loop" ⟨[.ref D, .ref m, res], []⟩) R s := by
  intro j
  induction j with
  | zero =>
    intro k s hk S q
    refine codeAny_builtin F.entry_extend_loop ?_
    rw [Around.under_plainId F.plain_extend_loop _]
    show PySem.wpAny _ A.in1 (pyNext (.ref m) >>= _) _ _ s
    refine wpAny_bind (map_end (ls := ls) hh S (hl.elim .inl fun h => .inr (.tail _ h)) (by omega) fun s' S' => wpAny_pure (q s' ?_))
    rw [List.take_of_length_le (by omega)] at S'
    exact S'
  | succ j ih =>
    intro k s hk S q
    refine codeAny_builtin F.entry_extend_loop ?_
    rw [Around.under_plainId F.plain_extend_loop _]
    show PySem.wpAny _ A.in1 (pyNext (.ref m) >>= _) _ _ s
    have hx : ls[k]? = some ls[k] := List.getElem?_eq_getElem (by omega)
    refine wpAny_bind (map_next S (hl.elim .inl fun h => .inr (.tail _ h)) hz hx fun v s' hv S' => ?_)
    obtain ⟨vs, c, ex, fl⟩ := S'.has _ (.tail _ (.tail _ (.tail _ (.head _))))
    have hfl := fl.length
    rw [fvs_len, Array.length_toList, List.length_map, List.length_take] at hfl
    have hsz : sizeLine = 2 ^ 24 := rfl
    show PySem.wpAny _ A.in1 (updateSeq D (·.push v) >>= _) _ _ _
    refine wpAny_bind (wpAny_updateSeq ex rfl (wpAny_pure ⟨plainId_quiet F.plain_extend_loop _, ih (k + 1) _ (by omega) ?_ q⟩) (by omega) (by show (vs.push v).size ≤ sizeLine + 1; rw [Array.size_push]; omega))
    rw [(take_snoc hx).1, List.map_append]
    refine list_push (i := 3) S' rfl ex (Obj.mapSeq_push_plain _ _ _) ?_
    rw [Array.toList_push]
    unfold Fvs
    rw [List.map_append]
    exact fl.append (.cons hv .nil)
theorem map_collect {m tup it l : Addr} {ls : List (List Nat)} {rest : Owns} {A : Around} {s : Shared} {E : Value → Shared → Prop} {Q : List Value → Shared → Prop} (hh : A.handled = none) (hl : Hs H rest l (.list (Fvs ls))) (hz : ∀ x ∈ ls, x.length ≤ 10000) (hN : ls.length ≤ 1000)
    (S : St H K L bs (mst m tup it l 0 rest) s) (q : ∀ vs s', FL vs (Fvs (ls.map capT)) → St H K L bs rest s' → Q vs s') : PySem.wpAny (model pw w) A (collect (.ref m)) Q E s := by
  obtain ⟨hm, -⟩ := mst_at S
  have hT : ∀ s' : Shared, s'.heap.get? m = some { cls := .type "map", dict := none, data := .fields #[.ref tup, .builtin "str.capitalize"], slots := #[] } → s'.TypeIs (.ref m) "map" := fun s' e => ⟨_, e, rfl⟩
  have hSm : s.heap.objs.size ≠ m := Nat.ne_of_gt (Heap.lt_size hm.1)
  unfold collect
  refine wpAny_bind (wpAny_runValue (codeAny_builtin F.entry_proto_collect ?_))
  rw [Around.under_plainId F.plain_proto_collect _]
  show PySem.wpAny _ A.in1 (newList [] >>= fun l => again (.builtin "list.__iadd__" ⟨[l, .ref m], []⟩)) _ _ s
  refine wpAny_bind (wpAny_newObj_type ?_)
  refine wpAny_pure ⟨plainId_quiet F.plain_list_iadd _, codeAny_builtin F.entry_list_iadd ?_⟩
  rw [Around.under_plainId F.plain_list_iadd _]
  have S1 := S.push (o := { cls := .type "list", dict := none, data := .seq ([] : List Value).toArray }) (t := s.toks) (w := .list []) ⟨_, 0, Heap.get?_push_size _ rfl, .nil⟩
  have eS1 : (s.heap.push { cls := .type "list", dict := none, data := .seq ([] : List Value).toArray }).get? s.heap.objs.size = some { cls := .type "list", dict := none, data := .seq ([] : List Value).toArray } := Heap.get?_push_size _ rfl
  have hm1 : MapAt (s.heap.push { cls := .type "list", dict := none, data := .seq ([] : List Value).toArray }) m tup it "str.capitalize" := ⟨Heap.get?_push_of_some _ hm.1, Heap.get?_push_of_some _ hm.2⟩
  generalize hD : s.heap.objs.size = D at S1 eS1 hSm
  show PySem.wpAny _ A.in1 (Builtin.List.listExtendWith (.ref D) (.ref m) (.ref D)) _ _ _
  unfold Builtin.List.listExtendWith
  refine wpAny_bind (wpAny_typeOf (hT _ hm1.1) ?_)
  have h1 : Builtin.List.listSameRef (.ref D) (.ref m) = false := by simp [Builtin.List.listSameRef, hSm]
  have h2 : (Value.type "map" == Value.type "list") = false := by decide
  have h3 : (Value.type "map" == Value.type "tuple") = false := by decide
  simp only [h1, h2, h3, Bool.or_false, Bool.false_eq_true, if_false]
  refine wpAny_bind (pyIter_map hm1 ?_)
  refine wpAny_bind (wpAny_holding ?_)
  unfold Builtin.List.listLengthHint
  refine wpAny_bind (wpAny_specialOf (hT _ hm1.1) F2.map_no_len ?_)
  show PySem.wpAny _ A.in1 (specialOf (Value.ref m) (Str.ofString "__length_hint__") >>= _) _ _ _
  refine wpAny_bind (wpAny_specialOf (hT _ hm1.1) F2.map_no_hint ?_)
  refine wpAny_pure ?_
  show PySem.wpAny _ A.in1 (rule "list.extend.makes-room" >>= fun _ => Builtin.List.listTouch (.ref D) >>= fun _ =>
    again (.builtin "list.extend.loop" ⟨[.ref D, .ref m, .ref D], []⟩)) _ _ _
  refine wpAny_bind (wpAny_rule ?_)
  refine wpAny_bind ?_
  show PySem.wpAny _ A.in1 (updateSeq D (·.push .none) >>= fun _ => updateSeq D (·.pop)) _ _ _
  refine wpAny_bind (wpAny_updateSeq eS1 rfl ?_)
  have S2 := list_push (i := 0) (gs := [.none]) (f := Obj.mapSeq (·.push Value.none)) S1 rfl eS1 (Obj.mapSeq_push_plain _ _ _) (by exact .cons rfl .nil)
  obtain ⟨vs2, c2, e2, fl2⟩ := S2.has _ (.head _)
  obtain ⟨v2, ev2, hv2⟩ := fl2.one
  obtain rfl : vs2 = #[v2] := by rw [← ev2]
  have hsl : sizeLine = 2 ^ 24 := rfl
  refine wpAny_updateSeq e2 rfl ?_ (by show 1 ≤ sizeLine; omega) (by show 0 ≤ sizeLine + 1; omega)
  have hmp : Obj.mapSeq (·.pop) { cls := .type "list", data := .seq #[v2] c2 } = { cls := .type "list", data := .seq (#[v2] : Array Value).pop (c2 + 1) } := by simp [Obj.mapSeq]
  have S3 := list_push (i := 0) (gs := []) (f := Obj.mapSeq (·.pop)) S2 rfl e2 hmp (by exact .nil)
  refine wpAny_pure ⟨plainId_quiet F.plain_extend_loop _, mapLoop (K := K) (L := L) (bs := bs) (tup := tup) (it := it) (D := D) (ls := ls) (rest := rest) (by exact hh) hl hz hN ls.length 0 _ (by omega) ?_ fun s' S' => ?_⟩
  · refine S3.perm ?_
    exact (List.perm_middle (l₁ := [(it, Own.raw (ListIt l 0)), (m, .raw (MapO tup "str.capitalize")), (tup, .tup [.ref it])]) (a := (D, Own.list [])) (l₂ := rest)).symm
  · obtain ⟨vs, c, e, fl⟩ := S'.has _ (.head _)
    show PySem.wpAny _ A (load D >>= _) _ _ s'
    refine wpAny_bind (wpAny_load e ?_)
    exact wpAny_pure (q _ _ fl (S'.weak (List.sublist_cons_self ..)))
theorem map_join {m tup it l : Addr} {sep : List Nat} {v : Value} {ls : List (List Nat)} {rest : Owns} {A : Around} {s : Shared} {E : Value → Shared → Prop} {Q : Value → Shared → Prop} (hh : A.handled = none) (hl : Hs H rest l (.list (Fvs ls))) (hz : ∀ x ∈ ls, x.length ≤ 300) (hN : ls.length ≤ 1000) (hsep : sep.length ≤ 1000)
    (hv : FIs v (.str (T sep))) (S : St H K L bs (mst m tup it l 0 rest) s) (q : ∀ u s', FIs u (.str (T (joinL sep (ls.map capT)))) → St H K L bs rest s' → Q u s') : PySem.wpAny (model pw w) A (call (.builtin "str.join") [v, .ref m]) Q E s := by
  obtain ⟨t, rfl⟩ := hv
  obtain ⟨hm, -⟩ := mst_at S
  have hT : s.TypeIs (.ref m) "map" := ⟨_, hm.1, rfl⟩
  refine wpAny_call (codeAny_call_builtin F.slot_str_join.plain F.entry_str_join (F.slot_str_join.check _ _ _ _ _ _ _ _ (typeIs_str _ _ _) (F.args_str_join_2 _ _) ?_))
  rw [join_tree_other]
  refine wpAny_bind (wpAny_typeOf hT ?_)
  show PySem.wpAny _ A.in1 ((pyIter (.ref m)).tryCatch _ >>= fun it => collect it >>= fun items => joinTail (T sep) items) _ _ s
  refine wpAny_bind (wpAny_tryCatch (pyIter_map hm ?_))
  refine wpAny_bind (map_collect (ls := ls) (by exact hh) hl (fun x hx => Nat.le_trans (hz x hx) (by decide)) hN S fun vs s' fl S' => ?_)
  obtain ⟨l2, rfl, hl2⟩ := fl.strs
  have hok : JoinOk (T sep) (l2.map (·.1)) = true := by
    rw [hl2]
    refine joinOk_T (by rw [List.length_map]; exact hN) (fun y hy => ?_) hsep
    obtain ⟨x, hx, rfl⟩ := List.mem_map.mp hy
    have := capT_len x
    have := hz x hx
    omega
  have hpost : ∀ t' k, Q (.str (Txt.join (T sep) (l2.map (·.1))) t') { s' with toks := k } := fun t' k => by
    refine q _ _ ⟨t', ?_⟩ (S'.toks k)
    rw [hl2, join_T]
  unfold JoinOk at hok
  rw [Bool.not_eq_true'] at hok
  have g : Gives (joinTail (T sep) (strValues l2)) (joinMade (T sep) l2) := by
    have g0 := gives_joinTail (T sep) l2 hok
    cases l2 with
    | nil => exact g0
    | cons p r => cases r with
      | nil => exact g0
      | cons q r' => exact g0
  exact g pw w A (wants Q E) s' (post_join l2 ⟨joinFit_length hok, hpost⟩)
end
end Mine
end
section
open PySem.Calls
open AutoSeq1 (wpAny_loadPart')
open Builtin Builtin.Str Builtin.Int
namespace Mine
theorem split_len (x y : Str) : (Txt.split x y).length ≤ x.length + 2 := by
  unfold Txt.split
  split
  · simp
  · split
    · simp
    · rw [length_partsBetween]
      have := StrLaws.occ_length_le x y 0 x.length (x.length + 1)
      omega
theorem split_each (x y : Str) : ∀ p ∈ Txt.split x y, p.length ≤ x.length := by
  intro p hp
  unfold Txt.split at hp
  split at hp
  · obtain rfl := List.mem_singleton.mp hp; exact Nat.le_refl _
  · split at hp
    · obtain rfl := List.mem_singleton.mp hp; exact Nat.le_refl _
    · simp only [partsBetween, List.mem_map] at hp
      obtain ⟨⟨i, j⟩, _, rfl⟩ := hp
      exact strSub_length_le ..
section
variable {w : World} {mg mb : Str → Option Value} {H : Heap} {K : Kn} {n : Nat} {L : Addr} {bs : Bs} {own : Owns} {env : Env}
theorem FL.ofStrs : ∀ {l : List (Str × Tok)} {ls : List Str}, l.map (·.1) = ls → FL (strValues l) (Fvs (ls.map (·.cps.toList)))
  | [], _, e => by subst e; exact .nil
  | (x, t) :: r, _, e => by
    subst e
    refine .cons ⟨t, ?_⟩ (FL.ofStrs rfl)
    show Value.str x t = Value.str (T x.cps.toList) t
    rw [T_toList]
theorem split_ {v u : Value} {x y : List Nat} {R : Fv → Owns → Prop} (hv : FIs v (.str (T x))) (hu : FIs u (.str (T y))) (hy : y ≠ []) (hx : x.length ≤ 1000) (h : ∀ a, R (.ref a) ((a, .list (Fvs (splitT x y))) :: own)) :
    Tv w H K n L bs own (call (.builtin "str.split") [v, u]) R := fun A s Q r S q => by
  obtain ⟨t, rfl⟩ := hv
  obtain ⟨t', rfl⟩ := hu
  have hy0 : ((T y).length == 0) = false := by rw [T_len]; cases y with | nil => exact absurd rfl hy | cons _ _ => rfl
  have hsz : sizeLine = 2 ^ 24 := rfl
  have fin : ∀ (l : List (Str × Tok)) tk, l.map (·.1) = Txt.split (T x) (T y) → Q (.ref s.heap.objs.size) { s with heap := s.heap.push { cls := .type "list", data := .seq (strValues l).toArray }, toks := tk } := fun l tk e =>
    q _ _ _ _ (h _) rfl (S.push (w := .list (Fvs (splitT x y))) ⟨_, 0, Heap.get?_push_size _ rfl, FL.ofStrs e⟩)
  cases h1 : (decide ((T x).length < (T y).length) || decide (strKind (T x) < strKind (T y)))
  · cases hf : (occurrences (T x) (T y) 0 (T x).length ((T x).length + 1)).isEmpty
    · refine call_meets F.slot_str_split (typeIs_str _ _ _) F.entry_str_split (F.args_str_split_2 _ _) (meets_str_split_sep _ _ t t' h1 hy0 hf (by rw [T_len]; omega) (by
        rw [length_partsBetween]
        have := StrLaws.occ_length_le (T x) (T y) 0 (T x).length ((T x).length + 1)
        rw [T_len] at this
        rw [T_len]
        omega)) ?_
      show wants Q noE _ { s with toks := _, heap := s.heap.push { cls := .type "list", data := .seq (strsFrom s.toks (partsBetween (T x) (occurrences (T x) (T y) 0 (T x).length ((T x).length + 1)) (T y).length)).toArray } }
      rw [strsFrom_eq]
      exact fin _ _ ((numbered_texts _ _).trans ((if_neg (ne_true_of_eq_false h1)).trans (if_neg (ne_true_of_eq_false hf))).symm)
    · exact call_meets F.slot_str_split (typeIs_str _ _ _) F.entry_str_split (F.args_str_split_2 _ _) (meets_str_split_not_found _ _ t t' h1 hy0 hf) (fin [(T x, t)] _ ((if_neg (ne_true_of_eq_false h1)).trans (if_pos hf)).symm)
  · exact call_meets F.slot_str_split (typeIs_str _ _ _) F.entry_str_split (F.args_str_split_2 _ _) (meets_str_split_cannot_occur _ _ t t' h1) (fin [(T x, t)] _ (if_pos h1).symm)
theorem call_map {l : Addr} {id : String} {fs : List Fv} {R : Fv → Owns → Prop} (hl : Hs H own l (.list fs))
    (h : ∀ m tup it, R (.ref m) ((it, .raw (ListIt l 0)) :: (m, .raw (MapO tup id)) :: (tup, .tup [.ref it]) :: own)) : Tv w H K n L bs own (call (.type "map") [.builtin id, .ref l]) R := fun A s Q r S q => by
  obtain ⟨vs, k, e, _⟩ := S.look hl
  refine callType_new F2.called_map (by decide) (F2.typeCall_map_2 _ _) (F2.newCall_map_2 _ _) (fun obj => F2.args_object_init_3 obj _ _) F2.entry_map_new (meets_map_new l id vs k) ⟨e, ?_⟩
  have e1 : (s.heap.push (mapIt l)).objs.size = s.heap.objs.size + 1 := Heap.size_push ..
  have S1 := S.push (o := mapIt l) (t := s.toks) (w := .raw (ListIt l 0)) ⟨_, Heap.get?_push_size _ rfl, rfl, rfl⟩
  have S2 := S1.push (o := { cls := .type "tuple", data := .seq #[.ref s.heap.objs.size] }) (t := s.toks) (w := .tup [.ref s.heap.objs.size]) ⟨_, Heap.get?_push_size _ rfl, .cons rfl .nil⟩
  have S3 := S2.push (o := { cls := .type "map", data := .fields #[.ref (s.heap.objs.size + 1), .builtin id] }) (t := s.toks) (w := .raw (MapO (s.heap.objs.size + 1) id)) ⟨_, Heap.get?_push_size _ rfl, rfl⟩
  have e2 : ((s.heap.push (mapIt l)).push { cls := .type "tuple", data := .seq #[.ref s.heap.objs.size] }).objs.size = s.heap.objs.size + 2 := by rw [Heap.size_push, e1]
  have e3 : (((s.heap.push (mapIt l)).push { cls := .type "tuple", data := .seq #[.ref s.heap.objs.size] }).push { cls := .type "map", data := .fields #[.ref (s.heap.objs.size + 1), .builtin id] }).get? (s.heap.objs.size + 2) = some { cls := .type "map", data := .fields #[.ref (s.heap.objs.size + 1), .builtin id] } := by
    rw [← e2]; exact Heap.get?_push_size _ rfl
  refine ⟨⟨_, e3, rfl⟩, q _ _ _ _ (h (s.heap.objs.size + 2) (s.heap.objs.size + 1) s.heap.objs.size) rfl ?_⟩
  have S4 := S3.perm (own' := (s.heap.objs.size, .raw (ListIt l 0)) :: (((s.heap.push (mapIt l)).push { cls := .type "tuple", data := .seq #[.ref s.heap.objs.size] }).objs.size, .raw (MapO (s.heap.objs.size + 1) id)) :: ((s.heap.push (mapIt l)).objs.size, .tup [.ref s.heap.objs.size]) :: own) (by
    refine (List.Perm.cons _ (List.Perm.swap ..)).trans ?_
    exact List.Perm.swap ..)
  rw [e2, e1] at S4
  exact S4
theorem str_cap {P : Params} : findCls (KB P) (.type "str") (.type "type") "capitalize" = some (.val (.builtin "str.capitalize")) := by kernel_rfl
theorem getAttr_cap {A : Around} {s : Shared} {expr : Bool} {Q : Value → Shared → Prop} (X : (KB w.params).In s.heap) (h : ∀ t, Q (.builtin "str.capitalize") { s with toks := t }) : PySem.wpAny (model pw w) A (getAttr (.type "str") "capitalize" expr) Q noE s := by
  have hstub : opaqueClassAbove (.type "str") = pure none := by unfold opaqueClassAbove; dsimp only; rw [show Manifest.isStub "str" = false from by decide +kernel]; rfl
  have L0 : Looks (model pw w) s.heap (typeOf (.type "str")) (.type "type") := Looks.of_pure (kitMeta_of (by decide +kernel))
  have LO : Looks (model pw w) s.heap (opaqueClassAbove (.type "str")) none := Looks.of_pure hstub
  have hg : findIn (KB w.params) (.type "type") "__getattribute__" = some (some (.builtin "type.__getattribute__")) := type_tga
  refine cls_open X LO L0 hg (looks_hook X (r := none) (by rfl)) (by show subIn (KB w.params) _ _ = _; rfl) str_cap ?_
  exact wpAny_pure (by show PySem.wpAny _ _ (handedOut (.builtin "str.capitalize")) _ _ _; rw [handedOut_of rfl]; exact wpAny_pure (h _))
end
end Mine
end
section
open PySem.Calls
open AutoSeq1 (wpAny_loadPart')
open Builtin.ObjectAttr
namespace Mine
noncomputable def capw (s sep : List Nat) : List Nat := joinL sep ((splitT s sep).map capT)
section
variable {w : World} {mg mb : Str → Option Value} {H : Heap} {K : Kn} {n : Nat} {L : Addr} {bs : Bs} {own : Owns} {env : Env}
/-- a built-in by its name -/
theorem Tv.builtin {x : Str} {v : Value} {pos : Pos} {R : Fv → Owns → Prop} (BH : Base w mg mb H) (hx : nsIn (KF w.params) mainGlobals x = some Option.none) (hb : bootBuiltins x = some v) (hl : env.kindOf x = some .globalImplicit)
    (h : R (.val v) own) (hg : env.globals = mainGlobals := by rfl) (hbu : env.builtins = builtinsNs := by rfl) (hk : env.scope.kind = .function := by rfl) (hdb : (x == ("__debug__" : Str)) = false := by decide) (hn : x ≠ "__name__" := by decide) :
    Tv w H K n L bs own (eval (.Name x pos) env) R := fun A s Q r S q =>
  Calls.Name_function_global hk hl (Calls.loadGlobal_builtin (by rw [hg]; exact BH.g.keeps S.keep) (BH.mgs _ _ hx) (by rw [hbu]; exact BH.b.keeps S.keep) ((BH.mbs _ hn).trans hb) (q _ _ _ _ h rfl S)) hdb
theorem Tv.strCap {p apos : Pos} {R : Fv → Owns → Prop} (BH : Base w mg mb H) (hl : env.kindOf "str" = some .globalImplicit) (h : R (.val (.builtin "str.capitalize")) own)
    (hx : nsIn (KF w.params) mainGlobals "str" = some Option.none := by rfl)
    (hg : env.globals = mainGlobals := by rfl) (hbu : env.builtins = builtinsNs := by rfl) (hk : env.scope.kind = .function := by rfl) :
    Tv w H K n L bs own (eval (.Attribute (.Name "str" p) "capitalize" apos) env) R := fun A s Q r S q => by
  show PySem.wpAny (model pw w) A (do let ov ← eval (.Name "str" p) env; standAt apos.atName; let r ← holding [ov] (getAttr ov "capitalize" true); letTemporaryGo (.Name "str" p) ov r; Pure.pure r) Q noE s
  refine wpAny_bind (Tv.builtin (R := fun f o => f = .val (.type "str") ∧ o = own) BH hx (by decide +kernel) hl ⟨rfl, rfl⟩ hg hbu hk (by decide) (by decide) A s _ r S fun v s' f o y hv S' => ?_)
  obtain ⟨rfl, rfl⟩ := y
  obtain rfl := hv
  refine wpAny_bind (wpAny_standAt (wpAny_bind (wpAny_holding (getAttr_cap (BH.ext S'.keep).frag fun t => wpAny_bind (wpAny_pure (wpAny_pure (q _ _ _ _ h rfl (S'.toks t))))))))
theorem joinMap {v : Value} {sep : List Nat} {m tup it l : Addr} {ls : List (List Nat)} {rest : Owns} {R : Fv → Owns → Prop} (hv : FIs v (.str (T sep))) (hl : Hs H rest l (.list (Fvs ls))) (hz : ∀ x ∈ ls, x.length ≤ 300) (hN : ls.length ≤ 1000) (hsep : sep.length ≤ 1000)
    (h : R (.str (T (joinL sep (ls.map capT)))) rest) : Tv w H K n L bs (mst m tup it l 0 rest) (call (.builtin "str.join") [v, .ref m]) R := fun A s Q r S q =>
  map_join r.hd hl hz hN hsep hv S fun u s' hu S' => q _ _ _ _ h hu S'
/-- the contract of a def: its body, over its own frame -/
theorem Fn.introW {fa : Addr} {fd : FuncData} {body : List Stmt} {names : List Str} {fs : List Fv} {G : Heap → Prop} {R : Fv → Owns → Prop} {c : Addr} {vs : Array Value} {t : Tok}
    (hK : (KF w.params).lookup fa = some ⟨.type "function", none, .func fd, #[]⟩) (hC : (KF w.params).lookup c = some ⟨.type "code", none, .fields vs, #[]⟩)
    (hlen : fs.length = names.length)
    (h : ∀ (H : Heap) (K : Kn), Base w mg mb H → G H →
      Tf w H K n (envF fd fa H.objs.size).locals (names.zip fs) [] (execs body (envF fd fa H.objs.size)) fun f _ o => match f with | .ret g => R g o | _ => R .none o)
    (hbody : fd.body = .stmts body) (hbind : ∀ vals : List Value, vals.length = names.length → ∀ (A : Around) (s : Shared) (Q : List (Str × Value) → Shared → Prop) (E : Value → Shared → Prop), Base w mg mb s.heap → Q (names.zip vals) s → PySem.wpAny (model pw w) A (bindArgs fd ⟨vals, []⟩) Q E s)
    (hcode : fd.code = .ref c := by rfl) (hq : vs[1]? = some (.str fd.qualname t) := by rfl) (nds : names.Nodup := by decide +kernel)
    (hloc : ∀ x ∈ names, fd.scope.names.lookup x = some .local := by decide +kernel) (hcell : ∀ x ∈ fd.scope.names, x.2 ≠ .cell := by decide +kernel)
    (hco : fd.scope.isCoroutine = false := by rfl) (hgen : fd.scope.isGenerator = false := by rfl) (hk : fd.scope.kind = .function := by rfl)
    (n1 : fa ≠ 63 ∧ fa ≠ 70 ∧ c ≠ 63 ∧ c ≠ 70 := by decide) : Fn w mg mb (n + 1) (.ref fa) fs G R := fun A s vals Q r B hg hG hv q => by
  have ho := B.k _ _ hK n1.1 n1.2.1
  have hc := B.k _ _ hC n1.2.2.1 n1.2.2.2
  refine wpAny_call (codeAny_call_function r.limit ho rfl hco hgen hbody ⟨c, _, vs, t, hcode, hc, rfl, hq⟩ ?_)
  refine hbind vals (by rw [hv.length, hlen]) _ _ _ _ B ?_
  refine (wpAny_newFunctionEnv hcell (fun x hx => hloc x.1 (List.of_mem_zip (a := x.1) (b := x.2) hx).1) (fun h' hn hs => ?_) hk)
  have k : Ext s.heap h' := fun b o e => hs.extBut b o (Nat.ne_of_lt (Heap.lt_size e)) (Heap.get?_push_of_some _ e)
  refine ⟨B.nl.keeps k, codeAny_func ?_⟩
  have S : St s.heap s.os s.heap.objs.size (names.zip fs) [] { s with heap := h', toks := s.toks + (names.zip vals).length } :=
    ⟨⟨hg, rfl⟩, k, ⟨_, hn, fun x f e => by rw [lookup_rev nds]; exact lookup_zip hv x f e⟩, fun _ hp => (nomatch hp), by simp [ads], fun a ha => by
      rcases List.mem_cons.mp ha with rfl | ha
      · exact fresh_size (Ext.refl _)
      · exact nomatch ha⟩
  refine PySem.wpAny_mono (h s.heap s.os B hG _ _ (fun f s' => Q (match f with | .ret v => v | _ => .none) s') r.deeper S (fun v s' f bs' own' x hf S' => ?_)) (fun f s' x => x) (fun _ _ x => x.elim)
  have fin : Ret s s' own' := ⟨fun _ => S'.rest.1, S'.rest.2, S'.keep, S'.has, (List.nodup_cons.mp S'.nd).2, fun a ha => S'.fresh a (List.mem_cons_of_mem _ ha)⟩
  cases v <;> cases f <;> first | exact hf.elim | exact q _ _ _ _ x hf fin | exact q _ _ _ _ x rfl fin
noncomputable def fd162 : FuncData := fdOf (topSt 11) (Str.ofString "capwords") 3 [] (.ref 155) (.none) (.str (Str.ofString "cpy313.string") 557) (.ref 161) (.none)
theorem bind162 {A : Around} {s : Shared} {v u : Value} {Q : List (Str × Value) → Shared → Prop} {E : Value → Shared → Prop} (X : (KB w.params).In s.heap)
    (hq : Q [(Str.ofString "s", v), (Str.ofString "sep", u)] s) : PySem.wpAny (model pw w) A (bindArgs fd162 ⟨[v, u], []⟩) Q E s := by
  obtain ⟨h, g, d, t, os⟩ := s
  have e155 : h.get? 155 = some (o155 w.params) := X _ _ (by kernel_rfl)
  unfold bindArgs
  repeat lk
  exact hq
theorem fn_capwords (s sep : List Nat) (hs : s.length ≤ 300) (hp : sep.length ≤ 10) (hp0 : sep ≠ []) : Fn w mg mb 1 (.ref 162) [.str (T s), .str (T sep)] noG fun f o => f = .str (T (capw s sep)) ∧ o = [] := by
  refine Fn.introW (fd := fd162) (names := [Str.ofString "s", Str.ofString "sep"]) (body := bodyOf (topSt 11)) (c := 161) (by rfl) (by rfl) rfl (fun H K B hG => ?_) (by rfl) (fun vals e => ?_)
  · refine Tf.cons (Tf.retW ?_)
    have hsl : (splitT s sep).length ≤ 1000 := by
      unfold splitT
      rw [List.length_map]
      have := split_len (T s) (T sep)
      rw [T_len] at this
      omega
    have hse : ∀ x ∈ splitT s sep, x.length ≤ 300 := fun x hx => by
      obtain ⟨p, hp, rfl⟩ := List.mem_map.mp hx
      have := split_each (T s) (T sep) p hp
      rw [T_len] at this
      show p.cps.toList.length ≤ _
      rw [Array.length_toList]
      exact Nat.le_trans this hs
    refine Tv.strMeth (id := "str.join") (fun q => GM.join q) (Tv.or_s (Tv.name (by rfl) (by rfl) ⟨sep, rfl, by omega, ?_⟩)) (.inr ⟨_, _, rfl, rfl, rfl⟩)
    rw [if_neg hp0]
    refine ⟨_, rfl, Ts.cons (Tv.callT (id := "map") B (by rfl) (by decide +kernel) (by rfl) (Ts.cons (Tv.strCap B (by rfl) (Ts.cons ?_))))⟩
    refine Tv.strMeth (id := "str.split") (fun q => GM.split q) (Tv.name (by rfl) (by rfl) ⟨_, rfl, Ts.cons (Tv.name (by rfl) (by rfl) (Ts.nil fun v vals hv hvs => ?_))⟩) (.inr ⟨_, _, rfl, rfl, rfl⟩)
    obtain ⟨u, rfl, hu⟩ := hvs.one
    refine split_ hv hu hp0 (by omega) fun l => Ts.nil fun vals hvs => ?_
    obtain ⟨v1, v2, rfl, h1, h2⟩ := hvs.two
    obtain rfl := h1
    obtain rfl := h2
    refine call_map (.inr (.head _)) fun m tup it => Ts.nil fun v vals hv hvs => ?_
    obtain ⟨u, rfl, hu⟩ := hvs.one
    obtain rfl := hu
    refine joinMap (rest := [(l, .list (Fvs (splitT s sep)))]) hv (.inr (.head _)) hse hsl (by omega) ⟨[], Sub.nil, rfl, rfl⟩
  · match vals, e with
    | [v, u], _ => exact fun A s Q E B q => bind162 B.frag q
end
end Mine
end
section
open PySem.Calls
open AutoSeq1 (wpAny_loadPart')
namespace Mine
noncomputable def cntStep (st : Nat × List Nat) (p : List Nat × List Nat) : Nat × List Nat := if isUp p.2 = true then (st.1 + 1, st.2 ++ p.1.drop 1) else (st.1, st.2 ++ (p.1 ++ p.2))
noncomputable def cntTurn (ps : PS) : Nat × List Nat := ps.foldl cntStep (0, [])
theorem cntTurn_snoc (ps : PS) (p) : cntTurn (ps ++ [p]) = cntStep (cntTurn ps) p := by simp [cntTurn]
theorem cntTurn_len (ps : PS) : (cntTurn ps).2.length ≤ wt ps ∧ (cntTurn ps).1 ≤ ps.length := by
  refine revInd (P := fun ps => (cntTurn ps).2.length ≤ wt ps ∧ (cntTurn ps).1 ≤ ps.length) ⟨Nat.le_refl _, Nat.le_refl _⟩ (fun ps p ih => ?_) ps
  show _ ≤ _ ∧ _
  rw [cntTurn_snoc, wt_snoc, List.length_append, List.length_singleton]
  unfold cntStep
  split <;> simp <;> omega
/-- the counts, with room for so many turns -/
noncomputable def cntGo (k : Int) (free : List Nat) : Nat → List Nat → List Int → Option (List Int)
  | 0, _, _ => none
  | m + 1, tu, acc =>
    if (free ++ tu).length ≤ 300 ∧ (capw (free ++ tu) free).length ≤ 500 ∧ (∀ p ∈ (rd k (capw (free ++ tu) free)).1, p.2 ≠ []) then
      if (cntTurn (rd k (capw (free ++ tu) free)).1).1 = 0 then some acc
      else cntGo k free m (cntTurn (rd k (capw (free ++ tu) free)).1).2 (acc ++ [((cntTurn (rd k (capw (free ++ tu) free)).1).1 : Int)])
    else none
section
variable {w : World} {mg mb : Str → Option Value} {H : Heap} {K : Kn} {n : Nat} {L : Addr} {bs : Bs} {own : Owns} {env : Env}
set_option maxHeartbeats 1000000 in
theorem fn_counts (k : Int) (l free : List Nat) (cs : List Int) (m : Nat) (hm : m ≤ 1000) (hz : l.length ≤ 500) (hf : free.length ≤ 10) (hf0 : free ≠ []) (hgo : cntGo k free m (turnL k l) [] = some cs) :
    Fn w mg mb 5 (.ref 214) [.int k, .str (T l), .str (T free)] noG fun f o => ∃ a, f = .ref a ∧ Sub [(a, .list (cs.map .int))] o := by
  refine Fn.intro (names := [Str.ofString "kind", Str.ofString "line", Str.ofString "free"]) (body := bodyOf (topSt 20)) (c := 213) (by rfl) (by rfl) rfl (fun H K B hG => ?_) (by rfl) (fun vals e => ?_)
  · refine Tf.cons (Tf.assign (by rfl) (Tv.list (Ts.nil ⟨Nat.le_of_ble_eq_true rfl, fun ct => ?_⟩)))
    refine Tf.cons (Tf.assign (by rfl) (Tv.callFn (G := noG) B (by rfl) (by rfl) (by rfl) rfl (by decide) (by decide) (Ts.cons (Tv.name (by rfl) (by rfl) (Ts.cons (Tv.name (by rfl) (by rfl) (Ts.nil ⟨fun _ _ => trivial, (fn_turn k l hz).mono ?_⟩))))) (.inr ⟨_, _, rfl, rfl⟩)))
    rintro g o ⟨rfl, rfl⟩
    refine Tf.weak (bs' := [(Str.ofString "kind", .int k), (Str.ofString "free", .str (T free)), (Str.ofString "counts", .ref ct), (Str.ofString "turned", .str (T (turnL k l)))]) (own' := [(ct, .list [])]) ?_ (.cons rfl (.cons rfl (.cons rfl (.cons rfl .nil)))) Sub.refl
    refine Tf.cons (Tf.while_ (fun m b r => ∃ tu acc, m + acc.length ≤ 1000 ∧ cntGo k free m tu acc = some cs ∧ b = [(Str.ofString "kind", .int k), (Str.ofString "free", .str (T free)), (Str.ofString "counts", .ref ct), (Str.ofString "turned", .str (T tu))] ∧ r = [(ct, .list (acc.map .int))]) m ?_ ?_)
    · exact ⟨_, [], by simp; omega, hgo, rfl, rfl⟩
    · rintro m b r ⟨tu, acc, hacc, hg, rfl, rfl⟩
      refine Tb.value (Tv.bool fun v hv => tr_b hv ?_)
      dsimp only
      cases m with
      | zero => cases hg
      | succ m =>
        unfold cntGo at hg
        split at hg
        · rename_i hgu
          obtain ⟨h1, h2, h3⟩ := hgu
          have hfl : free.length + tu.length ≤ 300 := by rw [← List.length_append]; exact h1
          generalize hcp : capw (free ++ tu) free = cp at *
          have hrd := (rd_bnd k cp).1.1
          have hwt := rd_wt k cp
          refine Tf.cons (Tf.assign2 (by rfl) (by rfl) (Tv.callFn (G := noG) B (by rfl) (by rfl) (by rfl) rfl (by decide) (by decide) (Ts.cons (Tv.name (by rfl) (by rfl) (Ts.cons ?_))) (.inr ⟨_, _, rfl, rfl⟩)))
          refine Tv.callFn (G := noG) B (by rfl) (by rfl) (by rfl) rfl (by decide) (by decide) (Ts.cons (Tv.binop (Tv.name (by rfl) (by rfl) (Tv.name (by rfl) (by rfl) fun v u hv hu => add_t (x := free) (y := tu) hv hu (by omega) (Ts.cons (Tv.name (by rfl) (by rfl) (Ts.nil ⟨fun _ _ => trivial, (Fn.le (m := 4) (fn_capwords (free ++ tu) free h1 hf hf0)).mono ?_⟩))))))) (.inr ⟨_, _, rfl, rfl⟩)
          rintro g o ⟨rfl, rfl⟩
          rw [hcp]
          refine Ts.nil ⟨fun _ _ => trivial, (Fn.le (m := 4) (fn_read k cp h2)).mono ?_⟩
          rintro g o ⟨t, p, d, rfl, rfl⟩
          refine ⟨t, _, _, rfl, .head _, ?_⟩
          refine Tf.cons (Tf.assign (by rfl) (Tv.strT (l := []) (by decide +kernel) ?_))
          refine Tf.cons (Tf.assign (by rfl) (Tv.int ?_))
          refine Tf.weak (bs' := [(Str.ofString "kind", .int k), (Str.ofString "free", .str (T free)), (Str.ofString "counts", .ref ct), (Str.ofString "pile", .ref p), (Str.ofString "turned", .str (T [])), (Str.ofString "great", .int (0 : Nat))])
            (own' := [(p, .acc d 0 ((rd k cp).1.map tp)), (ct, .list (acc.map .int))]) ?_ (.cons rfl (.cons rfl (.cons rfl (.cons rfl (.cons rfl (.cons rfl .nil)))))) (Sub.skip Sub.refl)
          refine Tf.cons (Tf.for_ps B (by rfl) (by rfl) (Tv.name (by rfl) (by rfl) ⟨p, (rd k cp).1, fun pre b r => b = [(Str.ofString "kind", .int k), (Str.ofString "free", .str (T free)), (Str.ofString "counts", .ref ct), (Str.ofString "pile", .ref p), (Str.ofString "turned", .str (T (cntTurn pre).2)), (Str.ofString "great", .int ((cntTurn pre).1 : Nat))] ∧
            r = [(p, .acc d 0 ((rd k cp).1.map tp)), (ct, .list (acc.map .int))], rfl, ⟨rfl, rfl⟩, ?_, ?_, ?_⟩))
          · rintro pre b r ⟨rfl, rfl⟩; exact ⟨_, _, .head _⟩
          · rintro pre q suf b r it j tq hsp ⟨rfl, rfl⟩
            have hcl := cntTurn_len pre
            have hws := wt_split hsp
            have hne : q.2 ≠ [] := h3 q (by rw [hsp]; simp)
            obtain ⟨c, cs', hc⟩ : ∃ c cs, q.2 = c :: cs := by cases hq : q.2 with | nil => exact absurd hq hne | cons c cs => exact ⟨c, cs, rfl⟩
            have e0 := cntTurn_snoc pre q
            unfold cntStep at e0
            refine Tf.cons (Tf.if_ (Tb.mono (R := fun b o => b = isUp q.2 ∧ o = [(tq, .tup [.str (T q.1), .str (T q.2)]), (it, .raw (ListIt p j)), (p, .acc d 0 ((rd k cp).1.map tp)), (ct, .list (acc.map .int))]) (Tb.chain2 (Tv.strT (l := [65]) (by decide +kernel) (Tv.sub (Tv.name (by rfl) (by rfl) (Tv.int fun v u hv hu => ⟨ty_str hv, get_str (c := c) hv hu (by decide) (by rw [hc]; rfl) fun v u hv hu => le_t hv hu ⟨_, rfl, ?_⟩⟩))))) ?_))
            · have ec : [c] = [q.2.headD 0] := by rw [hc]; rfl
              unfold isUp
              rw [← ec]
              cases h1 : !(decide ([c] < [65])) with
              | true => exact Tv.strT (l := [90]) (by decide +kernel) fun y hy => le_t hu hy ⟨_, rfl, rfl, rfl⟩
              | false => exact ⟨rfl, rfl⟩
            · rintro b o ⟨rfl, rfl⟩
              cases hu : isUp q.2 with
              | true =>
                rw [hu, if_pos rfl] at e0
                refine Tf.cons (Tf.aug (by rfl) (by rfl) (Tv.int fun v u hv hu => iadd_i hv hu ?_))
                refine Tf.cons (Tf.aug (by rfl) (by rfl) (Tv.from1 (Tv.name (by rfl) (by rfl) ⟨q.1, rfl, by omega, fun v u hv hu => iadd_s hv hu (by rw [List.length_drop]; omega) (Tf.nil (Tf.nil ?_))⟩)))
                exact ⟨_, _, ⟨by rw [e0], rfl⟩, .cons rfl (.cons rfl (.cons rfl (.cons rfl (.cons rfl (.cons rfl .nil))))), Sub.skip Sub.refl⟩
              | false =>
                rw [hu, if_neg (by decide)] at e0
                refine Tf.cons (Tf.aug (by rfl) (by rfl) (Tv.binop (Tv.name (by rfl) (by rfl) (Tv.name (by rfl) (by rfl) fun v u hv hu => add_t (x := q.1) (y := q.2) hv hu (by omega) fun v u hv hu => iadd_s hv hu (by rw [List.length_append]; omega) (Tf.nil (Tf.nil ?_))))))
                exact ⟨_, _, ⟨by rw [e0], rfl⟩, .cons rfl (.cons rfl (.cons rfl (.cons rfl (.cons rfl (.cons rfl .nil))))), Sub.skip Sub.refl⟩
          · rintro b r ⟨rfl, rfl⟩
            have hcl := cntTurn_len (rd k cp).1
            generalize hct : cntTurn (rd k cp).1 = cr at *
            refine Tf.nil (Tf.cons (Tf.if_ (Tb.compare1 (Tv.name (by rfl) (by rfl) (Tv.int fun v u hv hu => eq_i hv hu ⟨_, rfl, ?_⟩)))))
            by_cases h0 : cr.1 = 0
            · rw [if_pos h0] at hg
              cases hg
              rw [show (((cr.1 : Nat) : Int) == 0) = true from by rw [h0]; rfl]
              exact Tf.cons (Tf.ret (Tv.name (by rfl) (by rfl) ⟨ct, rfl, Sub.skip Sub.refl⟩))
            · rw [if_neg h0] at hg
              rw [show (((cr.1 : Nat) : Int) == 0) = false from beq_eq_false_iff_ne.mpr (by omega)]
              refine Tf.nil (Tf.cons (Tf.expr (Tv.lappend (Tv.name (by rfl) (by rfl) ⟨ct, _, rfl, .tail _ (.head _), Tv.name (by rfl) (by rfl) ⟨1, _, rfl, by rw [List.length_map]; omega, Tf.nil ?_⟩⟩))))
              refine ⟨m, Nat.lt_succ_self _, _, _, ⟨cr.2, acc ++ [(cr.1 : Int)], by rw [List.length_append, List.length_singleton]; omega, hg, rfl, rfl⟩, .cons rfl (.cons rfl (.cons rfl (.cons rfl .nil))), Sub.skip ?_⟩
              rw [List.map_append]
              exact Sub.refl
        · cases hg
  · match vals, e with
    | [v, u, x], _ => rfl
end
end Mine
end
section
namespace Mine
/- signs -/
noncomputable def loN (l : Nat) : Nat := if l < 97 then l + 32 else l
noncomputable def upN (l : Nat) : Nat := if l < 97 then l else l - 32
noncomputable def lets : List Nat := [65, 66, 67, 68, 69, 70, 71, 97, 98, 99, 100, 101, 102, 103]
structure Fr (k : Int) (c : Nat) : Prop where
  fr : isFree k c = true
  lo : Unicode.lowerOf c = [c]
  up : Unicode.upperOf c = [c]
  si : c ≠ 931
  ng : ¬ (65 ≤ c ∧ c ≤ 90)
structure Sg (k : Int) (c x : Nat) : Prop where
  fr : isFree k x = false
  lt : lettr x = false
  ne : x ≠ c
  lo : Unicode.lowerOf x = [x]
  si : x ≠ 931
  ng : ¬ (65 ≤ x ∧ x ≤ 90)
structure Lt (k : Int) (c l : Nat) : Prop where
  mem : l ∈ lets
  fr : isFree k l = false
  lt : lettr l = true
  ne : l ≠ c
  lo : Unicode.lowerOf l = [loN l]
  up : Unicode.upperOf l = [upN l]
  ti : Unicode.titleOf l = [upN l]
  frl : isFree k (loN l) = false
  ltl : lettr (loN l) = true
  nel : loN l ≠ c
  fru : isFree k (upN l) = false
  ltu : lettr (upN l) = true
  neu : upN l ≠ c
structure Ball (k : Int) (c : Nat) (b : List Nat) : Prop where
  ex : ∃ l s, b = l :: s ∧ Lt k c l ∧ s.length ≤ 1 ∧ ∀ x ∈ s, Sg k c x
noncomputable def lowB : List Nat → List Nat
  | [] => []
  | l :: s => loN l :: s
noncomputable def upB : List Nat → List Nat
  | [] => []
  | l :: s => upN l :: s
theorem lets_lo : ∀ l ∈ lets, loN l ∈ lets ∧ loN (loN l) = loN l ∧ upN (loN l) = upN l ∧ ¬ (65 ≤ loN l ∧ loN l ≤ 90) ∧ l ≠ 931 ∧ loN l ≠ 931 := by decide +kernel
theorem lets_up : ∀ l ∈ lets, upN l ∈ lets ∧ loN (upN l) = loN l ∧ upN (upN l) = upN l ∧ (65 ≤ upN l ∧ upN l ≤ 90) ∧ upN l ≠ 931 := by decide +kernel
theorem lets_case : ∀ l ∈ lets, Unicode.lowerOf l = [loN l] ∧ Unicode.upperOf l = [upN l] ∧ Unicode.titleOf l = [upN l] := by decide +kernel
section
variable {k : Int} {c : Nat}
theorem Lt.low {l : Nat} (h : Lt k c l) : Lt k c (loN l) := by
  obtain ⟨m, e1, e2, -⟩ := lets_lo l h.mem
  obtain ⟨a1, a2, a3⟩ := lets_case _ m
  exact ⟨m, h.frl, h.ltl, h.nel, a1, a2, a3, by rw [e1]; exact h.frl, by rw [e1]; exact h.ltl, by rw [e1]; exact h.nel, by rw [e2]; exact h.fru, by rw [e2]; exact h.ltu, by rw [e2]; exact h.neu⟩
theorem Lt.upp {l : Nat} (h : Lt k c l) : Lt k c (upN l) := by
  obtain ⟨m, e1, e2, -⟩ := lets_up l h.mem
  obtain ⟨a1, a2, a3⟩ := lets_case _ m
  exact ⟨m, h.fru, h.ltu, h.neu, a1, a2, a3, by rw [e1]; exact h.frl, by rw [e1]; exact h.ltl, by rw [e1]; exact h.nel, by rw [e2]; exact h.fru, by rw [e2]; exact h.ltu, by rw [e2]; exact h.neu⟩
theorem Ball.low {b : List Nat} (h : Ball k c b) : Ball k c (lowB b) := by
  obtain ⟨l, s, rfl, hl, h1, hs⟩ := h
  exact ⟨_, _, rfl, hl.low, h1, hs⟩
theorem Ball.upp {b : List Nat} (h : Ball k c b) : Ball k c (upB b) := by
  obtain ⟨l, s, rfl, hl, h1, hs⟩ := h
  exact ⟨_, _, rfl, hl.upp, h1, hs⟩
theorem Ball.ne {b : List Nat} (h : Ball k c b) : b ≠ [] := by obtain ⟨l, s, rfl, _⟩ := h; simp
theorem Ball.len {b : List Nat} (h : Ball k c b) : b.length ≤ 2 := by
  obtain ⟨l, s, rfl, _, h1, _⟩ := h; simp; omega
theorem lettr_lo (x : Nat) : lettr x = (!(decide (lowT [x] < [97])) && !(decide ([122] < lowT [x]))) := rfl
end
/- lines -/
section
variable {α : Type} {k : Int} {c : Nat} {f : α → List Nat}
noncomputable def rn (c : Nat) (f : α → List Nat) : Option α → List Nat
  | none => [c]
  | some i => f i
noncomputable def fl (c : Nat) (f : α → List Nat) (cells : List (Option α)) : List Nat := (cells.map (rn c f)).flatten
theorem fl_nil : fl c f [] = [] := rfl
theorem fl_cons (x) (cells : List (Option α)) : fl c f (x :: cells) = rn c f x ++ fl c f cells := rfl
theorem fl_app (a b : List (Option α)) : fl c f (a ++ b) = fl c f a ++ fl c f b := by simp [fl]
theorem fl_snoc (a : List (Option α)) (x) : fl c f (a ++ [x]) = fl c f a ++ rn c f x := by simp [fl]
theorem fl_rep (n : Nat) : fl c f (List.replicate n none) = List.replicate n c := by
  induction n with
  | zero => rfl
  | succ n ih => rw [List.replicate_succ, fl_cons, ih, List.replicate_succ]; rfl
theorem fl_some (l : List α) : fl c f (l.map some) = (l.map f).flatten := by
  induction l with
  | nil => rfl
  | cons a l ih => rw [List.map_cons, fl_cons, ih]; rfl
theorem fl_len (hf : ∀ i, (f i).length ≤ 2) (cells : List (Option α)) : (fl c f cells).length ≤ 2 * cells.length := by
  induction cells with
  | nil => simp [fl_nil]
  | cons x r ih =>
    rw [fl_cons, List.length_append, List.length_cons]
    have : (rn c f x).length ≤ 2 := by
      cases x with
      | none => simp [rn]
      | some i => exact hf i
    omega
noncomputable def rdAs (st : List (Nat × α) × Nat) (x : Option α) : List (Nat × α) × Nat := match x with
  | none => (st.1, st.2 + 1)
  | some i => (st.1 ++ [(st.2, i)], 0)
noncomputable def rdA (cells : List (Option α)) : List (Nat × α) × Nat := cells.foldl rdAs ([], 0)
theorem rdA_snoc (cells : List (Option α)) (x) : rdA (cells ++ [x]) = rdAs (rdA cells) x := by simp [rdA]
noncomputable def enc (c : Nat) (f : α → List Nat) (p : Nat × α) : List Nat × List Nat := (List.replicate p.1 c, f p.2)
theorem rd_app (k : Int) (l m : List Nat) : rd k (l ++ m) = m.foldl (rdStep k) (rd k l) := by simp [rd]
theorem rd_sgs (ps : PS) (a b d : List Nat) : ∀ s : List Nat, (∀ x ∈ s, Sg k c x) → s.foldl (rdStep k) (ps ++ [(a, b)], d) = (ps ++ [(a, b ++ s)], d) := by
  intro s
  induction s generalizing b with
  | nil => intro _; simp
  | cons x s ih =>
    intro h
    have hx := h x (.head _)
    rw [List.foldl_cons]
    have : rdStep k (ps ++ [(a, b)], d) x = (ps ++ [(a, b ++ [x])], d) := by
      unfold rdStep
      rw [hx.fr, hx.lt]
      simp [popL_snoc]
    rw [this, ih _ fun y hy => h y (.tail _ hy)]
    simp
theorem rd_fl (hc : isFree k c = true) (hf : ∀ i, Ball k c (f i)) (cells : List (Option α)) : rd k (fl c f cells) = ((rdA cells).1.map (enc c f), List.replicate (rdA cells).2 c) := by
  induction cells using revInd with
  | h0 => rfl
  | h1 l x ih =>
    rw [fl_snoc, rd_app, ih, rdA_snoc]
    cases x with
    | none =>
      show rdStep k _ c = _
      unfold rdStep
      rw [hc]
      simp [rdAs, List.replicate_succ']
    | some i =>
      obtain ⟨y, s, e, hy, _, hs⟩ := hf i
      show (f i).foldl _ _ = _
      rw [e, List.foldl_cons]
      have : rdStep k ((rdA l).1.map (enc c f), List.replicate (rdA l).2 c) y = ((rdA l).1.map (enc c f) ++ [(List.replicate (rdA l).2 c, [y])], []) := by
        unfold rdStep
        rw [hy.fr, hy.lt]
        simp
      rw [this, rd_sgs (k := k) (c := c) _ _ _ _ s hs]
      simp [rdAs, enc, e]
theorem fl_back (cells : List (Option α)) : (((rdA cells).1.map (enc c f)).map fun p => p.1 ++ p.2).flatten ++ List.replicate (rdA cells).2 c = fl c f cells := by
  induction cells using revInd with
  | h0 => rfl
  | h1 l x ih =>
    rw [rdA_snoc, fl_snoc, ← ih]
    cases x with
    | none => simp [rdAs, rn, List.replicate_succ']
    | some i => simp [rdAs, rn, enc]
end
end Mine
end
section
namespace Mine
section
variable {α : Type} {k : Int} {c : Nat} {f : α → List Nat}
/- the step -/
noncomputable def stA (st : List α × List (Option α)) (x : Option α) : List α × List (Option α) := match x with
  | none => match st.1 with
    | [] => ([], st.2 ++ [none])
    | i :: r => (r, st.2 ++ [some i])
  | some i => (i :: st.1, st.2 ++ [none])
noncomputable def stepR (cells : List (Option α)) : List α × List (Option α) := cells.foldl stA ([], [])
noncomputable def stepA (cells : List (Option α)) : List (Option α) := (stepR cells).2 ++ (stepR cells).1.map some
theorem stepR_snoc (cells : List (Option α)) (x) : stepR (cells ++ [x]) = stA (stepR cells) x := by simp [stepR]
noncomputable def car (f : α → List Nat) (st : List α) : PS := st.reverse.map fun i => ([], f i)
theorem car_cons (i : α) (r : List α) : car f (i :: r) = car f r ++ [([], f i)] := by simp [car]
theorem stp_fl (hf : ∀ i, f i ≠ []) (cells : List (Option α)) :
    lay (stp1 [c] ((rdA cells).1.map (enc c f))) (List.replicate (rdA cells).2 c) = (car f (stepR cells).1, fl c f (stepR cells).2) := by
  induction cells using revInd with
  | h0 => rfl
  | h1 l x ih =>
    rw [rdA_snoc, stepR_snoc]
    cases x with
    | none =>
      show lay (stp1 [c] ((rdA l).1.map (enc c f))) (List.replicate ((rdA l).2 + 1) c) = _
      rw [List.replicate_succ', lay_snoc, ih]
      generalize stepR l = st
      obtain ⟨s, o⟩ := st
      cases s with
      | nil =>
        rw [layStep_nil (by rfl)]
        show _ = (_, fl c f (o ++ [none]))
        rw [fl_snoc]; rfl
      | cons i r =>
        rw [layStep_ball (by rw [car_cons, popL_snoc]; exact hf i), car_cons, popL_snoc]
        show _ = (_, fl c f (o ++ [some i]))
        rw [fl_snoc]; rfl
    | some i =>
      show lay (stp1 [c] (((rdA l).1 ++ [((rdA l).2, i)]).map (enc c f))) [] = _
      rw [List.map_append, List.map_singleton, stp1_snoc]
      unfold stpStep
      show lay ((lay (stp1 [c] ((rdA l).1.map (enc c f))) (List.replicate (rdA l).2 c)).1 ++ [([], f i)], (lay (stp1 [c] ((rdA l).1.map (enc c f))) (List.replicate (rdA l).2 c)).2 ++ [c]) [] = _
      rw [ih]
      show (car f (stepR l).1 ++ [([], f i)], fl c f (stepR l).2 ++ [c]) = (car f (i :: (stepR l).1), fl c f ((stepR l).2 ++ [none]))
      rw [car_cons, fl_snoc]; rfl
theorem drain_car (s : List α) : drain (car f s) = fl c f (s.map some) := by
  rw [fl_some]
  simp [drain, car, Function.comp_def]
theorem stepL_fl (hc : isFree k c = true) (hf : ∀ i, Ball k c (f i)) (cells : List (Option α)) : stepL k (fl c f cells) [c] = fl c f (stepA cells) := by
  unfold stepL
  rw [rd_fl hc hf]
  show (lay (stp1 [c] ((rdA cells).1.map (enc c f))) (List.replicate (rdA cells).2 c)).2 ++ drain (lay (stp1 [c] ((rdA cells).1.map (enc c f))) (List.replicate (rdA cells).2 c)).1 = _
  rw [stp_fl fun i => (hf i).ne, drain_car (c := c)]
  unfold stepA
  rw [fl_app]
/- the turn -/
theorem turnL_fl (hc : isFree k c = true) (hf : ∀ i, Ball k c (f i)) (cells : List (Option α)) : turnL k (fl c f cells) = fl c f cells.reverse := by
  unfold turnL
  rw [rd_fl hc hf]
  show List.replicate (rdA cells).2 c ++ drain2 ((rdA cells).1.map (enc c f)) = _
  induction cells using revInd with
  | h0 => rfl
  | h1 l x ih =>
    rw [rdA_snoc, List.reverse_append, List.reverse_singleton, List.singleton_append, fl_cons, ← ih]
    cases x with
    | none => simp [rdAs, rn, List.replicate_succ]
    | some i => simp [rdAs, rn, drain2_snoc, enc]
/- the closed line -/
noncomputable def isbA (cells : List (Option α)) (i : Nat) : Bool := match cells[i]? with
  | some (some _) => true
  | _ => false
noncomputable def closeA (p : Nat → Bool) : Nat → Nat → Nat → Nat
  | 0, to, _ => to
  | m + 1, to, d => if d = 0 then to else closeA p m (to + 1) (if p (to + 1) then d + 1 else d - 1)
theorem closeL_A (boxes : List (List Nat)) (free : List Nat) : ∀ m to d, closeL boxes free m to d = closeA (isb boxes free) m to d
  | 0, _, _ => rfl
  | m + 1, to, d => by
    unfold closeL closeA
    rw [closeL_A boxes free m]
theorem rn_free (hf : ∀ i, Ball k c (f i)) (x : Option α) : (rn c f x != [c]) = x.isSome := by
  cases x with
  | none => simp [rn]
  | some i =>
    obtain ⟨y, s, e, hy, _⟩ := hf i
    show (f i != [c]) = true
    rw [e]
    simp [hy.ne]
theorem isb_fl (hf : ∀ i, Ball k c (f i)) (cells : List (Option α)) : isb (cells.map (rn c f)) [c] = isbA cells := by
  funext i
  unfold isb isbA
  rw [List.getElem?_map]
  cases h : cells[i]? with
  | none => rfl
  | some x =>
    show (rn c f x != [c]) = _
    rw [rn_free hf]
    cases x <;> rfl
noncomputable def cloA (cells : List (Option α)) (st : Nat × List (Option α)) (x : Option α) : Nat × List (Option α) :=
  (st.1 + 1, match x with
    | none => st.2
    | some i => st.2.set (closeA (isbA cells) (1 + 2 * (cells.length - st.1)) st.1 1) (some i))
noncomputable def closedA (cells : List (Option α)) : List (Option α) := (cells.foldl (cloA cells) (0, List.replicate (2 * cells.length) none)).2
theorem clo_fl (hf : ∀ i, Ball k c (f i)) (cells : List (Option α)) : ∀ (l : List (Option α)) (n : Nat) (o : List (Option α)),
    (l.map (rn c f)).foldl (cloStep (cells.map (rn c f)) [c]) (n, o.map (rn c f)) = ((l.foldl (cloA cells) (n, o)).1, (l.foldl (cloA cells) (n, o)).2.map (rn c f))
  | [], n, o => rfl
  | x :: l, n, o => by
    rw [List.map_cons, List.foldl_cons, List.foldl_cons]
    have : cloStep (cells.map (rn c f)) [c] (n, o.map (rn c f)) (rn c f x) = ((cloA cells (n, o) x).1, (cloA cells (n, o) x).2.map (rn c f)) := by
      unfold cloStep cloA
      rw [rn_free hf, closeL_A, isb_fl hf, List.length_map]
      cases x with
      | none => rfl
      | some i => simp [List.map_set, rn]
    rw [this, clo_fl hf cells l]
theorem joinL_nil : ∀ l : List (List Nat), joinL [] l = l.flatten
  | [] => rfl
  | [x] => by simp [joinL]
  | x :: y :: r => by
    show x ++ [] ++ joinL [] (y :: r) = _
    rw [joinL_nil (y :: r)]; simp
theorem closed_fl (hf : ∀ i, Ball k c (f i)) (cells : List (Option α)) : joinL [] (closed (cells.map (rn c f)) [c] (cells.map (rn c f))).2 = fl c f (closedA cells) := by
  rw [joinL_nil]
  unfold closed
  have := clo_fl hf cells cells 0 (List.replicate (2 * cells.length) none)
  rw [List.map_replicate] at this
  rw [List.length_map]
  rw [show List.replicate (2 * cells.length) [c] = List.replicate (2 * cells.length) (rn c f none) from rfl, this]
  rfl
/- the ends -/
noncomputable def trim (l : List (Option α)) : List (Option α) := (l.reverse.dropWhile Option.isNone).reverse
theorem trim_eq (l : List (Option α)) : ∃ n, l = trim l ++ List.replicate n none := by
  refine ⟨(l.reverse.takeWhile Option.isNone).length, ?_⟩
  have h : l.reverse.takeWhile Option.isNone = List.replicate (l.reverse.takeWhile Option.isNone).length none := by
    rw [List.eq_replicate_iff]
    refine ⟨rfl, fun b hb => ?_⟩
    have := (List.all_takeWhile (p := Option.isNone) (l := l.reverse))
    rw [List.all_eq_true] at this
    have := this b hb
    cases b <;> simp_all
  have e := List.takeWhile_append_dropWhile (p := Option.isNone) (l := l.reverse)
  have e2 := congrArg List.reverse e
  rw [List.reverse_append, List.reverse_reverse] at e2
  unfold trim
  conv => lhs; rw [← e2]
  rw [h]; simp
theorem rstripT_eq (l : List Nat) : rstripT l [c] = (l.reverse.dropWhile (· == c)).reverse := by
  have hg : (T [c]).cps.contains = (· == c) := by
    funext x
    show (#[c] : Array Nat).contains x = _
    by_cases h : x = c
    · subst h; simp
    · have : c ≠ x := Ne.symm h
      simp [h]
  have key : (Builtin.Str.strSub (T l) 0 (l.length - (l.reverse.takeWhile (· == c)).length)).cps.toList = (l.reverse.dropWhile (· == c)).reverse := by
    show ((T l).cps.extract 0 _).toList = _
    have e := List.takeWhile_append_dropWhile (p := (· == c)) (l := l.reverse)
    have e2 := congrArg List.reverse e
    rw [List.reverse_append, List.reverse_reverse] at e2
    have e3 := congrArg List.length e
    rw [List.length_append, List.length_reverse] at e3
    have : (T l).cps.extract 0 (l.length - (l.reverse.takeWhile (· == c)).length) = (l.take (l.length - (l.reverse.takeWhile (· == c)).length)).toArray := by simp [T]
    rw [this]
    have hn : l.length - (l.reverse.takeWhile (· == c)).length = (l.reverse.dropWhile (· == c)).reverse.length := by rw [List.length_reverse]; omega
    rw [hn]
    conv => lhs; rw [← e2]
    simp
  unfold rstripT Txt.rstripChars Txt.stripBy
  rw [hg]
  split
  · next h =>
    rw [← key]
    unfold stripSame at h
    simp only [Bool.and_eq_true, beq_iff_eq] at h
    have h2 := h.2
    have : l.length - (l.reverse.takeWhile (· == c)).length = l.length := by simpa [stripHi, stripLo, T, Str.length] using h2
    rw [this]
    simp [T, Builtin.Str.strSub]
  · rw [← key]
    show (Builtin.Str.strSub (T l) 0 ((T l).length - ((((T l).cps.toList).drop 0).reverse.takeWhile (· == c)).length)).cps.toList = _
    rw [T_len, List.drop_zero]
    rfl
theorem rstrip_rep (l : List Nat) (n : Nat) : rstripT (l ++ List.replicate n c) [c] = rstripT l [c] := by
  rw [rstripT_eq, rstripT_eq, List.reverse_append, List.reverse_replicate]
  congr 1
  induction n with
  | zero => rfl
  | succ n ih => rw [List.replicate_succ, List.cons_append, List.dropWhile_cons, beq_self_eq_true, if_pos rfl, ih]
theorem rstrip_fl {a b : List (Option α)} (h : trim a = trim b) : rstripT (fl c f a) [c] = rstripT (fl c f b) [c] := by
  obtain ⟨n, ea⟩ := trim_eq a
  obtain ⟨m, eb⟩ := trim_eq b
  rw [ea, eb, fl_app, fl_app, fl_rep, fl_rep, rstrip_rep, rstrip_rep, h]
end
end Mine
end
section
namespace Mine
/- small and great -/
theorem placedT (l : List Nat) (F : Nat → Nat → List Nat) : (placed (T l) F).toList = (l.mapIdx F).flatten := by
  unfold placed
  rw [Array.toList_flatten, Array.toList_mapIdx]
  congr 1
  apply List.ext_getElem
  · simp [T]
  · intro i h1 h2
    simp [T]
theorem mapIdx_map {l : List Nat} {F : Nat → Nat → List Nat} {G : Nat → List Nat} (h : ∀ i (hi : i < l.length), F i l[i] = G l[i]) : l.mapIdx F = l.map G := by
  apply List.ext_getElem
  · simp
  · intro i h1 h2
    simp at h1
    simp [h i h1]
theorem lowerAt_of {l : List Nat} (hs : ∀ x ∈ l, x ≠ 931) {i : Nat} (hi : i < l.length) : Unicode.lowerAt (T l).cps i = Unicode.lowerOf l[i] := by
  unfold Unicode.lowerAt
  have : (T l).cps[i]? = some l[i] := by simp [T]
  rw [this]
  have h9 : (l[i] == 0x3A3) = false := beq_eq_false_iff_ne.mpr (hs _ (List.getElem_mem hi))
  show (if (l[i] == 0x3A3 && _) = true then _ else _) = _
  rw [h9]; rfl
theorem lowT_eq {l : List Nat} (hs : ∀ x ∈ l, x ≠ 931) : lowT l = l.flatMap Unicode.lowerOf := by
  show (placed (T l) _).toList = _
  rw [placedT, mapIdx_map (G := Unicode.lowerOf) fun i hi => lowerAt_of hs hi, List.flatMap_def]
theorem upT_eq (l : List Nat) : upT l = l.flatMap Unicode.upperOf := by
  show (placed (T l) _).toList = _
  rw [placedT, mapIdx_map (G := Unicode.upperOf) fun i hi => rfl, List.flatMap_def]
theorem capT_nil : capT [] = [] := rfl
theorem capT_cons {x : Nat} {l : List Nat} (hs : ∀ y ∈ x :: l, y ≠ 931) : capT (x :: l) = Unicode.titleOf x ++ l.flatMap Unicode.lowerOf := by
  show (if (T (x :: l)).length == 0 then T (x :: l) else Txt.capitalized (T (x :: l))).cps.toList = _
  have : ((T (x :: l)).length == 0) = false := by rw [T_len]; rfl
  rw [this]
  show (placed (T (x :: l)) _).toList = _
  rw [placedT, List.mapIdx_cons, List.flatten_cons]
  congr 1
  rw [mapIdx_map (G := Unicode.lowerOf) fun i hi => ?_, List.flatMap_def]
  have := lowerAt_of hs (i := i + 1) (by simpa using hi)
  simpa using this
/- the words -/
noncomputable def spl (c : Nat) : List Nat → List (List Nat)
  | [] => [[]]
  | x :: r => if x = c then [] :: spl c r else match spl c r with
    | [] => [[x]]
    | w :: ws => (x :: w) :: ws
theorem spl_ne (c : Nat) (l : List Nat) : spl c l ≠ [] := by
  cases l with
  | nil => simp [spl]
  | cons x r =>
    unfold spl
    split
    · simp
    · split <;> simp
theorem spl_word {c : Nat} : ∀ {p : List Nat}, c ∉ p → spl c p = [p]
  | [], _ => rfl
  | x :: p, h => by
    have h1 : x ≠ c := fun e => h (e ▸ .head _)
    unfold spl
    rw [if_neg h1, spl_word fun q => h (.tail _ q)]
theorem spl_cut {c : Nat} {s : List Nat} : ∀ {p : List Nat}, c ∉ p → spl c (p ++ c :: s) = p :: spl c s
  | [], _ => by
    show spl c (c :: s) = _
    conv => lhs; unfold spl
    rw [if_pos rfl]
  | x :: p, h => by
    have h1 : x ≠ c := fun e => h (e ▸ .head _)
    rw [List.cons_append]
    conv => lhs; unfold spl
    rw [if_neg h1, spl_cut fun q => h (.tail _ q)]
theorem spl_join {c : Nat} : ∀ {ps : List (List Nat)}, ps ≠ [] → (∀ p ∈ ps, c ∉ p) → spl c (joinL [c] ps) = ps
  | [p], _, h => spl_word (h p (.head _))
  | p :: q :: r, _, h => by
    show spl c (p ++ [c] ++ joinL [c] (q :: r)) = _
    rw [List.append_assoc, List.singleton_append, spl_cut (h p (.head _)), spl_join (by simp) fun x hx => h x (.tail _ hx)]
theorem splitT_eq (s : List Nat) (c : Nat) : splitT s [c] = spl c s := by
  have e1 : (splitT s [c]).map T = Txt.split (T s) (T [c]) := by
    unfold splitT
    rw [List.map_map]
    conv => rhs; rw [← List.map_id (Txt.split (T s) (T [c]))]
    apply List.map_congr_left
    intro a _
    exact T_toList a
  have e2 : joinL [c] (splitT s [c]) = s := by
    apply T_inj
    rw [← join_T, e1]
    show Builtin.Str.glued _ _ = _
    rw [StrLaws.glued_eq_join, StrLaws.join_split]
  have e3 : splitT s [c] ≠ [] := by
    intro e
    have := split_pos (T s) (T [c])
    have h2 := congrArg List.length e
    unfold splitT at h2
    rw [List.length_map] at h2
    simp at h2
    rw [h2] at this
    simp at this
  have e4 : ∀ p ∈ splitT s [c], c ∉ p := by
    intro p hp
    obtain ⟨q, hq, rfl⟩ := List.mem_map.mp hp
    exact StrLaws.split_free (T s) c q hq
  rw [← spl_join e3 e4, e2]
noncomputable def capS (c : Nat) : Bool → List Nat → List Nat
  | _, [] => []
  | pr, x :: r => (if x = c then [c] else if pr = true then Unicode.titleOf x else Unicode.lowerOf x) ++ capS c (x == c) r
noncomputable def capP (pr : Bool) (w : List Nat) : List Nat := if pr = true then capT w else lowT w
theorem capP_nil (pr : Bool) : capP pr [] = [] := by cases pr <;> rfl
theorem cap_join {c : Nat} : ∀ (s : List Nat) (pr : Bool), (∀ x ∈ s, x ≠ 931) → joinL [c] (match spl c s with | [] => [] | w :: ws => capP pr w :: ws.map capT) = capS c pr s
  | [], pr, _ => by
    show joinL [c] [capP pr []] = []
    rw [capP_nil]; rfl
  | x :: r, pr, h => by
    have hr : ∀ y ∈ r, y ≠ 931 := fun y hy => h y (.tail _ hy)
    unfold spl
    by_cases hx : x = c
    · rw [if_pos hx]
      subst hx
      have ih := cap_join (c := x) r true hr
      show joinL [x] (capP pr [] :: (spl x r).map capT) = capS x pr (x :: r)
      rw [capP_nil]
      obtain ⟨w, ws, e⟩ := List.exists_cons_of_ne_nil (spl_ne x r)
      rw [e] at ih ⊢
      have ih : joinL [x] (capT w :: ws.map capT) = capS x true r := ih
      show [] ++ [x] ++ joinL [x] (capT w :: ws.map capT) = capS x pr (x :: r)
      rw [ih]
      simp [capS]
    · rw [if_neg hx]
      have ih := cap_join (c := c) r false hr
      obtain ⟨w, ws, e⟩ := List.exists_cons_of_ne_nil (spl_ne c r)
      rw [e] at ih ⊢
      have ih : joinL [c] (lowT w :: ws.map capT) = capS c false r := ih
      have hw : ∀ y ∈ w, y ≠ 931 := by
        intro y hy
        refine hr y ?_
        have : w ++ joinL [c] [] = w ++ [] := rfl
        have hmem : ∀ (ps : List (List Nat)) (p : List Nat), p ∈ ps → ∀ y ∈ p, y ∈ joinL [c] ps := by
          intro ps
          induction ps with
          | nil => intro p hp; cases hp
          | cons q ps ih =>
            intro p hp y hy
            cases ps with
            | nil =>
              obtain rfl := List.mem_singleton.mp hp
              exact hy
            | cons q' ps =>
              show y ∈ q ++ [c] ++ joinL [c] (q' :: ps)
              rcases List.mem_cons.mp hp with rfl | hp
              · simp [hy]
              · simp [ih p hp y hy]
        have hj : joinL [c] (spl c r) = r := by
          have e3 := splitT_eq r c
          rw [← e3]
          apply T_inj
          have e1 : (splitT r [c]).map T = Txt.split (T r) (T [c]) := by
            unfold splitT
            rw [List.map_map]
            conv => rhs; rw [← List.map_id (Txt.split (T r) (T [c]))]
            apply List.map_congr_left
            intro a _
            exact T_toList a
          rw [← join_T, e1]
          show Builtin.Str.glued _ _ = _
          rw [StrLaws.glued_eq_join, StrLaws.join_split]
        rw [← hj]
        exact hmem _ w (by rw [e]; exact .head _) y hy
      have hxw : ∀ y ∈ x :: w, y ≠ 931 := fun y hy => (List.mem_cons.mp hy).elim (fun e => e ▸ h x (.head _)) (hw y)
      have hc : capP pr (x :: w) = (if pr = true then Unicode.titleOf x else Unicode.lowerOf x) ++ lowT w := by
        unfold capP
        cases pr with
        | true => rw [if_pos rfl, if_pos rfl, capT_cons hxw, lowT_eq hw]
        | false => rw [if_neg (by decide), if_neg (by decide), lowT_eq hxw, lowT_eq hw]; rfl
      have hb : (x == c) = false := beq_eq_false_iff_ne.mpr hx
      show joinL [c] (capP pr (x :: w) :: ws.map capT) = capS c pr (x :: r)
      rw [hc]
      unfold capS
      rw [if_neg hx, hb, ← ih]
      cases ws with
      | nil => rfl
      | cons v vs =>
        show _ ++ lowT w ++ [c] ++ joinL [c] (capT v :: vs.map capT) = _ ++ (lowT w ++ [c] ++ joinL [c] (capT v :: vs.map capT))
        simp
theorem capw_eq {c : Nat} {s : List Nat} (h : ∀ x ∈ s, x ≠ 931) : capw s [c] = capS c true s := by
  unfold capw
  rw [splitT_eq, ← cap_join s true h]
  obtain ⟨w, ws, e⟩ := List.exists_cons_of_ne_nil (spl_ne c s)
  rw [e]; rfl
end Mine
end
section
namespace Mine
noncomputable def grt (x : Nat) : Bool := !(decide ([x] < [65])) && !(decide ([90] < [x]))
theorem grt_iff (x : Nat) : grt x = decide (65 ≤ x ∧ x ≤ 90) := by
  unfold grt
  have h1 : ([x] < [65]) ↔ x < 65 := by simp [List.cons_lt_cons_iff]
  have h2 : ([90] < [x]) ↔ 90 < x := by simp [List.cons_lt_cons_iff]
  rw [Bool.eq_iff_iff]
  simp only [Bool.and_eq_true, Bool.not_eq_true', decide_eq_false_iff_not, decide_eq_true_eq, h1, h2]
  omega
theorem isUp_grt (b : List Nat) : isUp b = grt (b.headD 0) := rfl
section
variable {α : Type} {k : Int} {c : Nat} {f : α → List Nat}
noncomputable def gr (f : α → List Nat) (p : Bool × α) : List Nat := if p.1 = true then upB (f p.2) else lowB (f p.2)
theorem gr_ball (hf : ∀ i, Ball k c (f i)) (p : Bool × α) : Ball k c (gr f p) := by
  unfold gr
  split
  · exact (hf _).upp
  · exact (hf _).low
noncomputable def capA : Bool → List (Option α) → List (Option (Bool × α))
  | _, [] => []
  | _, none :: r => none :: capA true r
  | pr, some i :: r => some (pr, i) :: capA false r
theorem capA_len : ∀ (pr : Bool) (cells : List (Option α)), (capA pr cells).length = cells.length
  | _, [] => rfl
  | _, none :: r => congrArg (· + 1) (capA_len true r)
  | _, some _ :: r => congrArg (· + 1) (capA_len false r)
theorem fl_mem (hf : ∀ i, Ball k c (f i)) {cells : List (Option α)} {x : Nat} (h : x ∈ fl c f cells) : x = c ∨ Lt k c x ∨ Sg k c x := by
  obtain ⟨l, hl, hx⟩ := List.mem_flatten.mp h
  obtain ⟨o, _, rfl⟩ := List.mem_map.mp hl
  cases o with
  | none => exact .inl (List.mem_singleton.mp hx)
  | some i =>
    obtain ⟨y, s, e, hy, _, hs⟩ := hf i
    have hx : x ∈ f i := hx
    rw [e] at hx
    rcases List.mem_cons.mp hx with rfl | hx
    · exact .inr (.inl hy)
    · exact .inr (.inr (hs x hx))
theorem fl_si (hc : Fr k c) (hf : ∀ i, Ball k c (f i)) {cells : List (Option α)} : ∀ x ∈ fl c f cells, x ≠ 931 := fun x h => by
  rcases fl_mem hf h with rfl | h | h
  · exact hc.si
  · exact (lets_lo x h.mem).2.2.2.2.1
  · exact h.si
theorem fl_free (hc : Fr k c) (hf : ∀ i, Ball k c (f i)) {cells : List (Option α)} : ∀ x ∈ fl c f cells, isFree k x = (x == c) := fun x h => by
  rcases fl_mem hf h with rfl | h | h
  · rw [hc.fr]; simp
  · rw [h.fr, beq_eq_false_iff_ne.mpr h.ne]
  · rw [h.fr, beq_eq_false_iff_ne.mpr h.ne]
theorem capS_sg {s r : List Nat} (hs : ∀ x ∈ s, Sg k c x) : capS c false (s ++ r) = s ++ capS c false r := by
  induction s with
  | nil => rfl
  | cons x s ih =>
    have hx := hs x (.head _)
    show (if x = c then [c] else if false = true then _ else Unicode.lowerOf x) ++ capS c (x == c) (s ++ r) = _
    rw [if_neg hx.ne, if_neg (by decide), hx.lo, beq_eq_false_iff_ne.mpr hx.ne, ih fun y hy => hs y (.tail _ hy)]
    rfl
theorem capS_fl (hf : ∀ i, Ball k c (f i)) : ∀ (cells : List (Option α)) (pr : Bool), capS c pr (fl c f cells) = fl c (gr f) (capA pr cells)
  | [], _ => rfl
  | none :: r, pr => by
    rw [fl_cons]
    show (if c = c then [c] else _) ++ capS c (c == c) (fl c f r) = fl c (gr f) (none :: capA true r)
    rw [if_pos rfl, beq_self_eq_true, capS_fl hf r true, fl_cons]; rfl
  | some i :: r, pr => by
    rw [fl_cons]
    show capS c pr (f i ++ fl c f r) = fl c (gr f) (some (pr, i) :: capA false r)
    obtain ⟨y, s, e, hy, _, hs⟩ := hf i
    rw [fl_cons]
    show _ = gr f (pr, i) ++ _
    unfold gr
    rw [e, List.cons_append]
    show (if y = c then [c] else if pr = true then Unicode.titleOf y else Unicode.lowerOf y) ++ capS c (y == c) (s ++ fl c f r) = _
    rw [if_neg hy.ne, beq_eq_false_iff_ne.mpr hy.ne, capS_sg hs, capS_fl hf r false, hy.ti, hy.lo]
    cases pr <;> rfl
theorem capw_fl (hc : Fr k c) (hf : ∀ i, Ball k c (f i)) (cells : List (Option α)) : capw (c :: fl c f cells) [c] = c :: fl c (gr f) (capA true cells) := by
  rw [capw_eq fun x hx => ?_]
  · show (if c = c then [c] else _) ++ capS c (c == c) (fl c f cells) = _
    rw [if_pos rfl, beq_self_eq_true, capS_fl hf]; rfl
  · rcases List.mem_cons.mp hx with rfl | hx
    · exact hc.si
    · exact fl_si hc hf x hx
theorem lowT_fl (hc : Fr k c) (hf : ∀ i, Ball k c (f i)) (cells : List (Option α)) : lowT (fl c f cells) = fl c (fun i => lowB (f i)) cells := by
  rw [lowT_eq (fl_si hc hf)]
  induction cells with
  | nil => rfl
  | cons x r ih =>
    rw [fl_cons, fl_cons, List.flatMap_append, ih]
    congr 1
    cases x with
    | none => show [c].flatMap _ = [c]; simp [hc.lo]
    | some i =>
      obtain ⟨y, s, e, hy, h1, hs⟩ := hf i
      show (f i).flatMap _ = lowB (f i)
      rw [e, List.flatMap_cons, hy.lo]
      show loN y :: s.flatMap _ = loN y :: s
      congr 1
      clear e h1
      induction s with
      | nil => rfl
      | cons z s ih => rw [List.flatMap_cons, (hs z (.head _)).lo, ih fun x hx => hs x (.tail _ hx)]; rfl
theorem upT_one (x : Nat) : upT [x] = Unicode.upperOf x := by rw [upT_eq]; simp
/-- sign by sign, by what stands ahead -/
noncomputable def pairF (c : Nat) (q : Nat × Nat) : List Nat := if q.1 = c then upT [q.2] else [q.2]
noncomputable def pairS (c : Nat) : Bool → List Nat → List Nat
  | _, [] => []
  | b, x :: r => (if b = true then upT [x] else [x]) ++ pairS c (x == c) r
theorem pair_zip (c : Nat) : ∀ (l : List Nat) (p : Nat), (((p :: l).zip l).map (pairF c)).flatten = pairS c (p == c) l
  | [], _ => rfl
  | x :: r, p => by
    rw [List.zip_cons_cons, List.map_cons, List.flatten_cons, pair_zip c r x]
    show pairF c (p, x) ++ _ = _ ++ _
    congr 1
    unfold pairF
    by_cases h : p = c
    · rw [if_pos h, if_pos (beq_iff_eq.mpr h)]
    · rw [if_neg h, if_neg (by simpa using h)]
theorem pairS_sg {s r : List Nat} (hs : ∀ x ∈ s, Sg k c x) : pairS c false (s ++ r) = s ++ pairS c false r := by
  induction s with
  | nil => rfl
  | cons x s ih =>
    have hx := hs x (.head _)
    show (if false = true then _ else [x]) ++ pairS c (x == c) (s ++ r) = _
    rw [if_neg (by decide), beq_eq_false_iff_ne.mpr hx.ne, ih fun y hy => hs y (.tail _ hy)]
    rfl
theorem pairS_fl (hc : Fr k c) (hf : ∀ i, Ball k c (f i)) : ∀ (cells : List (Option α)) (pr : Bool), pairS c pr (fl c (fun i => lowB (f i)) cells) = fl c (gr f) (capA pr cells)
  | [], _ => rfl
  | none :: r, pr => by
    rw [fl_cons]
    show (if pr = true then upT [c] else [c]) ++ pairS c (c == c) (fl c (fun i => lowB (f i)) r) = fl c (gr f) (none :: capA true r)
    rw [upT_one, hc.up, ite_self, beq_self_eq_true, pairS_fl hc hf r true, fl_cons]; rfl
  | some i :: r, pr => by
    rw [fl_cons]
    show pairS c pr (lowB (f i) ++ fl c (fun i => lowB (f i)) r) = fl c (gr f) (some (pr, i) :: capA false r)
    obtain ⟨y, s, e, hy, _, hs⟩ := hf i
    rw [fl_cons]
    show _ = gr f (pr, i) ++ _
    unfold gr
    rw [e]
    show (if pr = true then upT [loN y] else [loN y]) ++ pairS c (loN y == c) (s ++ fl c (fun i => lowB (f i)) r) = _
    rw [beq_eq_false_iff_ne.mpr hy.nel, pairS_sg hs, pairS_fl hc hf r false, upT_one, hy.low.up, (lets_lo y hy.mem).2.2.1]
    cases pr <;> rfl
/-- the line with great words, as the law reckons it -/
theorem pair_fl (hc : Fr k c) (hf : ∀ i, Ball k c (f i)) (cells : List (Option α)) :
    (((c :: c :: lowT (fl c f cells)).zip (c :: lowT (fl c f cells))).map (pairF c)).flatten = c :: fl c (gr f) (capA true cells) := by
  rw [lowT_fl hc hf, pair_zip, beq_self_eq_true]
  show (if true = true then upT [c] else [c]) ++ pairS c (c == c) _ = _
  rw [if_pos rfl, upT_one, hc.up, beq_self_eq_true, pairS_fl hc hf]; rfl
/- the great ones -/
noncomputable def upsA (cells : List (Option (Bool × α))) : Nat := (cells.filter fun o => match o with
  | some (true, _) => true
  | _ => false).length
theorem Sg.gr {x : Nat} (h : Sg k c x) : grt x = false := by rw [grt_iff]; simpa using h.ng
theorem gr_up (hf : ∀ i, Ball k c (f i)) (p : Bool × α) : isUp (gr f p) = p.1 := by
  rw [isUp_grt]
  obtain ⟨y, s, e, hy, _, hs⟩ := hf p.2
  unfold gr
  rw [e]
  cases h : p.1 with
  | true =>
    show grt (upN y) = true
    rw [grt_iff]; exact decide_eq_true (lets_up y hy.mem).2.2.2.1
  | false =>
    show grt (loN y) = false
    rw [grt_iff]; exact decide_eq_false (lets_lo y hy.mem).2.2.2.1
theorem ups_fl (hc : Fr k c) (hf : ∀ i, Ball k c (f i)) (cells : List (Option (Bool × α))) : ((fl c (gr f) cells).filter grt).length = upsA cells := by
  induction cells with
  | nil => rfl
  | cons x r ih =>
    rw [fl_cons, List.filter_append, List.length_append, ih]
    cases x with
    | none =>
      have : grt c = false := by rw [grt_iff]; simpa using hc.ng
      show ([c].filter grt).length + _ = _
      rw [List.filter_cons, this]
      simp [upsA]
    | some p =>
      obtain ⟨b, i⟩ := p
      have hu := gr_up hf (b, i)
      rw [isUp_grt] at hu
      obtain ⟨y, s, e, hy, _, hs⟩ := gr_ball hf (b, i)
      show ((gr f (b, i)).filter grt).length + _ = _
      rw [e] at hu ⊢
      have hu : grt y = b := hu
      have h0 : s.filter grt = [] := List.filter_eq_nil_iff.mpr fun x hx => by rw [(hs x hx).gr]; decide
      rw [List.filter_cons, h0, hu]
      cases b with
      | true => simp [upsA]; omega
      | false => simp [upsA]
noncomputable def upsP (ps : List (Nat × (Bool × α))) : Nat := (ps.filter fun p => p.2.1).length
noncomputable def restA (ps : List (Nat × (Bool × α))) : List (Option α) := ps.flatMap fun p => if p.2.1 = true then List.replicate (p.1 - 1) none else List.replicate p.1 none ++ [some p.2.2]
theorem cntTurn_fl (hf : ∀ i, Ball k c (f i)) (ps : List (Nat × (Bool × α))) : cntTurn (ps.map (enc c (gr f))) = (upsP ps, fl c (fun i => lowB (f i)) (restA ps)) := by
  induction ps using revInd with
  | h0 => rfl
  | h1 l p ih =>
    rw [List.map_append, List.map_singleton, cntTurn_snoc, ih]
    unfold cntStep
    show (if isUp (gr f p.2) = true then _ else _) = _
    rw [gr_up hf]
    obtain ⟨n, b, i⟩ := p
    cases b with
    | true =>
      rw [if_pos rfl]
      show (upsP l + 1, fl c _ (restA l) ++ (List.replicate n c).drop 1) = _
      rw [List.drop_replicate]
      have e1 : upsP (l ++ [(n, true, i)]) = upsP l + 1 := by simp [upsP]
      have e2 : restA (l ++ [(n, true, i)]) = restA l ++ List.replicate (n - 1) none := by simp [restA]
      rw [e1, e2, fl_app, fl_rep]
    | false =>
      rw [if_neg Bool.false_ne_true]
      show (upsP l, fl c _ (restA l) ++ (List.replicate n c ++ lowB (f i))) = _
      have e1 : upsP (l ++ [(n, false, i)]) = upsP l := by simp [upsP]
      have e2 : restA (l ++ [(n, false, i)]) = restA l ++ (List.replicate n none ++ [some i]) := by simp [restA]
      rw [e1, e2, fl_app, fl_app, fl_rep]; simp [fl, rn]
/- the counts -/
noncomputable def cntA : Nat → List (Option α) → List Int → Option (List Int)
  | 0, _, _ => none
  | m + 1, cells, acc => if cells.length ≤ 100 then
      (if upsP (rdA (none :: capA true cells)).1 = 0 then some acc else cntA m (restA (rdA (none :: capA true cells)).1) (acc ++ [(upsP (rdA (none :: capA true cells)).1 : Int)]))
    else none
theorem capw_len (hc : Fr k c) (hf : ∀ i, Ball k c (f i)) (cells : List (Option α)) (h : cells.length ≤ 100) : (c :: fl c f cells).length ≤ 300 ∧ (capw (c :: fl c f cells) [c]).length ≤ 300 := by
  have h1 := fl_len (c := c) (fun i => (hf i).len) cells
  have h2 := fl_len (c := c) (fun p => (gr_ball hf p).len) (capA true cells)
  rw [capA_len] at h2
  rw [capw_fl hc hf, List.length_cons, List.length_cons]
  omega
theorem cnt_fl (hc : Fr k c) : ∀ (m : Nat) (f : α → List Nat) (hf : ∀ i, Ball k c (f i)) (cells : List (Option α)) (acc cs : List Int), cntA m cells acc = some cs → cntGo k [c] m (fl c f cells) acc = some cs
  | 0, _, _, _, _, _, h => by cases h
  | m + 1, f, hf, cells, acc, cs, h => by
    unfold cntA at h
    by_cases hl : cells.length ≤ 100
    · rw [if_pos hl] at h
      have hr : rd k (capw (c :: fl c f cells) [c]) = ((rdA (none :: capA true cells)).1.map (enc c (gr f)), List.replicate (rdA (none :: capA true cells)).2 c) := by
        rw [capw_fl hc hf]
        exact rd_fl hc.fr (gr_ball hf) (none :: capA true cells)
      obtain ⟨l1, l2⟩ := capw_len hc hf cells hl
      unfold cntGo
      show (if (c :: fl c f cells).length ≤ 300 ∧ (capw (c :: fl c f cells) [c]).length ≤ 500 ∧ (∀ p ∈ (rd k (capw (c :: fl c f cells) [c])).1, p.2 ≠ []) then
        (if (cntTurn (rd k (capw (c :: fl c f cells) [c])).1).1 = 0 then some acc else cntGo k [c] m (cntTurn (rd k (capw (c :: fl c f cells) [c])).1).2 (acc ++ [((cntTurn (rd k (capw (c :: fl c f cells) [c])).1).1 : Int)])) else none) = _
      rw [hr]
      simp only
      rw [cntTurn_fl hf, if_pos ⟨l1, by omega, fun p hp => by obtain ⟨q, _, rfl⟩ := List.mem_map.mp hp; exact (gr_ball hf q.2).ne⟩]
      simp only
      by_cases hu : upsP (rdA (none :: capA true cells)).1 = 0
      · rw [if_pos hu] at h ⊢
        exact h
      · rw [if_neg hu] at h ⊢
        exact cnt_fl hc m _ (fun i => (hf i).low) _ _ _ h
    · rw [if_neg hl] at h; cases h
/- the sizes -/
noncomputable def sizS (st : List Int) (p : Nat × (Bool × α)) : List Int := if p.2.1 = true then st ++ [1] else st.dropLast ++ [st.getLastD 0 + 1]
noncomputable def sizA (ps : List (Nat × (Bool × α))) : List Int := ps.foldl sizS []
theorem siz_fl (hf : ∀ i, Ball k c (f i)) (ps : List (Nat × (Bool × α))) : sizes (ps.map (enc c (gr f))) = sizA ps := by
  induction ps using revInd with
  | h0 => rfl
  | h1 l p ih =>
    rw [List.map_append, List.map_singleton, sizes_snoc, ih]
    have : sizA (l ++ [p]) = sizS (sizA l) p := by simp [sizA]
    rw [this]
    unfold sizStep sizS
    show (if isUp (gr f p.2) = true then _ else _) = _
    rw [gr_up hf]
theorem okb_fl (hf : ∀ i, Ball k c (f i)) (ps : List (Nat × (Bool × α))) (h : (ps.head?.all fun p => p.2.1) = true) : Okb (ps.map (enc c (gr f))) := by
  refine ⟨fun p hp => by obtain ⟨q, _, rfl⟩ := List.mem_map.mp hp; exact (gr_ball hf q.2).ne, fun p hp => ?_⟩
  cases ps with
  | nil => cases hp
  | cons q ps =>
    cases hp
    show isUp (gr f q.2) = true
    rw [gr_up hf]
    simpa using h
end
end Mine
end
section
namespace Mine
noncomputable def linL (k : Int) (c : Nat) (F : List Nat) : Nat → List Nat
  | 0 => F
  | i + 1 => stepL k (linL k c F i) [c]
noncomputable def dueN (cs : List Int) (n : Nat) : List Int := (List.range n).map fun (wd : Nat) => ((cs.filter fun x => decide ((wd : Int) < x)).length : Int)
structure LawF (k : Int) (c : Nat) (boxes : List (List Nat)) (cs : List Int) (N : Nat) : Prop where
  bsz : ∀ b ∈ boxes, b.length ≤ 2
  fsz : boxes.flatten.length ≤ 200
  fre : ∀ x ∈ boxes.flatten, isFree k x = (x == c)
  back : ((rd k boxes.flatten).1.map fun p => p.1 ++ p.2).flatten ++ (rd k boxes.flatten).2 = boxes.flatten
  parts : (rd k boxes.flatten).1.length = (boxes.filter (· != [c])).length
  cnt : cntGo k [c] 20 (turnL k boxes.flatten) [] = some cs
  csz : cs.length ≤ 20
  cN : (cs.take 1).sum = (N : Int)
  N20 : N ≤ 20
  len : ∀ i, i ≤ 4 → (linL k c boxes.flatten i).length ≤ 200
  clen : ∀ i, i ≤ 4 → (capw (c :: linL k c boxes.flatten i) [c]).length ≤ 300
  cap : ∀ i, i ≤ 3 → capw (c :: linL k c boxes.flatten i) [c] = (((c :: c :: lowT (linL k c boxes.flatten i)).zip (c :: lowT (linL k c boxes.flatten i))).map (pairF c)).flatten
  ups : ∀ i, i ≤ 3 → ((capw (c :: linL k c boxes.flatten i) [c]).filter grt).length = N
  clo : rstripT (linL k c boxes.flatten 1) [c] = rstripT (joinL [] (closed boxes [c] boxes).2) [c]
  okb : Okb (rd k (capw (c :: linL k c boxes.flatten 4) [c])).1
  siz : sizes (rd k (capw (c :: linL k c boxes.flatten 4) [c])).1 = (dueN cs N).reverse
  blen : ∀ i, i ≤ 4 → (linL k c (turnL k (linL k c boxes.flatten 4)) i).length ≤ 200
  home : rstripT (turnL k (linL k c (turnL k (linL k c boxes.flatten 4)) 4)) [c] = rstripT boxes.flatten [c]
/- the patterns -/
noncomputable def cellsOf : Nat → List Bool → List (Option Nat)
  | _, [] => []
  | n, b :: r => (if b = true then some n else none) :: cellsOf (n + 1) r
noncomputable def linA {α : Type} (cells : List (Option α)) : Nat → List (Option α)
  | 0 => cells
  | i + 1 => stepA (linA cells i)
noncomputable def okPat (cells : List (Option Nat)) : Bool := match cntA 20 cells.reverse [] with
  | none => false
  | some cs =>
    let l1 := stepA cells
    let l2 := stepA l1
    let l3 := stepA l2
    let l4 := stepA l3
    let b0 := l4.reverse
    let b1 := stepA b0
    let b2 := stepA b1
    let b3 := stepA b2
    let b4 := stepA b3
    let n := (cs.take 1).sum.toNat
    decide (cs.length ≤ 20) && decide ((cs.take 1).sum = (n : Int)) && decide (n ≤ 20) && ([cells, l1, l2, l3, l4, b0, b1, b2, b3, b4].all fun l => decide (l.length ≤ 100)) &&
      ([cells, l1, l2, l3].all fun l => upsA (capA true l) == n) && (trim l1 == trim (closedA cells)) && ((rdA (none :: capA true l4)).1.head?.all fun p => p.2.1) &&
      (sizA (rdA (none :: capA true l4)).1 == (dueN cs n).reverse) && (trim b4.reverse == trim cells) && ((rdA cells).1.length == (cells.filter Option.isSome).length)
theorem pats_ok : ∀ a b c d e f g : Bool, ([a, b, c, d, e, f, g].filter id).length ≤ 5 → okPat (cellsOf 0 [a, b, c, d, e, f, g]) = true := by decide +kernel
structure PatOk (cells : List (Option Nat)) (cs : List Int) (n : Nat) : Prop where
  cnt : cntA 20 cells.reverse [] = some cs
  csz : cs.length ≤ 20
  cN : (cs.take 1).sum = (n : Int)
  N20 : n ≤ 20
  len : ∀ i, i ≤ 4 → (linA cells i).length ≤ 100
  blen : ∀ i, i ≤ 4 → (linA (linA cells 4).reverse i).length ≤ 100
  ups : ∀ i, i ≤ 3 → upsA (capA true (linA cells i)) = n
  clo : trim (linA cells 1) = trim (closedA cells)
  okb : ((rdA (none :: capA true (linA cells 4))).1.head?.all fun p => p.2.1) = true
  siz : sizA (rdA (none :: capA true (linA cells 4))).1 = (dueN cs n).reverse
  home : trim (linA (linA cells 4).reverse 4).reverse = trim cells
  parts : (rdA cells).1.length = (cells.filter Option.isSome).length
theorem pat_of {cells : List (Option Nat)} (h : okPat cells = true) : ∃ cs n, PatOk cells cs n := by
  unfold okPat at h
  split at h
  · cases h
  · next cs e =>
    simp only [Bool.and_eq_true, decide_eq_true_eq, List.all_cons, List.all_nil, beq_iff_eq, and_true] at h
    obtain ⟨⟨⟨⟨⟨⟨⟨⟨⟨h1, h2⟩, h3⟩, a0, a1, a2, a3, a4, a5, a6, a7, a8, a9⟩, u0, u1, u2, u3⟩, h5⟩, h6⟩, h7⟩, h8⟩, h9⟩ := h
    refine ⟨cs, _, e, h1, h2, h3, fun i hi => ?_, fun i hi => ?_, fun i hi => ?_, h5, h6, h7, h8, h9⟩
    · match i, hi with
      | 0, _ => exact a0
      | 1, _ => exact a1
      | 2, _ => exact a2
      | 3, _ => exact a3
      | 4, _ => exact a4
    · match i, hi with
      | 0, _ => exact a5
      | 1, _ => exact a6
      | 2, _ => exact a7
      | 3, _ => exact a8
      | 4, _ => exact a9
    · match i, hi with
      | 0, _ => exact u0
      | 1, _ => exact u1
      | 2, _ => exact u2
      | 3, _ => exact u3
section
variable {k : Int} {c : Nat} {f : Nat → List Nat}
theorem lin_fl (hc : Fr k c) (hf : ∀ i, Ball k c (f i)) (cells : List (Option Nat)) : ∀ i, linL k c (fl c f cells) i = fl c f (linA cells i)
  | 0 => rfl
  | i + 1 => by
    show stepL k (linL k c (fl c f cells) i) [c] = _
    rw [lin_fl hc hf cells i, stepL_fl hc.fr hf]; rfl
theorem law_of {cells : List (Option Nat)} {cs : List Int} {n : Nat} (hc : Fr k c) (hf : ∀ i, Ball k c (f i)) (P : PatOk cells cs n) : LawF k c (cells.map (rn c f)) cs n := by
  have hF : (cells.map (rn c f)).flatten = fl c f cells := rfl
  have h2 : ∀ i, (f i).length ≤ 2 := fun i => (hf i).len
  have hr := rd_fl (k := k) hc.fr hf cells
  have len := fun (l : List (Option Nat)) (h : l.length ≤ 100) => show (fl c f l).length ≤ 200 from Nat.le_trans (fl_len h2 l) (by omega)
  have ht : turnL k (fl c f (linA cells 4)) = fl c f (linA cells 4).reverse := turnL_fl hc.fr hf _
  have h4 : rd k (capw (c :: fl c f (linA cells 4)) [c]) = ((rdA (none :: capA true (linA cells 4))).1.map (enc c (gr f)), List.replicate (rdA (none :: capA true (linA cells 4))).2 c) := by
    rw [capw_fl hc hf]
    exact rd_fl hc.fr (gr_ball hf) (none :: capA true (linA cells 4))
  constructor
  · intro b hb
    obtain ⟨x, _, rfl⟩ := List.mem_map.mp hb
    cases x with
    | none => show [c].length ≤ 2; simp
    | some i => exact h2 i
  · rw [hF]; exact len _ (P.len 0 (by omega))
  · rw [hF]; exact fl_free hc hf
  · rw [hF, hr]; exact fl_back cells
  · rw [hF, hr]
    show ((rdA cells).1.map _).length = _
    rw [List.length_map, P.parts, List.filter_map, List.length_map]
    congr 2
    funext x
    exact (rn_free hf x).symm
  · rw [hF, turnL_fl hc.fr hf]; exact cnt_fl hc 20 f hf _ _ _ P.cnt
  · exact P.csz
  · exact P.cN
  · exact P.N20
  · intro i hi
    rw [hF, lin_fl hc hf]; exact len _ (P.len i hi)
  · intro i hi
    rw [hF, lin_fl hc hf]; exact (capw_len hc hf _ (P.len i hi)).2
  · intro i hi
    rw [hF, lin_fl hc hf, pair_fl hc hf, capw_fl hc hf]
  · intro i hi
    rw [hF, lin_fl hc hf, capw_fl hc hf]
    have : grt c = false := by rw [grt_iff]; simpa using hc.ng
    rw [List.filter_cons, this]
    show ((fl c (gr f) _).filter grt).length = n
    rw [ups_fl hc hf, P.ups i hi]
  · rw [hF, lin_fl hc hf, closed_fl hf]
    exact rstrip_fl P.clo
  · rw [hF, lin_fl hc hf, h4]
    exact okb_fl hf _ P.okb
  · rw [hF, lin_fl hc hf, h4]
    show sizes ((rdA (none :: capA true (linA cells 4))).1.map (enc c (gr f))) = _
    rw [siz_fl hf, P.siz]
  · intro i hi
    rw [hF, lin_fl hc hf, ht, lin_fl hc hf]; exact len _ (P.blen i hi)
  · rw [hF, lin_fl hc hf, ht, lin_fl hc hf, turnL_fl hc.fr hf]
    exact rstrip_fl P.home
end
/- from the boxes -/
noncomputable def freeOk (k : Int) (c : Nat) : Bool := isFree k c && (Unicode.lowerOf c == [c]) && (Unicode.upperOf c == [c]) && (c != 931) && !(decide (65 ≤ c ∧ c ≤ 90))
theorem free_of {k : Int} {c : Nat} (h : freeOk k c = true) : Fr k c := by
  simp only [freeOk, Bool.and_eq_true, beq_iff_eq, bne_iff_ne, Bool.not_eq_true', decide_eq_false_iff_not] at h
  exact ⟨h.1.1.1.1, h.1.1.1.2, h.1.1.2, h.1.2, h.2⟩
noncomputable def sgOk (k : Int) (x : Nat) : Bool := !(isFree k x) && !(lettr x) && (Unicode.lowerOf x == [x]) && (x != 931) && !(decide (65 ≤ x ∧ x ≤ 90))
theorem sg_of {k : Int} {c x : Nat} (hc : Fr k c) (h : sgOk k x = true) : Sg k c x := by
  simp only [sgOk, Bool.and_eq_true, beq_iff_eq, bne_iff_ne, Bool.not_eq_true', decide_eq_false_iff_not] at h
  refine ⟨h.1.1.1.1, h.1.1.1.2, ?_, h.1.1.2, h.1.2, h.2⟩
  rintro rfl
  rw [hc.fr] at h; exact absurd h.1.1.1.1 (by decide)
noncomputable def ltOk (k : Int) (l : Nat) : Bool := !(isFree k l) && lettr l && !(isFree k (loN l)) && lettr (loN l) && !(isFree k (upN l)) && lettr (upN l)
theorem lt_of {k : Int} {c l : Nat} (hc : Fr k c) (hm : l ∈ lets) (h : ltOk k l = true) : Lt k c l := by
  simp only [ltOk, Bool.and_eq_true, Bool.not_eq_true'] at h
  obtain ⟨⟨⟨⟨⟨h1, h2⟩, h3⟩, h4⟩, h5⟩, h6⟩ := h
  obtain ⟨a1, a2, a3⟩ := lets_case _ hm
  have ne : ∀ x, isFree k x = false → x ≠ c := by
    rintro x e rfl
    rw [hc.fr] at e; cases e
  exact ⟨hm, h1, h2, ne _ h1, a1, a2, a3, h3, h4, ne _ h3, h5, h6, ne _ h5⟩
theorem lets0 : ∀ l ∈ lets, ltOk 0 l = true := by decide +kernel
theorem lets1 : ∀ l ∈ lets, ltOk 1 l = true := by decide +kernel
theorem lets2 : ∀ l ∈ lets, ltOk 2 l = true := by decide +kernel
theorem free0 : freeOk 0 32 = true := by decide +kernel
theorem free1 : ∀ c ∈ codes8, freeOk 1 c = true := by decide +kernel
theorem shifted_none {c : Nat} : ∀ {l : List (Nat × Nat × Nat)}, (∀ e ∈ l, e.2.1 < c) → Unicode.shifted l c = none
  | [], _ => rfl
  | (a, b, t) :: r, h => by
    have h1 : b < c := h (a, b, t) (.head _)
    unfold Unicode.shifted
    split
    · rfl
    · rw [if_neg (by omega)]
      exact shifted_none fun e he => h e (.tail _ he)
theorem lookup_less {β : Type} {c : Nat} : ∀ {l : List (Nat × β)}, (∀ e ∈ l, e.1 < c) → l.lookup c = none
  | [], _ => rfl
  | (a, b) :: r, h => by
    have h1 : a < c := h (a, b) (.head _)
    rw [List.lookup_cons, beq_eq_false_iff_ne.mpr (by omega)]
    exact lookup_less fun e he => h e (.tail _ he)
theorem image_past {one : List (Nat × Nat × Nat)} {several : List (Nat × List Nat)} {c : Nat} (h1 : (one.all fun e => Nat.blt e.2.1 917505) = true) (h2 : (several.all fun e => Nat.blt e.1 917505) = true) (hc : 917505 ≤ c) : Unicode.image one several c = [c] := by
  unfold Unicode.image
  rw [List.all_eq_true] at h1 h2
  rw [lookup_less fun e he => by have := h2 e he; rw [Nat.blt_eq] at this; omega]
  simp only
  rw [shifted_none fun e he => by have := h1 e he; rw [Nat.blt_eq] at this; omega]
  rfl
theorem free2 : ∀ c ∈ c9s, Fr 2 c := fun c hm => by
  have hc : 917505 ≤ c := by
    rcases List.mem_cons.mp hm with rfl | hm
    · exact Nat.le_refl _
    · obtain ⟨i, _, rfl⟩ := List.mem_map.mp hm; omega
  refine ⟨?_, image_past (by decide +kernel) (by decide +kernel) hc, image_past (by decide +kernel) (by decide +kernel) hc, by omega, by omega⟩
  show isC9 c = true
  unfold isC9
  rw [List.any_eq_true]
  exact ⟨c, hm, by simp⟩
theorem kind_ok {k c : Nat} {bsd : List (List Nat)} (h : KindOk k c bsd) : Fr k c ∧ (∀ l ∈ lets, Lt k c l) ∧ ∀ s ∈ bsd, s.length ≤ 1 ∧ ∀ x ∈ s, Sg k c x := by
  cases h with
  | k0 =>
    have hc : Fr ((0 : Nat) : Int) 32 := free_of free0
    refine ⟨hc, fun l hl => lt_of hc hl (lets0 l hl), fun s hs => ?_⟩
    have : ∀ s ∈ [[], [31], [33], [9], [160], [12288]], s.length ≤ 1 ∧ ∀ x ∈ s, sgOk 0 x = true := by decide +kernel
    obtain ⟨a, b⟩ := this s hs
    exact ⟨a, fun x hx => sg_of hc (b x hx)⟩
  | k1 _ hm =>
    have hc : Fr ((1 : Nat) : Int) c := free_of (free1 c hm)
    refine ⟨hc, fun l hl => lt_of hc hl (lets1 l hl), fun s hs => ?_⟩
    have : ∀ s ∈ [[], [831], [834], [8205], [8208], [8233], [8239], [8297], [8304]], s.length ≤ 1 ∧ ∀ x ∈ s, sgOk 1 x = true := by decide +kernel
    obtain ⟨a, b⟩ := this s hs
    exact ⟨a, fun x hx => sg_of hc (b x hx)⟩
  | k2 _ hm =>
    have hm' : c ∈ c9s := by
      rcases hm with rfl | ⟨h1, h2⟩
      · exact .head _
      · exact List.mem_cons_of_mem _ (List.mem_map.mpr ⟨c - 917536, List.mem_range.mpr (by omega), by omega⟩)
    have hc : Fr ((2 : Nat) : Int) c := free2 c hm'
    refine ⟨hc, fun l hl => lt_of hc hl (lets2 l hl), fun s hs => ?_⟩
    have : ∀ s ∈ [[], [917504], [917506], [917535], [917632]], s.length ≤ 1 ∧ ∀ x ∈ s, sgOk 2 x = true := by decide +kernel
    obtain ⟨a, b⟩ := this s hs
    exact ⟨a, fun x hx => sg_of hc (b x hx)⟩
theorem cells_map (c : Nat) (f : Nat → List Nat) : ∀ (boxes : List (List Nat)) (n : Nat), (∀ i b, boxes[i]? = some b → b = [c] ∨ b = f (n + i)) → (cellsOf n (boxes.map (· != [c]))).map (rn c f) = boxes
  | [], _, _ => rfl
  | b :: r, n, h => by
    rw [List.map_cons]
    show rn c f (if (b != [c]) = true then some n else none) :: (cellsOf (n + 1) (r.map (· != [c]))).map (rn c f) = _
    rw [cells_map c f r (n + 1) fun i b' e => by
      have := h (i + 1) b' (by simpa using e)
      rwa [show n + 1 + i = n + (i + 1) from by omega]]
    congr 1
    by_cases hb : b = [c]
    · subst hb; simp [rn]
    · have : (b != [c]) = true := by simpa using hb
      rw [if_pos this]
      rcases h 0 b rfl with e | e
      · exact (hb e).elim
      · exact e.symm
theorem law_plain {k c : Nat} {bsd boxes : List (List Nat)} (hk : KindOk k c bsd) (hb : BoxesOk c bsd boxes) (h7 : boxes.length = 7) : ∃ cs n, LawF k c boxes cs n := by
  obtain ⟨hc, hl, hs⟩ := kind_ok hk
  let f : Nat → List Nat := fun i => match boxes[i]? with
    | some b => if b = [c] then [97] else b
    | none => [97]
  have h97 : Ball (k : Int) c [97] := ⟨97, [], rfl, hl 97 (by decide), by simp, fun x hx => by cases hx⟩
  have hf : ∀ i, Ball (k : Int) c (f i) := fun i => by
    show Ball (k : Int) c (match boxes[i]? with
    | some b => if b = [c] then [97] else b
    | none => [97])
    cases e : boxes[i]? with
    | none => exact h97
    | some b =>
      show Ball (k : Int) c (if b = [c] then [97] else b)
      split
      · exact h97
      · next hne =>
        rcases hb.each i b e with e1 | ⟨u, s, hu, hsm, rfl⟩
        · exact (hne e1).elim
        · obtain ⟨hi, -⟩ := List.getElem?_eq_some_iff.mp e
          obtain ⟨q1, q2⟩ := hs s hsm
          refine ⟨_, s, rfl, hl _ ?_, q1, q2⟩
          rw [h7] at hi
          have : ∀ i, i < 7 → 97 + i ∈ lets ∧ 65 + i ∈ lets := by decide
          rcases hu with rfl | rfl
          · exact (this i hi).1
          · exact (this i hi).2
  have hm := cells_map c f boxes 0 fun i b e => by
    by_cases hbc : b = [c]
    · exact .inl hbc
    · refine .inr ?_
      show b = (match boxes[0 + i]? with
        | some b => if b = [c] then [97] else b
        | none => [97])
      rw [Nat.zero_add, e]
      show b = if b = [c] then [97] else b
      rw [if_neg hbc]
  have h5 : ((boxes.map (· != [c])).filter id).length ≤ 5 := by
    have := hb.balls
    rw [List.filter_map, List.length_map]
    exact this
  have h7' : (boxes.map (· != [c])).length = 7 := by rw [List.length_map, h7]
  have ok : okPat (cellsOf 0 (boxes.map (· != [c]))) = true := by
    generalize boxes.map (· != [c]) = bs at h5 h7' ⊢
    match bs, h7' with
    | [a, b, c, d, e, f, g], _ => exact pats_ok a b c d e f g h5
  obtain ⟨cs, n, P⟩ := pat_of ok
  have := law_of hc hf P
  rw [hm] at this
  exact ⟨cs, n, this⟩
end Mine
end
section
open PySem.Calls
open AutoSeq1 (wpAny_loadPart')
namespace Mine
noncomputable def StrAt (h : Heap) (it : Addr) (x : List Nat) (k : Nat) : Prop := ∃ o, h.get? it = some o ∧ StrIt (T x) k o
theorem StrAt.up {h h' : Heap} {it x k} (a : StrAt h it x k) (hk : ∀ o, h.get? it = some o → h'.get? it = some o) : StrAt h' it x k := let ⟨o, e, p⟩ := a; ⟨o, hk o e, p⟩
section
variable {prog : Program} {w : World} {A : Around} {E : Value → Shared → Prop} {s : Shared}
theorem nextS {it : Addr} {x : List Nat} {k c : Nat} {Q : Value → Shared → Prop} (hit : StrAt s.heap it x k) (hx : x[k]? = some c)
    (q : ∀ h' v t, FIs v (.str (T [c])) → StrAt h' it x (k + 1) → Heap.SameBut it s.heap h' → Q v { s with heap := h', toks := t }) : wpAny (model prog w) A (Builtin.SmallTypes.nextOf (.ref it)) Q E s := by
  obtain ⟨o, e, t, hc, hd⟩ := hit
  have hx' : (T x).cps[k]? = some c := by simpa [T] using hx
  cases ha : (T x).cps.all (· < 128) with
  | true =>
    have st : strIterType (T x) = "str_ascii_iterator" := by simp [strIterType, ha]
    rw [st] at hc
    refine wpAny_nextOf_ascii_item ⟨o, e, hc, hd⟩ hx' fun h' hit hs => ?_
    obtain ⟨o', e', hc', hd'⟩ := hit
    exact q _ _ _ ⟨_, rfl⟩ ⟨o', e', t, by rw [st]; exact hc', hd'⟩ hs
  | false =>
    have st : strIterType (T x) = "str_iterator" := by simp [strIterType, ha]
    rw [st] at hc
    refine wpAny_nextOf_wide_item ⟨o, e, hc, hd⟩ hx' fun h' hit hs => ?_
    obtain ⟨o', e', hc', hd'⟩ := hit
    exact q _ _ _ ⟨_, rfl⟩ ⟨o', e', t, by rw [st]; exact hc', hd'⟩ hs
theorem nextS_end {it : Addr} {x : List Nat} {k : Nat} {Q : Value → Shared → Prop} (hh : A.handled = none) (hit : StrAt s.heap it x k) (hx : x[k]? = none)
    (hE : ∀ h' e, Heap.ExtBut it s.heap h' → (∃ o, h'.get? e = some o ∧ o.cls = .type "StopIteration") → E (.ref e) { s with heap := h' }) : wpAny (model prog w) A (Builtin.SmallTypes.nextOf (.ref it)) Q E s := by
  obtain ⟨o, e, t, hc, hd⟩ := hit
  have hx' : (T x).cps[k]? = none := by simpa [T] using hx
  cases ha : (T x).cps.all (· < 128) with
  | true =>
    have st : strIterType (T x) = "str_ascii_iterator" := by simp [strIterType, ha]
    rw [st] at hc
    exact wpAny_nextOf_ascii_end hh ⟨o, e, hc, hd⟩ hx' hE
  | false =>
    have st : strIterType (T x) = "str_iterator" := by simp [strIterType, ha]
    rw [st] at hc
    exact wpAny_nextOf_wide_end hh ⟨o, e, hc, hd⟩ hx' hE
structure ZApart (z TI TO i1 i2 : Addr) : Prop where
  TOz : TO ≠ z
  i1z : i1 ≠ z
  i2z : i2 ≠ z
  TOi1 : TO ≠ i1
  TOi2 : TO ≠ i2
  i12 : i1 ≠ i2
theorem zip_item {z TI TO i1 i2 : Addr} {k1 k2 : Nat} {xs ys : List Nat} {c d : Nat} {a b : Value} {Q : Value → Shared → Prop} (D : ZApart z TI TO i1 i2)
    (hz : IsZip s.heap z TI TO .none) (hTI : IsPair s.heap TI (.ref i1) (.ref i2)) (hTO : IsPair s.heap TO a b)
    (h1 : StrAt s.heap i1 xs k1) (h2 : StrAt s.heap i2 ys k2) (hx : xs[k1]? = some c) (hy : ys[k2]? = some d)
    (hQ : ∀ h' x y t, FIs x (.str (T [c])) → FIs y (.str (T [d])) → IsZip h' z TI TO (rawInt s.heap.objs.size) → IsPair h' TO x y → StrAt h' i1 xs (k1 + 1) → StrAt h' i2 ys (k2 + 1) → IsPair h' s.heap.objs.size x y →
      (∀ c o, c ≠ z → c ≠ TO → c ≠ i1 → c ≠ i2 → s.heap.get? c = some o → h'.get? c = some o) → Q (.ref s.heap.objs.size) { s with heap := h', toks := t }) :
    wpAny (model prog w) A (Builtin.«zip.__next__» ⟨[.ref z], []⟩) (fun fin s' => ∃ v, fin = .done (.ret v) ∧ Q v s') E s := by
  show wpAny _ _ (field (.ref z) 2 >>= _) _ _ _
  refine wpAny_bind (wpAny_field hz rfl (x := .bool false) rfl ?_)
  show wpAny _ _ (field (.ref z) 3 >>= _) _ _ _
  refine wpAny_bind (wpAny_field hz rfl (x := .ref TI) rfl ?_)
  refine wpAny_bind (wpAny_seqItems hTI rfl ?_)
  show wpAny _ _ (Builtin.SmallTypes.ownedTupleIsFree (.ref z) >>= _) _ _ _
  refine wpAny_bind ?_
  unfold Builtin.SmallTypes.ownedTupleIsFree
  refine wpAny_bind (wpAny_field hz rfl (x := .none) rfl (wpAny_pure ?_))
  simp only [if_true]
  refine wpAny_bind (wpAny_rule ?_)
  refine wpAny_bind (wpAny_field hz rfl (x := .ref TO) rfl ?_)
  refine wpAny_bind (wpAny_setField_rec hz (by simp) fun h₁ hz₁ hs₁ => ?_)
  replace hz₁ : IsZip h₁ z TI TO .ellipsis := hz₁
  refine wpAny_bind ?_
  simp only [List.zipIdx_cons, List.zipIdx_nil, List.forIn_cons, List.forIn_nil]
  refine wpAny_bind (wpAny_bind (wpAny_onRaise ?_))
  show wpAny _ _ (Builtin.SmallTypes.nextOf (.ref i1) >>= _) _ _ _
  refine wpAny_bind (nextS (h1.up fun o e => hs₁.extBut _ _ D.i1z e) hx fun h₂ x t₂ hvx h1₂ hs₂ => wpAny_pure ?_)
  have hTO₂ : IsPair h₂ TO a b := hs₂.extBut _ _ D.TOi1 (hs₁.extBut _ _ D.TOz hTO)
  refine wpAny_bind (wpAny_seqItems hTO₂ rfl ?_)
  refine wpAny_bind (wpAny_updateSeq_pair hTO₂ fun h₃ hTO₃ hs₃ => ?_)
  replace hTO₃ : IsPair h₃ TO x b := hTO₃
  refine wpAny_bind (wpAny_letGo (wpAny_pure ?_))
  refine wpAny_bind (wpAny_bind (wpAny_onRaise ?_))
  show wpAny _ _ (Builtin.SmallTypes.nextOf (.ref i2) >>= _) _ _ _
  refine wpAny_bind (nextS (h2.up fun o e => hs₃.extBut _ _ D.TOi2.symm (hs₂.extBut _ _ D.i12.symm (hs₁.extBut _ _ D.i2z e))) hy fun h₄ y t₄ hvy h2₄ hs₄ => wpAny_pure ?_)
  have hTO₄ : IsPair h₄ TO x b := hs₄.extBut _ _ D.TOi2 hTO₃
  refine wpAny_bind (wpAny_seqItems hTO₄ rfl ?_)
  refine wpAny_bind (wpAny_updateSeq_pair hTO₄ fun h₅ hTO₅ hs₅ => ?_)
  replace hTO₅ : IsPair h₅ TO x y := hTO₅
  refine wpAny_bind (wpAny_letGo (wpAny_pure (wpAny_pure ?_)))
  refine wpAny_bind (wpAny_seqItems hTO₅ rfl ?_)
  refine wpAny_bind (wpAny_newTuple ?_)
  have hsz : h₅.objs.size = s.heap.objs.size := by rw [hs₅.1, hs₄.1, hs₃.1, hs₂.1, hs₁.1]
  have hz₅ : IsZip h₅ z TI TO .ellipsis := hs₅.extBut _ _ D.TOz.symm (hs₄.extBut _ _ D.i2z.symm (hs₃.extBut _ _ D.TOz.symm (hs₂.extBut _ _ D.i1z.symm hz₁)))
  have hk₅ : ∀ c o, c ≠ z → c ≠ TO → c ≠ i1 → c ≠ i2 → s.heap.get? c = some o → h₅.get? c = some o := fun c o c1 c2 c3 c4 e =>
    hs₅.extBut _ _ c2 (hs₄.extBut _ _ c4 (hs₃.extBut _ _ c2 (hs₂.extBut _ _ c3 (hs₁.extBut _ _ c1 e))))
  have h1₅ : StrAt h₅ i1 xs (k1 + 1) := h1₂.up fun o e => hs₅.extBut _ _ D.TOi1.symm (hs₄.extBut _ _ D.i12 (hs₃.extBut _ _ D.TOi1.symm e))
  have h2₅ : StrAt h₅ i2 ys (k2 + 1) := h2₄.up fun o e => hs₅.extBut _ _ D.TOi2.symm e
  have hzlt : z < h₅.objs.size := Heap.lt_size hz₅
  show wpAny _ _ (Builtin.SmallTypes.ownedTupleHandOut (.ref z) (.ref h₅.objs.size) >>= _) _ _ _
  refine wpAny_bind ?_
  unfold Builtin.SmallTypes.ownedTupleHandOut
  have hz₆ : IsZip (h₅.push { cls := .type "tuple", data := .seq #[x, y] }) z TI TO .ellipsis := Heap.get?_push_of_some _ hz₅
  refine wpAny_bind (wpAny_setField_rec hz₆ (by simp) fun h₇ hz₇ hs₇ => ?_)
  replace hz₇ : IsZip h₇ z TI TO (rawInt h₅.objs.size) := hz₇
  refine wpAny_setField_rec hz₇ (by simp) fun h₈ hz₈ hs₈ => ?_
  replace hz₈ : IsZip h₈ z TI TO (rawInt h₅.objs.size) := hz₈
  have up : ∀ c o, c ≠ z → h₅.get? c = some o → h₈.get? c = some o := fun c o c1 e => hs₈.extBut _ _ c1 (hs₇.extBut _ _ c1 (Heap.get?_push_of_some _ e))
  have hT₈ : IsPair h₈ h₅.objs.size x y := hs₈.extBut _ _ (Nat.ne_of_gt hzlt) (hs₇.extBut _ _ (Nat.ne_of_gt hzlt) (Heap.get?_push_size _ rfl))
  rw [hsz] at hz₈ hT₈
  refine wpAny_pure ⟨_, rfl, ?_⟩
  show Q (.ref h₅.objs.size) _
  rw [hsz]
  exact hQ h₈ x y _ hvx hvy hz₈ (up _ _ D.TOz hTO₅) (h1₅.up fun o e => up _ o D.i1z e) (h2₅.up fun o e => up _ o D.i2z e) hT₈ fun c o c1 c2 c3 c4 e => up c o c1 (hk₅ c o c1 c2 c3 c4 e)
/-- the second one ends -/
theorem zip_end {z TI TO i1 i2 : Addr} {k1 k2 : Nat} {xs ys : List Nat} {c : Nat} {a b : Value} {Q : Fin → Shared → Prop} (hh : A.handled = none) (D : ZApart z TI TO i1 i2)
    (hz : IsZip s.heap z TI TO .none) (hTI : IsPair s.heap TI (.ref i1) (.ref i2)) (hTO : IsPair s.heap TO a b)
    (h1 : StrAt s.heap i1 xs k1) (h2 : StrAt s.heap i2 ys k2) (hx : xs[k1]? = some c) (hy : ys[k2]? = none)
    (hE : ∀ h' e t, (∀ c o, c ≠ z → c ≠ TO → c ≠ i1 → c ≠ i2 → s.heap.get? c = some o → h'.get? c = some o) → (∃ o, h'.get? e = some o ∧ o.cls = .type "StopIteration") → E (.ref e) { s with heap := h', toks := t }) :
    wpAny (model prog w) A (Builtin.«zip.__next__» ⟨[.ref z], []⟩) Q E s := by
  show wpAny _ _ (field (.ref z) 2 >>= _) _ _ _
  refine wpAny_bind (wpAny_field hz rfl (x := .bool false) rfl ?_)
  show wpAny _ _ (field (.ref z) 3 >>= _) _ _ _
  refine wpAny_bind (wpAny_field hz rfl (x := .ref TI) rfl ?_)
  refine wpAny_bind (wpAny_seqItems hTI rfl ?_)
  show wpAny _ _ (Builtin.SmallTypes.ownedTupleIsFree (.ref z) >>= _) _ _ _
  refine wpAny_bind ?_
  unfold Builtin.SmallTypes.ownedTupleIsFree
  refine wpAny_bind (wpAny_field hz rfl (x := .none) rfl (wpAny_pure ?_))
  simp only [if_true]
  refine wpAny_bind (wpAny_rule ?_)
  refine wpAny_bind (wpAny_field hz rfl (x := .ref TO) rfl ?_)
  refine wpAny_bind (wpAny_setField_rec hz (by simp) fun h₁ hz₁ hs₁ => ?_)
  replace hz₁ : IsZip h₁ z TI TO .ellipsis := hz₁
  refine wpAny_bind ?_
  simp only [List.zipIdx_cons, List.zipIdx_nil, List.forIn_cons, List.forIn_nil]
  refine wpAny_bind (wpAny_bind (wpAny_onRaise ?_))
  show wpAny _ _ (Builtin.SmallTypes.nextOf (.ref i1) >>= _) _ _ _
  refine wpAny_bind (nextS (h1.up fun o e => hs₁.extBut _ _ D.i1z e) hx fun h₂ x t₂ hvx h1₂ hs₂ => wpAny_pure ?_)
  have hTO₂ : IsPair h₂ TO a b := hs₂.extBut _ _ D.TOi1 (hs₁.extBut _ _ D.TOz hTO)
  refine wpAny_bind (wpAny_seqItems hTO₂ rfl ?_)
  refine wpAny_bind (wpAny_updateSeq_pair hTO₂ fun h₃ hTO₃ hs₃ => ?_)
  refine wpAny_bind (wpAny_letGo (wpAny_pure ?_))
  refine wpAny_bind (wpAny_bind (wpAny_onRaise ?_))
  show wpAny _ _ (Builtin.SmallTypes.nextOf (.ref i2) >>= _) _ _ _
  refine wpAny_bind (nextS_end hh (h2.up fun o e => hs₃.extBut _ _ D.TOi2.symm (hs₂.extBut _ _ D.i12.symm (hs₁.extBut _ _ D.i2z e))) hy fun h₄ e hs₄ he => ?_)
  obtain ⟨oe, hoe, hce⟩ := he
  have hz₄ : IsZip h₄ z TI TO .ellipsis := hs₄ _ _ D.i2z.symm (hs₃.extBut _ _ D.TOz.symm (hs₂.extBut _ _ D.i1z.symm hz₁))
  have hez : e ≠ z := fun x => by subst x; rw [hz₄] at hoe; cases hoe; simp at hce
  refine wpAny_setField_rec hz₄ (by simp) fun h₅ _ hs₅ => hE h₅ e _ (fun c o c1 c2 c3 c4 x => hs₅.extBut _ _ c1 (hs₄ _ _ c4 (hs₃.extBut _ _ c2 (hs₂.extBut _ _ c3 (hs₁.extBut _ _ c1 x))))) ⟨oe, hs₅.extBut _ _ hez hoe, hce⟩
end
end Mine
end
section
open PySem.Calls
open AutoSeq1 (wpAny_loadPart')
namespace Mine
noncomputable def siO (x : Str) (t : Tok) : Obj := { cls := .type (strIterType x), data := .fields #[.str x t, .int 0 0] }
noncomputable abbrev zh1 (h : Heap) (x : Str) (t : Tok) : Heap := h.push (siO x t)
noncomputable abbrev zh2 (h : Heap) (x y : Str) (t u : Tok) : Heap := (zh1 h x t).push (siO y u)
noncomputable abbrev zh3 (h : Heap) (x y : Str) (t u : Tok) : Heap := (zh2 h x y t u).push { cls := .type "tuple", data := .seq #[.ref h.objs.size, .ref (zh1 h x t).objs.size] }
noncomputable abbrev zh4 (h : Heap) (x y : Str) (t u : Tok) : Heap := (zh3 h x y t u).push { cls := .type "tuple", data := .seq #[.none, .none] }
noncomputable abbrev zh5 (h : Heap) (x y : Str) (t u : Tok) : Heap := (zh4 h x y t u).push { cls := .type "zip", data := .fields #[.none, .bool false, .bool false, .ref (zh2 h x y t u).objs.size, .ref (zh3 h x y t u).objs.size] }
set_option maxHeartbeats 2000000 in
theorem meets_zip_newS (x y : Str) (t u : Tok) :
    Meets (Builtin.«zip.__new__» ⟨[.type "zip", .str x t, .str y u], []⟩) (fun _ R s => R (.ok (.ret (.ref (zh4 s.heap x y t u).objs.size))) { s with heap := zh5 s.heap x y t u }) :=
  .of_wp fun prog w A R s h => by
    obtain ⟨hp, g, d, tk, os⟩ := s
    have hsub := sub_zip
    wp_walk using wpAny_pyIter_strU
    exact ⟨_, rfl, h⟩
end Mine
end
section
open PySem.Calls
open AutoSeq1 (wpAny_loadPart')
namespace Mine
/-- an owned thing that bears no tuple -/
noncomputable def Own.NT : Own → Prop
  | .tup _ => False
  | .acc .. => False
  | _ => True
theorem Own.At.keepN {h h' : Heap} {a} {w : Own} (x : w.At h a) (nt : w.NT) (k : ∀ o, h.get? a = some o → h'.get? a = some o) : w.At h' a := by
  cases w with
  | list => obtain ⟨vs, n, e, f⟩ := x; exact ⟨vs, n, k _ e, f⟩
  | tup => exact nt.elim
  | acc => exact nt.elim
  | ns => obtain ⟨m, n, y⟩ := x; exact ⟨m, n.at' k, y⟩
  | cell => rcases x with ⟨o, e, f, g⟩ | ⟨o, v, g, e, f, r⟩
            · exact .inl ⟨o, k _ e, f, g⟩
            · exact .inr ⟨o, v, g, k _ e, f, r⟩
  | raw => obtain ⟨o, e, f⟩ := x; exact ⟨o, k _ e, f⟩
theorem Own.NT.ads {w : Own} (nt : w.NT) (a : Addr) : w.ads a = [a] := by cases w <;> first | rfl | exact nt.elim
noncomputable def NoT (o : Owns) : Prop := ∀ p ∈ o, p.2.NT
section
variable {w : World} {mg mb : Str → Option Value} {H : Heap} {K : Kn} {n : Nat} {L : Addr} {bs : Bs} {own : Owns} {env : Env}
/-- several owned things turn, where no tuple is told of -/
theorem St.mutN {s : Shared} {pre pre' rest : Owns} (S : St H K L bs (pre ++ rest) s) {h' : Heap} {t : Nat} (hn : NoT rest) (ha : Mine.ads pre' = Mine.ads pre) (hk : ∀ c o, c ∉ Mine.ads pre → s.heap.get? c = some o → h'.get? c = some o) (hp : ∀ p ∈ pre', p.2.At h' p.1) :
    St H K L bs (pre' ++ rest) { s with heap := h', toks := t } := by
  have nd := S.nd
  have nd' := nd
  rw [ads_app, List.nodup_cons, List.nodup_append] at nd
  obtain ⟨nL, nd1, nd2, nd3⟩ := nd
  refine ⟨S.rest, fun b o e => hk b o (fun hb => ?_) (S.keep b o e), ?_, fun p hp' => ?_, by rw [ads_app, ha, ← ads_app]; exact nd', by rw [ads_app, ha, ← ads_app]; exact S.fresh⟩
  · rw [S.fresh b (List.mem_cons_of_mem _ (by rw [ads_app]; exact List.mem_append_left _ hb))] at e; cases e
  · obtain ⟨m, hm, y⟩ := S.loc
    exact ⟨m, hm.at' fun o e => hk _ o (fun hb => nL (List.mem_append_left _ hb)) e, y⟩
  · rcases List.mem_append.mp hp' with hp' | hp'
    · exact hp p hp'
    · refine (S.has p (List.mem_append_right _ hp')).keepN (hn p hp') fun o e => hk _ o (fun hb => ?_) e
      exact nd3 p.1 hb p.1 (ads_mem hp' (by rw [(hn p hp').ads]; exact .head _)) rfl
noncomputable def ZipO (TI TO : Addr) (o : Obj) : Prop := o = { cls := .type "zip", dict := none, data := .fields #[.none, .bool false, .bool false, .ref TI, .ref TO], slots := #[] }
noncomputable def TwoO (a b : Value) (o : Obj) : Prop := o = { cls := .type "tuple", data := .seq #[a, b] }
noncomputable def AnyTwo (o : Obj) : Prop := ∃ a b, TwoO a b o
noncomputable def zst (z TI TO i1 i2 : Addr) (x y : List Nat) (k : Nat) : Owns := [(z, .raw (ZipO TI TO)), (TO, .raw AnyTwo), (i1, .raw (StrIt (T x) k)), (i2, .raw (StrIt (T y) k)), (TI, .raw (TwoO (.ref i1) (.ref i2)))]
theorem zst_at {z TI TO i1 i2 : Addr} {x y : List Nat} {k : Nat} {rest : Owns} {s : Shared} (S : St H K L bs (zst z TI TO i1 i2 x y k ++ rest) s) :
    IsZip s.heap z TI TO .none ∧ IsPair s.heap TI (.ref i1) (.ref i2) ∧ (∃ a b, IsPair s.heap TO a b) ∧ StrAt s.heap i1 x k ∧ StrAt s.heap i2 y k ∧ ZApart z TI TO i1 i2 ∧ TI ≠ z ∧ TI ≠ TO ∧ TI ≠ i1 ∧ TI ≠ i2 := by
  obtain ⟨o1, e1, rfl⟩ := S.has _ (.head _)
  obtain ⟨o2, e2, a, b, rfl⟩ := S.has _ (.tail _ (.head _))
  obtain ⟨o5, e5, rfl⟩ := S.has _ (.tail _ (.tail _ (.tail _ (.tail _ (.head _)))))
  have nd := (List.nodup_cons.mp S.nd).2
  rw [ads_app] at nd
  have nd1 : [z, TO, i1, i2, TI].Nodup := (List.nodup_append.mp nd).1
  simp only [List.nodup_cons, List.mem_cons, List.not_mem_nil, or_false, not_or, List.nodup_nil, not_false_eq_true, and_true] at nd1
  obtain ⟨⟨n1, n2, n3, n4⟩, ⟨n5, n6, n7⟩, ⟨n8, n9⟩, n10⟩ := nd1
  exact ⟨e1, e5, ⟨a, b, e2⟩, S.has _ (.tail _ (.tail _ (.head _))), S.has _ (.tail _ (.tail _ (.tail _ (.head _)))), ⟨Ne.symm n1, Ne.symm n2, Ne.symm n3, n5, n6, n8⟩, Ne.symm n4, Ne.symm n7, Ne.symm n9, Ne.symm n10⟩
theorem zst_ads {z TI TO i1 i2 : Addr} {x y : List Nat} {k : Nat} : Mine.ads (zst z TI TO i1 i2 x y k) = [z, TO, i1, i2, TI] := rfl
theorem iter_zip {z TI TO i1 i2 : Addr} {elts : List Expr} {x1 : Nat} {pos : Pos} (x y : List Nat) (hxy : y.length < x.length) :
    Iter w H K (.Tuple elts x1 pos) z y.length (fun k => zst z TI TO i1 i2 x y k) NoT (fun k f ex => ∃ t c d, x[k]? = some c ∧ y[k]? = some d ∧ f = .ref t ∧ ex = [(t, .tup [.str (T [c]), .str (T [d])])]) where
  next := fun k L bs rest A s Q hk hh S hnt q => by
    obtain ⟨hz, hTI, ⟨a, b, hTO⟩, h1, h2, D, d1, d2, d3, d4⟩ := zst_at S
    have hx : x[k]? = some x[k] := List.getElem?_eq_getElem (by omega)
    have hy : y[k]? = some y[k] := List.getElem?_eq_getElem hk
    have hT : s.TypeIs (.ref z) "zip" := ⟨_, hz, rfl⟩
    unfold pyNext
    refine wpAny_bind (wpAny_attempt (wpAny_callSpecial?_slot (name := Str.ofString "__next__") hT F.slot_zip_next
      (wpAny_call_entry F.slot_zip_next hT F.entry_zip_next
        (zip_item D hz hTI hTO h1 h2 hx hy fun h' u v t hu hv hz' hTO' h1' h2' hT' hk' => wpAny_pure ?_) (F.args_zip_next_1 _))))
    refine wpAny_letOwnedTupleGo_zip hz' fun h₂ hz₂ hs₂ => ?_
    have up : ∀ c o, c ≠ z → h'.get? c = some o → h₂.get? c = some o := fun c o hc e => hs₂.extBut _ _ hc e
    have hTI₂ : h₂.get? TI = some { cls := .type "tuple", data := .seq #[.ref i1, .ref i2] } := up _ _ d1 (hk' _ _ d1 d2 d3 d4 hTI)
    have S' : St H K L bs (zst z TI TO i1 i2 x y (k + 1) ++ rest) { s with heap := h₂, toks := t } := by
      refine St.mutN (pre := zst z TI TO i1 i2 x y k) S hnt rfl (fun c o hc e => ?_) (fun p hp => ?_)
      · rw [zst_ads] at hc
        simp only [List.mem_cons, List.not_mem_nil, or_false, not_or] at hc
        exact up _ _ hc.1 (hk' _ _ hc.1 hc.2.1 hc.2.2.1 hc.2.2.2.1 e)
      · simp only [zst, List.mem_cons, List.not_mem_nil, or_false] at hp
        rcases hp with rfl | rfl | rfl | rfl | rfl
        · exact ⟨_, hz₂, rfl⟩
        · exact ⟨_, up _ _ D.TOz hTO', u, v, rfl⟩
        · exact h1'.up fun o e => up _ _ D.i1z e
        · exact h2'.up fun o e => up _ _ D.i2z e
        · exact ⟨_, hTI₂, rfl⟩
    have hzl : z ≠ s.heap.objs.size := Nat.ne_of_lt (Heap.lt_size hz)
    exact q _ _ _ _ ⟨s.heap.objs.size, _, _, hx, hy, rfl, rfl⟩ rfl (S'.tup ⟨_, up _ _ hzl.symm hT', .cons hu (.cons hv .nil)⟩)
  done := fun L bs rest A s Q hh S hnt q => by
    obtain ⟨hz, hTI, ⟨a, b, hTO⟩, h1, h2, D, d1, d2, d3, d4⟩ := zst_at S
    have hx : x[y.length]? = some x[y.length] := List.getElem?_eq_getElem hxy
    have hT : s.TypeIs (.ref z) "zip" := ⟨_, hz, rfl⟩
    unfold pyNext
    refine wpAny_bind (wpAny_attempt (wpAny_callSpecial?_slot (name := Str.ofString "__next__") hT F.slot_zip_next
      (wpAny_call_entry F.slot_zip_next hT F.entry_zip_next (zip_end hh D hz hTI hTO h1 h2 hx (by simp) fun h' e t hk he => ?_) (F.args_zip_next_1 _))))
    obtain ⟨o, ho, hc⟩ := he
    refine wpAny_bind (wpAny_isInstance (T := "StopIteration") (b := true) ⟨o, ho, hc⟩ isSubtype_stop ?_)
    refine wpAny_pure ⟨rfl, q _ ?_⟩
    have nd := S.nd
    rw [ads_app, List.nodup_cons, List.nodup_append] at nd
    obtain ⟨nL, nd1, nd2, nd3⟩ := nd
    have hk2 : ∀ c o, c ∉ Mine.ads (zst z TI TO i1 i2 x y y.length) → s.heap.get? c = some o → h'.get? c = some o := fun c o hc e => by
      rw [zst_ads] at hc
      simp only [List.mem_cons, List.not_mem_nil, or_false, not_or] at hc
      exact hk _ _ hc.1 hc.2.1 hc.2.2.1 hc.2.2.2.1 e
    refine ⟨S.rest, fun b o e => hk2 b o (fun hb => ?_) (S.keep b o e), ?_, fun p hp' => ?_, List.nodup_cons.mpr ⟨fun h => nL (List.mem_append_right _ h), nd2⟩, fun a ha => S.fresh a ?_⟩
    · rw [S.fresh b (List.mem_cons_of_mem _ (by rw [ads_app]; exact List.mem_append_left _ hb))] at e; cases e
    · obtain ⟨m, hm, y⟩ := S.loc
      exact ⟨m, hm.at' fun o e => hk2 _ o (fun hb => nL (List.mem_append_left _ hb)) e, y⟩
    · refine (S.has p (List.mem_append_right _ hp')).keepN (hnt p hp') fun o e => hk2 _ o (fun hb => ?_) e
      exact nd3 p.1 hb p.1 (ads_mem hp' (by rw [(hnt p hp').ads]; exact .head _)) rfl
    · rw [ads_app]
      rcases List.mem_cons.mp ha with rfl | ha
      · exact .head _
      · exact List.mem_cons_of_mem _ (List.mem_append_right _ ha)
  self := fun L bs rest A s Q S q => by
    obtain ⟨hz, -⟩ := zst_at S
    exact wpAny_pyIter_zip hz q
theorem zip_ {v u : Value} {x y : List Nat} {R : Fv → Owns → Prop} (hv : FIs v (.str (T x))) (hu : FIs u (.str (T y))) (h : ∀ z TI TO i1 i2, R (.ref z) (zst z TI TO i1 i2 x y 0 ++ own)) :
    Tv w H K n L bs own (call (.type "zip") [v, u]) R := fun A s Q r S q => by
  obtain ⟨t, rfl⟩ := hv
  obtain ⟨t', rfl⟩ := hu
  refine callType_new F.called_zip (by decide) (F.typeCall_zip_2 _ _) (F.newCall_zip_2 _ _) (fun obj => F.args_object_init_3 obj _ _) F.entry_zip_new (meets_zip_newS (T x) (T y) t t') ?_
  have S1 := S.push (o := siO (T x) t) (t := s.toks) (w := .raw (StrIt (T x) 0)) ⟨_, Heap.get?_push_size _ rfl, t, rfl, rfl⟩
  have S2 := S1.push (o := siO (T y) t') (t := s.toks) (w := .raw (StrIt (T y) 0)) ⟨_, Heap.get?_push_size _ rfl, t', rfl, rfl⟩
  have S3 := S2.push (o := { cls := .type "tuple", data := .seq #[.ref s.heap.objs.size, .ref (zh1 s.heap (T x) t).objs.size] }) (t := s.toks) (w := .raw (TwoO (.ref s.heap.objs.size) (.ref (zh1 s.heap (T x) t).objs.size))) ⟨_, Heap.get?_push_size _ rfl, rfl⟩
  have S4 := S3.push (o := { cls := .type "tuple", data := .seq #[.none, .none] }) (t := s.toks) (w := .raw AnyTwo) ⟨_, Heap.get?_push_size _ rfl, _, _, rfl⟩
  have S5 := S4.push (o := { cls := .type "zip", data := .fields #[.none, .bool false, .bool false, .ref (zh2 s.heap (T x) (T y) t t').objs.size, .ref (zh3 s.heap (T x) (T y) t t').objs.size] }) (t := s.toks)
    (w := .raw (ZipO (zh2 s.heap (T x) (T y) t t').objs.size (zh3 s.heap (T x) (T y) t t').objs.size)) ⟨_, Heap.get?_push_size _ rfl, rfl⟩
  refine ⟨⟨_, Heap.get?_push_size _ rfl, rfl⟩, q _ _ _ _ (h _ (zh2 s.heap (T x) (T y) t t').objs.size (zh3 s.heap (T x) (T y) t t').objs.size s.heap.objs.size (zh1 s.heap (T x) t).objs.size) rfl ?_⟩
  refine S5.perm ?_
  refine List.Perm.cons _ (List.Perm.cons _ ?_)
  refine (List.Perm.cons _ (List.Perm.swap ..)).trans ((List.Perm.swap ..).trans (List.Perm.cons _ (List.Perm.swap ..)))
end
end Mine
end
section
open PySem.Calls
open AutoSeq1 (wpAny_loadPart')
namespace Mine
section
variable {w : World} {mg mb : Str → Option Value} {H : Heap} {K : Kn} {n : Nat} {L : Addr} {bs : Bs} {own : Owns} {env : Env}
theorem lookup_setB2 (x y : Str) (f g : Fv) (b : Bs) (h : (x == y) = false) : (setB y g (setB x f b)).lookup x = some f := by
  have hne : x ≠ y := fun e => by rw [e] at h; simp at h
  rw [lookup_setB, if_neg hne, lookup_setB, if_pos rfl]
/-- .. over zip of two texts -/
theorem Tv.comp_z {x y : Str} {px py pt : Pos} {kt : Nat} {elt iter : Expr} {ifs : List Expr} {scope : Scope} {pos : Pos} {cl : List (Str × Addr)} {R : Fv → Owns → Prop}
    (h : Tv w H K n env.locals bs own (eval iter env) fun f o₁ => ∃ z TI TO i1 i2 rest, ∃ a b : List Nat, ∃ p : Nat × Nat → Bool, ∃ F : Nat × Nat → Fv, f = .ref z ∧ o₁ = zst z TI TO i1 i2 a b 0 ++ rest ∧ b.length < a.length ∧ b.length ≤ 100000 ∧ NoT rest ∧
      (∀ c ∈ a.zip b, Body w H K n (fun C => compEnvC scope cl C env) ifs elt rest (fun bb => bb.lookup x = some (.str (T [c.1])) ∧ bb.lookup y = some (.str (T [c.2]))) (p c) (F c)) ∧ ∀ D, R (.ref D) ((D, .list (((a.zip b).filter p).map F)) :: rest))
    (hxy : (x == y) = false := by decide)
    (hx : ∀ C, (compEnvC scope cl C env).kindOf x = some .local := by intro _; rfl) (hy : ∀ C, (compEnvC scope cl C env).kindOf y = some .local := by intro _; rfl)
    (hclos : closureFor scope env = Pure.pure cl := by rfl) (hcell : ∀ y ∈ scope.names, y.2 ≠ .cell := by decide +kernel) (hkind : scope.kind = .function := by rfl)
    (hnames : ∀ y ∈ scope.names, y.2 = .local → scope.names.lookup y.1 = some .local := by decide +kernel)
    (hs : ∀ x, foldedSetIterable iter env x = Pure.pure x := by intro _; rfl) :
    Tv w H K n env.locals bs own (eval (.ListComp elt [⟨.Tuple [.Name x px, .Name y py] kt pt, iter, ifs, 0⟩] scope pos) env) R := by
  refine Tv.compG (α := Nat × Nat) (h.mono fun f o₁ y' v hv => ?_) hclos hcell hkind hnames hs
  obtain ⟨z, TI, TO, i1, i2, rest, a, b, p, F, rfl, rfl, hab, hz, hnt, body, fin⟩ := y'
  obtain rfl := hv
  intro A s Q r S q
  obtain ⟨hzz, -⟩ := zst_at S
  have hlen : (a.zip b).length = b.length := by rw [List.length_zip]; omega
  refine wpAny_pyIter_zip hzz (q _ _ _ _ ⟨z, _, NoT, _, rest, a.zip b, p, F, fun c bb => bb.lookup x = some (.str (T [c.1])) ∧ bb.lookup y = some (.str (T [c.2])), rfl, rfl, by rw [hlen]; exact iter_zip a b hab, fun D ys q hq => ?_, by rw [hlen]; exact hz, ?_, body, fin⟩ rfl S)
  · rcases List.mem_cons.mp hq with rfl | hq
    · exact trivial
    · rcases List.mem_cons.mp hq with rfl | hq
      · exact trivial
      · exact hnt q hq
  · rintro C bb o v f ex k c hc ⟨t, c1, d1, h1, h2, rfl, rfl⟩ hv
    obtain rfl := hv
    have : c = (c1, d1) := by
      rw [List.getElem?_zip_eq_some] at hc
      obtain ⟨e1, e2⟩ := hc
      rw [h1] at e1
      rw [h2] at e2
      cases e1; cases e2; rfl
    subst this
    exact Tu.tup2 (env := compEnvC scope cl C env) (hx C) (hy C) (.head _) ⟨⟨lookup_setB2 _ _ _ _ _ hxy, (lookup_setB ..).trans (if_pos rfl)⟩, Sub.skip Sub.refl⟩ (hpC hkind)
/-- a name of a cell is given -/
theorem Tu.cellName {i : Nat} {x : Str} {c : Addr} {v : Value} {f : Fv} {g : Option Fv} {pos : Pos} {R : Bs → Owns → Prop} (hl : env.kindOf x = some .cell) (hc : env.cells.lookup x = some c) (e : own[i]? = some (c, .cell g)) (hv : FIs v f) (h : R bs (own.set i (c, .cell (some f))))
    (hk : env.scope.kind = .function := by rfl) : Tu w H K n L bs own (PySem.assign (.Name x pos) env v) R := fun A s Q r S q => by
  have hc' : ∃ v₀, s.heap.IsCell c v₀ := by
    rcases S.has _ (List.mem_of_getElem? e) with ⟨o, eo, ed, _⟩ | ⟨o, u, g', eo, ed, _, _⟩
    · exact ⟨_, o, eo, ed⟩
    · exact ⟨_, o, eo, ed⟩
  obtain ⟨v₀, hv₀⟩ := hc'
  refine wpAny_assign_Name (wpAny_storeName_cell hk hl hc hv₀ fun h' hc'' hs => q _ _ _ h ?_)
  obtain ⟨o₀, eo₀, ed₀⟩ := hv₀
  obtain ⟨o, eo, ed⟩ := hc''
  exact S.mut (i := i) (a := c) (w := .cell g) (w' := .cell (some f)) e (t := s.toks) ⟨(fun o' e' q => by rw [eo₀] at e'; cases e'; obtain ⟨_, vs, m, q⟩ := q; rw [ed₀] at q; cases q), hs.extBut⟩ (.inr ⟨o, v, f, eo, ed, rfl, hv⟩) (n2 := rfl)
theorem newEnv_cell {A : Around} {s : Shared} {E : Value → Shared → Prop} {scope : Scope} {cl : List (Str × Addr)} {x : Str} {Q : Env → Shared → Prop} (hcf : ∀ n, cellsFrom n scope.names cl = (x, n) :: cl) (hpc : ∀ h, pushCells h scope.names = h.push { cls := .type "cell", data := .cell Option.none })
    (q : Q { scope, locals := s.heap.objs.size, globals := env.globals, cells := (x, s.heap.objs.size + 1) :: cl, qual := env.qual, func := Option.none, code := env.code, frame := env.frame, builtins := env.builtins }
      { s with heap := (s.heap.push { cls := .type "dict", data := .dict #[] }).push { cls := .type "cell", data := .cell Option.none } }) :
    PySem.wpAny (model pw w) A (newFunctionEnv scope env.globals cl [] env.qual Option.none .none (some env)) Q E s := by
  simp only [newFunctionEnv, Option.isSome_some, if_true]
  refine wpAny_bind (wpAny_alloc ?_)
  refine wpAny_bind (wpAny_layCells _ (fun name kind cells => by cases hkc : kind == NameKind.cell <;> simp [hkc]) _ _ _ _ ?_)
  rw [hcf, hpc]
  rw [show ({ s with heap := s.heap.push { cls := .type "dict", data := .dict #[] } } : Shared).heap.objs.size = s.heap.objs.size + 1 from Heap.size_push ..]
  exact wpAny_bind (wpAny_pure (wpAny_pure q))
noncomputable def compEnvW (scope : Scope) (cl : List (Str × Addr)) (x : Str) (cw C : Addr) (env : Env) : Env := { compEnvC scope cl C env with cells := (x, cw) :: cl }
end
end Mine
end
section
open PySem.Calls
open AutoSeq1 (wpAny_loadPart')
namespace Mine
noncomputable def AccAt (h : Heap) (x : Addr) (items : Array Value) : Prop := ∃ d k, h.get? x = some (accO d items k)
theorem AccAt.up {h h' : Heap} {x : Addr} {items : Array Value} (a : AccAt h x items) (k : ∀ o, h.get? x = some o → h'.get? x = some o) : AccAt h' x items := let ⟨d, n, e⟩ := a; ⟨d, n, k _ e⟩
theorem walksAcc {prog : Program} {w : World} {A : Around} (hh : A.handled = none) (I ax : Addr) (hne : ax ≠ I) (items : Array Value) (Ts : Nat → Addr) (vals : Nat → Array Value)
    (hit : ∀ j, j < items.size → items[j]? = some (.ref (Ts j))) (hTI : ∀ j, j < items.size → Ts j ≠ I) :
    WalksU prog w A I (I :: ax :: (List.range items.size).map Ts) [I] items.size (fun j v => v = vals j ∧ j < items.size)
      (fun j h => h.IsListIter I ax j ∧ AccAt h ax items ∧ ∀ k, k < items.size → h.IsTuple (Ts k) (vals k))
      (fun j T h => (j < items.size ∧ T = Ts j) ∧ h.IsListIter I ax (j + 1) ∧ AccAt h ax items ∧ ∀ k, k < items.size → h.IsTuple (Ts k) (vals k)) where
  sub := fun b hb => by simp at hb; simp [hb]
  frame := fun _ _ _ st hk => ⟨st.1.at fun o e => hk I (by simp) o e, st.2.1.up fun o e => hk ax (by simp) o e,
    fun k hk' => (st.2.2 k hk').at fun o e => hk (Ts k) (List.mem_cons_of_mem _ (List.mem_cons_of_mem _ (List.mem_map.mpr ⟨k, List.mem_range.mpr hk', rfl⟩))) o e⟩
  item := fun i s Q E hi st hQ => by
    obtain ⟨d, k, e⟩ := st.2.1
    refine seq_next st.1 e rfl (x := .ref (Ts i)) (hit i hi) fun h' hit' hs' => ?_
    have tup : ∀ k, k < items.size → h'.IsTuple (Ts k) (vals k) := fun k hk' => (st.2.2 k hk').extBut hs'.extBut (hTI k hk')
    exact hQ (Ts i) (vals i) h' s.toks ⟨rfl, hi⟩ (tup i hi) ⟨⟨hi, rfl⟩, hit', st.2.1.up fun o e => hs'.extBut _ _ hne e, tup⟩ fun b o hb e => hs'.extBut b o (fun h => hb (by simp [h])) e
  go := fun _ _ _ _ _ s Q _ hm hQ => wpAny_letOwnedTupleGo_listiter hm.2.1 (hQ s.heap hm.2 fun _ _ _ e => e)
  apart := fun j T _ hm hmem => by
    rcases List.mem_cons.mp hmem with e | e
    · exact hTI j hm.1.1 (hm.1.2 ▸ e)
    · cases e
  done := fun s Q E st hQ => by
    obtain ⟨d, k, e⟩ := st.2.1
    exact seq_end hh st.1 e rfl (by simp) fun h' he' => hQ h' s.toks fun b o hb e => he' b o (fun h => hb (by simp [h])) e
  self := fun _ _ _ _ st hQ => wpAny_pyIter_listiter st.1 hQ
/-- a walk with one thing ahead, already gone -/
theorem walksShift {prog : Program} {w : World} {A : Around} {I : Addr} {fp wr : List Addr} {G : Array GenState → Array GenState → Prop} {n : Nat} {P : Nat → Value → Prop} {St : Nat → Shared → Prop} (W : WalksS prog w A I fp wr G n P St) :
    WalksS prog w A I fp wr G (n + 1) (fun i v => match i with | 0 => False | i + 1 => P i v) (fun i s => match i with | 0 => False | i + 1 => St i s) where
  sub := W.sub
  grefl := W.grefl
  gtrans := W.gtrans
  frame := fun i s h' tk st ht hk => by
    cases i with
    | zero => exact st.elim
    | succ i => exact W.frame i s h' tk st ht hk
  item := fun i s Q E hi st hQ => by
    cases i with
    | zero => exact st.elim
    | succ i => exact W.item i s Q E (by omega) st fun v s' hP hS hM => hQ v s' hP hS hM
  done := fun s Q E st hQ => W.done s Q E st hQ
  self := fun i s Q E st hQ => by
    cases i with
    | zero => exact st.elim
    | succ i => exact W.self i s Q E st hQ
theorem args_sum2 (a b : Value) : argsOk "sum" ⟨[a, b], []⟩ := by unfold argsOk; kernel_rfl
theorem preSum_shift (z : Int) (val : Nat → Int) : ∀ n, preSum (fun i => match i with | 0 => z | i + 1 => val i) (n + 1) = z + preSum val n := by
  intro n
  induction n with
  | zero => show preSum _ 0 + z = z + preSum val 0; simp [preSum]
  | succ n ih =>
    show preSum _ (n + 1) + val n = z + (preSum val n + val n)
    rw [ih]; omega
section
variable {prog : Program} {w : World} {A : Around} {E : Value → Shared → Prop} {s : Shared}
theorem call_sum_start {x : Value} {z : Int} {tz : Tok} {Q : Value → Shared → Prop} 
    (h : wpAny (model prog w) A.in1 (pyIter x) (fun it s₂ => ∃ I fp wr G n P St val, it = .ref I ∧ WalksS prog w A.in1 I fp wr G n P St ∧ St 0 s₂ ∧ (∀ b ∈ fp, b < s₂.heap.objs.size) ∧
      (∀ i v, P i v → ∃ t, v = .int (val i) t) ∧
      ∀ s' t', Moved wr G s₂ s' → Q (.int (z + preSum val n) t') s') E s) :
    wpAny (model prog w) A (call (.builtin "sum") [x, .int z tz]) Q E s := by
  refine call_function_tree F.kind_sum F.plain_sum F.entry_sum (args_sum2 _ _) ?_
  unfold Builtin.«sum»
  simp only [List.length_cons, List.length_nil]
  rw [if_neg (by decide)]
  refine wpAny_bind (wpAny_of_eq (show Builtin.Builtins.bindParams "sum" ["start"] 0 { pos := [.int z tz] } = pure [some (.int z tz)] from rfl) ?_)
  refine wpAny_bind (wpAny_mono h (fun it s₂ h₂ => ?_) fun _ _ e => e)
  obtain ⟨I, fp, wr, G, n, P, St, val, rfl, W, hst, hfp, hval, hQ⟩ := h₂
  have hSf : s₂.heap.objs.size ∉ fp := fun hm => Nat.lt_irrefl _ (hfp _ hm)
  dsimp only
  split
  · refine wpAny_bind (wpAny_rule (wpAny_bind (wpAny_mkInt ?_)))
    refine wpAny_bind (wpAny_pure ?_)
    simp only [List.forIn_cons, List.forIn_nil]
    refine wpAny_bind (wpAny_bind (wpAny_bind (wpAny_isInstance (T := "int") (b := false) (typeIs_int _ _ _) PySem.sub_int_str ?_)))
    simp only [Bool.false_eq_true, if_false]
    refine wpAny_pure (wpAny_bind (wpAny_bind (wpAny_isInstance (T := "int") (b := false) (typeIs_int _ _ _) PySem.sub_int_bytes ?_)))
    simp only [Bool.false_eq_true, if_false]
    refine wpAny_pure (wpAny_bind (wpAny_bind (wpAny_isInstance (T := "int") (b := false) (typeIs_int _ _ _) PySem.sub_int_bytearray ?_)))
    simp only [Bool.false_eq_true, if_false]
    refine wpAny_pure (wpAny_pure ?_)
    refine wpAny_bind (wpAny_newObj_type ?_)
    refine wpAny_pure ⟨plainId_quiet F.plain_sum_loop _, codeAny_sum_loopAnyS (walksShift W) (fun i => match i with | 0 => z | i + 1 => val i) (fun i v hP => by cases i with | zero => exact hP.elim | succ i => exact hval i v hP) s₂.heap.objs.size hSf n 1 _ s₂.toks 0 0 (.inl rfl) (by omega) (by omega)
      (W.frame 0 s₂ _ _ hst (by first | exact Nat.le_refl _ | exact Nat.le_succ _ | omega) fun b _ o e => Heap.get?_push_of_some _ e) ?_ fun s' t' hm => ?_⟩
    · rw [show preSum (fun i => match i with | 0 => z | i + 1 => val i) 1 = z from by rw [preSum_shift]; simp [preSum]]
      exact Heap.get?_push_size _ rfl
    · rw [preSum_shift]
      exact hQ s' t' (hm.drop_new (by first | exact Nat.le_refl _ | exact Nat.le_succ _ | omega))
  · skip
    refine wpAny_bind (wpAny_pure ?_)
    simp only [List.forIn_cons, List.forIn_nil]
    refine wpAny_bind (wpAny_bind (wpAny_bind (wpAny_isInstance (T := "int") (b := false) (typeIs_int _ _ _) PySem.sub_int_str ?_)))
    simp only [Bool.false_eq_true, if_false]
    refine wpAny_pure (wpAny_bind (wpAny_bind (wpAny_isInstance (T := "int") (b := false) (typeIs_int _ _ _) PySem.sub_int_bytes ?_)))
    simp only [Bool.false_eq_true, if_false]
    refine wpAny_pure (wpAny_bind (wpAny_bind (wpAny_isInstance (T := "int") (b := false) (typeIs_int _ _ _) PySem.sub_int_bytearray ?_)))
    simp only [Bool.false_eq_true, if_false]
    refine wpAny_pure (wpAny_pure ?_)
    refine wpAny_bind (wpAny_newObj_type ?_)
    refine wpAny_pure ⟨plainId_quiet F.plain_sum_loop _, codeAny_sum_loopAnyS (walksShift W) (fun i => match i with | 0 => z | i + 1 => val i) (fun i v hP => by cases i with | zero => exact hP.elim | succ i => exact hval i v hP) s₂.heap.objs.size hSf n 1 _ tz 0 2 (.inr rfl) (by omega) (by omega)
      (W.frame 0 s₂ _ _ hst (by first | exact Nat.le_refl _ | exact Nat.le_succ _ | omega) fun b _ o e => Heap.get?_push_of_some _ e) ?_ fun s' t' hm => ?_⟩
    · rw [show preSum (fun i => match i with | 0 => z | i + 1 => val i) 1 = z from by rw [preSum_shift]; simp [preSum]]
      exact Heap.get?_push_size _ rfl
    · rw [preSum_shift]
      exact hQ s' t' (hm.drop_new (by first | exact Nat.le_refl _ | exact Nat.le_succ _ | omega))
end
end Mine
end
section
open PySem.Calls
open AutoSeq1 (wpAny_loadPart')
namespace Mine
section
variable {w : World} {mg mb : Str → Option Value} {H : Heap} {K : Kn} {n : Nat} {L : Addr} {bs : Bs} {own : Owns} {env : Env}
theorem TupIs.keepP {h h' : Heap} {a fs} {pre : List Addr} (x : TupIs h a fs) (hn : ∀ a ∈ pre, ∀ o, h.get? a = some o → ¬ IsTupO o) (hk : ∀ c o, c ∉ pre → h.get? c = some o → h'.get? c = some o) : TupIs h' a fs := by
  obtain ⟨vs, e, f⟩ := x
  exact ⟨vs, hk _ _ (fun hb => hn _ hb _ e ⟨rfl, vs, 0, rfl⟩) e, f⟩
theorem PL.keepP {h h' : Heap} {vs ps} {pre : List Addr} (x : PL h vs ps) (hn : ∀ a ∈ pre, ∀ o, h.get? a = some o → ¬ IsTupO o) (hk : ∀ c o, c ∉ pre → h.get? c = some o → h'.get? c = some o) : PL h' vs ps := by
  induction x with
  | nil => exact .nil
  | cons a _ ih => exact .cons (let ⟨t, e, y⟩ := a; ⟨t, e, y.keepP hn hk⟩) ih
theorem Own.At.keepP {h h' : Heap} {a} {w : Own} {pre : List Addr} (x : w.At h a) (hn : ∀ a ∈ pre, ∀ o, h.get? a = some o → ¬ IsTupO o) (hk : ∀ c o, c ∉ pre → h.get? c = some o → h'.get? c = some o) (hd : ∀ b ∈ w.ads a, b ∉ pre) : w.At h' a := by
  cases w with
  | list => obtain ⟨vs, n, e, f⟩ := x; exact ⟨vs, n, hk _ _ (hd _ (.head _)) e, f⟩
  | tup => exact TupIs.keepP x hn hk
  | acc =>
    obtain ⟨⟨vs, n, e, f⟩, t, g⟩ := x
    exact ⟨⟨vs, n, hk _ _ (hd _ (.head _)) e, f.keepP hn hk⟩, t, g.at' fun o e => hk _ _ (hd _ (.tail _ (.head _))) e⟩
  | ns => obtain ⟨m, n, y⟩ := x; exact ⟨m, n.at' fun o e => hk _ _ (hd _ (.head _)) e, y⟩
  | cell => rcases x with ⟨o, e, f, g⟩ | ⟨o, v, g, e, f, r⟩
            · exact .inl ⟨o, hk _ _ (hd _ (.head _)) e, f, g⟩
            · exact .inr ⟨o, v, g, hk _ _ (hd _ (.head _)) e, f, r⟩
  | raw => obtain ⟨o, e, f⟩ := x; exact ⟨o, hk _ _ (hd _ (.head _)) e, f⟩
/-- some owned things go, whatever became of them -/
theorem St.dropP {s s' : Shared} {pre rest : Owns} (S : St H K L bs (pre ++ rest) s) (hn : ∀ a ∈ Mine.ads pre, ∀ o, s.heap.get? a = some o → ¬ IsTupO o) (hk : ∀ c o, c ∉ Mine.ads pre → s.heap.get? c = some o → s'.heap.get? c = some o) (hg : AllBare s'.gens) (ho : s'.os = s.os) :
    St H K L bs rest s' := by
  have nd := S.nd
  rw [ads_app, List.nodup_cons, List.nodup_append] at nd
  obtain ⟨nL, nd1, nd2, nd3⟩ := nd
  refine ⟨⟨hg, ho.trans S.rest.2⟩, fun b o e => hk b o (fun hb => ?_) (S.keep b o e), ?_, fun p hp' => ?_, List.nodup_cons.mpr ⟨fun h => nL (List.mem_append_right _ h), nd2⟩, fun a ha => S.fresh a ?_⟩
  · rw [S.fresh b (List.mem_cons_of_mem _ (by rw [ads_app]; exact List.mem_append_left _ hb))] at e; cases e
  · obtain ⟨m, hm, y⟩ := S.loc
    exact ⟨m, hm.at' fun o e => hk _ o (fun hb => nL (List.mem_append_left _ hb)) e, y⟩
  · exact (S.has p (List.mem_append_right _ hp')).keepP hn hk fun b hb hbp => nd3 b hbp b (ads_mem hp' hb) rfl
  · rw [ads_app]
    rcases List.mem_cons.mp ha with rfl | ha
    · exact .head _
    · exact List.mem_cons_of_mem _ (List.mem_append_right _ ha)
/-- a table of codes -/
noncomputable def TabO (o : Obj) : Prop := ∃ ps : Array Value, o = { cls := .none, data := .fields ps } ∧ TriplesOk ps.toList
theorem nt_tab : ∀ o, TabO o → ¬ IsTupO o := fun o ⟨ps, h, _⟩ ⟨_, vs, n, hd'⟩ => by rw [h] at hd'; cases hd'
/-- the code of a generator expression, the table told of -/
theorem genCodeT {M : Model} {A : Around} {E : Value → Shared → Prop} {s : Shared} {env : Env} {c P : Addr} {ps : Array Value} {pos : Pos} {qualname : Str} {scope : Scope} {Q : Value → Shared → Prop} (hc : env.code = .ref c) (hok : s.heap.IsCode c P ps) (htab : s.heap.TableAt c P ps)
    (hQ : ∀ code h' tk ps', Heap.ExtBut P s.heap h' → h'.IsCode c P ps' → h'.TableAt c P ps' → Q code { s with heap := h', toks := tk }) : PySem.wpAny M A (genexprCode env pos qualname scope) Q E s := by
  cases h : codeAmong pos ps.toList with
  | some v => exact wpAny_genexprCode_hit hc hok h (hQ v s.heap s.toks ps (Heap.ExtBut.refl _ _) hok htab)
  | none => exact wpAny_genexprCodeX hc hok htab h fun c' h' tk hx _ _ hok' _ htab' _ => hQ _ _ _ _ hx hok' htab'
noncomputable def tsOf (vs : List Value) (j : Nat) : Addr := match vs[j]? with
  | some (.ref t) => t
  | _ => 0
noncomputable def valsOf (h : Heap) (vs : List Value) (j : Nat) : Array Value := match h.get? (tsOf vs j) with
  | some o => match o.data with | .seq xs _ => xs | _ => #[]
  | none => #[]
theorem PL.at {h : Heap} {vs : List Value} {ps : List (Str × Str)} (x : PL h vs ps) {j : Nat} {p : Str × Str} (hp : ps[j]? = some p) : vs[j]? = some (.ref (tsOf vs j)) ∧ h.get? (tsOf vs j) = some { cls := .type "tuple", data := .seq (valsOf h vs j) } ∧ ∃ a b, valsOf h vs j = #[.str p.1 a, .str p.2 b] := by
  obtain ⟨v, hv, t, rfl, us, e, f⟩ := x.get hp
  have et : tsOf vs j = t := by unfold tsOf; rw [hv]
  obtain ⟨a, b, eab, ha, hb⟩ := f.two
  have ev : valsOf h vs j = us := by unfold valsOf; rw [et, e]
  rw [et, ev]
  obtain ⟨ta, rfl⟩ := ha
  obtain ⟨tb, rfl⟩ := hb
  exact ⟨hv, e, ta, tb, by rw [← Array.toList_inj]; exact eab⟩
theorem PL.len {h : Heap} {vs : List Value} {ps : List (Str × Str)} (x : PL h vs ps) : vs.length = ps.length := by
  induction x with
  | nil => rfl
  | cons _ _ ih => simp [ih]
end
end Mine
end
section
open PySem.Calls
open AutoSeq1 (wpAny_loadPart')
namespace Mine
section
variable {w : World} {mg mb : Str → Option Value} {H : Heap} {K : Kn} {n : Nat} {L : Addr} {bs : Bs} {own : Owns} {env : Env}
theorem passing_all (n : Nat) : passing (fun _ => true) n 0 = List.range n := by unfold passing; simp
/-- what comes of a generator expression over the accumulator -/
theorem genAcc {xa xb : Str} {px pa pb pt : Pos} {kt : Nat} {elt : Expr} {scope : Scope} {pos : Pos} {x d P c : Addr} {z : Int} {ps : List (Str × Str)} {F : Nat → Value → Prop} {A : Around} {s : Shared} {Q : Value → Shared → Prop}
    (BH : Base w mg mb H) (hh : A.handled = none) (hroom : A.depth < recursionLimit) (hps : ps.length ≤ 1000)
    (hcode : env.code = .ref c) (hC : ∀ (h : Heap) us, Ext H h → h.get? P = some { cls := .none, data := .fields us } → TriplesOk us.toList → h.IsCode c P us ∧ h.TableAt c P us)
    (hgl : env.globals = mainGlobals) (hclos : closureFor scope env = Pure.pure [])
    (hco : scope.isCoroutine = false) (hcell : ∀ y ∈ scope.names, y.2 ≠ .cell) (h0 : scope.names.lookup (".0" : Str) = some NameKind.local)
    (hxa : scope.names.lookup xa = some .local) (hxb : scope.names.lookup xb = some .local) (hab : xa ≠ xb) (hkind : scope.kind = .function)
    (hself : env.kindOf "self" = some .local) (hlook : bs.lookup (Str.ofString "self") = some (Fv.ref x)) (hk : env.scope.kind = .function)
    (S : St H K env.locals bs ((P, .raw TabO) :: (x, .acc d z ps) :: own) s)
    (helt : ∀ (C : Addr) (code : Value) (A' : Around) (E' : Value → Shared → Prop) (i : Nat) (va vb : Value) (p : Str × Str) (s₂ : Shared) (m₂ : Str → Option Value), ps[i]? = some p → (∃ t, va = .str p.1 t) → (∃ t, vb = .str p.2 t) → A'.handled = none →
      s₂.heap.Ns C m₂ → m₂ xa = some va → m₂ xb = some vb → Base w mg mb s₂.heap → PySem.wpAny (model pw w) A' (eval elt (genEnv scope [] C code builtinsNs env)) (fun y s₃ => F i y ∧ Keeps s₂ s₃) E' s₂)
    (q : ∀ (a : Addr) (s₅ : Shared) (fp wr : List Addr) (g : Nat) (ST : Nat → Shared → Prop), WalksS pw w A.in4 a fp wr (GenOnlyQ g) ps.length F ST → ST 0 s₅ → (∀ b ∈ fp, b < s₅.heap.objs.size) → a ∈ fp → (∀ i s', ST i s' → s'.TypeIs (.ref a) "generator") → AllBare s₅.gens → s₅.os = K →
      (∀ s₆, (∀ b o, s₅.heap.get? b = some o → s₆.heap.get? b = some o) → AllBare s₆.gens → s₆.os = K → ∀ s', Moved wr (GenOnlyQ g) s₆ s' → St H K env.locals bs ((P, .raw TabO) :: (x, .acc d z ps) :: own) s') → Q (.ref a) s₅)
    (hs : ∀ x, genFold (.Name "self" px) env x = Pure.pure x := by intro _; rfl) :
    PySem.wpAny (model pw w) A (eval (.GeneratorExp elt [⟨.Tuple [.Name xa pa, .Name xb pb] kt pt, .Name "self" px, [], 0⟩] scope pos) env) Q noE s := by
  refine wpAny_GeneratorExp_walksQTD hh hco hclos hcell h0 hxa hxb hab hkind hroom ?_ hs
  obtain ⟨m, hn, hm⟩ := S.loc
  obtain ⟨v, hv, hf⟩ := hm "self" _ hlook
  obtain rfl := hf
  refine wpAny_Name (wpAny_loadName_local hk hself hn hv ?_) (by decide)
  obtain ⟨⟨vs, k, ex, pl⟩, hI⟩ := S.has _ (.tail _ (.head _))
  refine pyIter_acc (BH.ext S.keep).frag ex ?_
  have S2 := S.push (o := { cls := .type "list_iterator", data := .fields #[.ref x, .int 0 0] }) (t := s.toks) (w := .raw (ListIt x 0)) ⟨_, Heap.get?_push_size _ rfl, rfl, rfl⟩
  generalize hI' : s.heap.objs.size = I at S2 ⊢
  refine ⟨BH.nl.keeps S2.keep, ?_⟩
  obtain ⟨op, eop, us, rfl, htr⟩ := S2.has _ (.tail _ (.head _))
  obtain ⟨hic, hit0⟩ := hC _ us S2.keep eop htr
  refine genCodeT hcode hic hit0 fun code h₃ tk₃ us' hx₃ hcode₃ htab₃ => ?_
  have S3 : St H K env.locals bs ((I, .raw (ListIt x 0)) :: (P, .raw TabO) :: (x, .acc d z ps) :: own) { s with heap := h₃, toks := tk₃ } := by
    obtain ⟨_, _, _, _, _, _, _, _, _, op', _, _, _, _, _, _, _, eop', hop', htr', _⟩ := hcode₃
    exact S2.mut (i := 1) (a := P) (w := .raw TabO) (w' := .raw TabO) rfl (t := tk₃) ⟨fun o e => by rw [eop] at e; cases e; exact nt_tab _ ⟨us, rfl, htr⟩, hx₃⟩ ⟨_, htab₃.2, us', rfl, htr'⟩ (n2 := rfl)
  clear hcode₃ htab₃ S2
  have B3 := BH.ext S3.keep
  refine wpAny_builtinsFor (m := mg) (by rw [hgl]; exact B3.g) (BH.mgs "__builtins__" (some (.ref 4)) (by kernel_rfl)) (by decide) (o := ⟨.type "module", some builtinsNs, .plain, #[]⟩) (B3.k 4 _ (by kernel_rfl) (by decide) (by decide)) rfl rfl rfl ?_
  obtain ⟨⟨vs3, k3, ex3, pl3⟩, -⟩ := S3.has _ (.tail _ (.tail _ (.head _)))
  obtain ⟨oI, eI, hit⟩ := S3.has _ (.head _)
  have hlen : vs3.size = ps.length := by rw [← Array.length_toList]; exact pl3.len
  have hat : ∀ j, j < vs3.size → ∃ p, ps[j]? = some p ∧ vs3.toList[j]? = some (.ref (tsOf vs3.toList j)) ∧ h₃.get? (tsOf vs3.toList j) = some { cls := .type "tuple", data := .seq (valsOf h₃ vs3.toList j) } ∧ ∃ a b, valsOf h₃ vs3.toList j = #[.str p.1 a, .str p.2 b] := fun j hj => by
    have hp : ps[j]? = some ps[j] := List.getElem?_eq_getElem (by omega)
    exact ⟨_, hp, pl3.at hp⟩
  have hxI : x ≠ I := by
    rintro rfl
    rw [show h₃.get? x = some oI from eI] at ex3
    cases ex3
    exact absurd hit.1 (by first | simp | (intro h; cases h))
  have hTI : ∀ j, j < vs3.size → tsOf vs3.toList j ≠ I := fun j hj e => by
    obtain ⟨p, _, _, e2, _⟩ := hat j hj
    rw [e, show h₃.get? I = some oI from eI] at e2
    cases e2
    exact absurd hit.1 (by first | simp | (intro h; cases h))
  have hcs : cStatics ≠ I := by
    obtain ⟨mc, ⟨o, es, ep, e, _⟩, _⟩ := BH.nl
    rintro rfl
    rw [S3.fresh _ (List.mem_cons_of_mem _ (by rw [ads_cons]; exact .head _))] at e
    cases e
  refine ⟨I, _, _, vs3.size, _, _, _, fun _ => true, F, rfl, fun A' hA' => walksAcc hA' I x hxI vs3 (tsOf vs3.toList) (valsOf h₃ vs3.toList) (fun j hj => by obtain ⟨p, _, e, _⟩ := hat j hj; rw [← Array.getElem?_toList]; exact e) hTI, ?_, ?_, ?_, B3.nl, by simpa using hcs, ?_, ?_⟩
  · rintro i vals ⟨rfl, hi⟩
    obtain ⟨p, _, _, _, a, b, e⟩ := hat i hi
    exact ⟨_, _, e⟩
  · exact ⟨⟨oI, eI, hit⟩, ⟨_, _, ex3⟩, fun j hj => by obtain ⟨p, _, _, e, _⟩ := hat j hj; exact ⟨_, e, rfl, _, rfl⟩⟩
  · intro b hb
    rcases List.mem_cons.mp hb with rfl | hb
    · exact Heap.lt_size eI
    · rcases List.mem_cons.mp hb with rfl | hb
      · exact Heap.lt_size ex3
      · obtain ⟨j, hj, rfl⟩ := List.mem_map.mp hb
        obtain ⟨p, _, _, e, _⟩ := hat j (List.mem_range.mp hj)
        exact Heap.lt_size e
  · intro href hhref
    have base : ∀ s₂ : Shared, (∀ b ∈ List.range h₃.objs.size, b ∉ [I] → ∀ o, href.get? b = some o → s₂.heap.get? b = some o) → Base w mg mb s₂.heap := fun s₂ hkp => BH.ext fun b o e => by
      have e3 := S3.keep b o e
      refine hkp b (List.mem_range.mpr (Heap.lt_size e3)) (fun hb => ?_) o (hhref b o e3)
      obtain rfl := List.mem_singleton.mp hb
      rw [S3.fresh _ (List.mem_cons_of_mem _ (by rw [ads_cons]; exact .head _))] at e
      cases e
    refine ⟨fun A' E' i va vb s₂ m₂ hA hD hU hP hns ha hb hkp => wpAny_tests_nil ⟨rfl, s₂.heap, s₂.toks, rfl, fun _ _ e => e⟩, fun A' E' i va vb s₂ m₂ hA hD hU hP _ hns ha hb hkp => ?_⟩
    obtain ⟨hP, hi⟩ := hP
    obtain ⟨p, hp, _, _, ta, tb, e⟩ := hat i hi
    rw [e] at hP
    have e1 : va = .str p.1 ta := by have := congrArg (fun v : Array Value => v[0]?) hP; simpa using this
    have e2 : vb = .str p.2 tb := by have := congrArg (fun v : Array Value => v[1]?) hP; simpa using this
    exact helt _ _ A' E' i va vb p s₂ m₂ hp ⟨_, e1⟩ ⟨_, e2⟩ hA hns ha hb (base s₂ hkp)
  · intro a h₅ tk gs hgb hag hsz₅ hk₅ W hat₀
    rw [passing_all, List.length_range, hlen] at W
    have W' : WalksS pw w A.in4 a (a :: h₃.objs.size :: List.range h₃.objs.size) (h₃.objs.size :: [I]) (GenOnlyQ s.gens.size) ps.length F (GenAt pw w A.in4 a s.gens.size h₃.objs.size (List.range h₃.objs.size) [I] (fun _ => true) ps.length F) := by
      refine { sub := W.sub, grefl := W.grefl, gtrans := W.gtrans, frame := W.frame, item := fun i s Q E hi st hQ => W.item i s Q E hi st fun v s' hP hS hM => hQ v s' ?_ hS hM, done := W.done, self := W.self }
      obtain ⟨j, hj, hF⟩ := hP
      rw [List.getElem?_range hi] at hj
      cases hj
      exact hF
    rw [hlen] at hat₀
    refine q a _ _ _ _ _ W' hat₀ ?_ (.head _) (fun i s' st => st.1.typeIs) (S3.rest.1.push hgb) S3.rest.2 ?_
    · intro b hb
      show b < h₅.objs.size
      rw [hsz₅]
      rcases List.mem_cons.mp hb with rfl | hb
      · exact Nat.lt_succ_self _
      · rcases List.mem_cons.mp hb with rfl | hb
        · exact Nat.lt_succ_of_lt hag
        · exact Nat.lt_succ_of_lt (Nat.lt_trans (List.mem_range.mp hb) hag)
    · intro s₆ h6 hg6 ho6 s' hM
      refine St.dropP (pre := [(I, .raw (ListIt x 0))]) S3 (fun b hb o e => ?_) (fun b o hb e => ?_) (hg6.movedS hM) (hM.os.trans (ho6.trans S3.rest.2.symm))
      · obtain rfl := List.mem_singleton.mp hb
        rw [show h₃.get? b = some oI from eI] at e
        cases e
        exact nt_list _ hit
      · refine hM.heap b o (fun hb' => ?_) (h6 b o (hk₅ b o e))
        rcases List.mem_cons.mp hb' with rfl | hb'
        · exact Nat.lt_irrefl _ (Heap.lt_size e)
        · exact hb hb'
end
end Mine
end
section
open PySem.Calls
open AutoSeq1 (wpAny_loadPart')
open Builtin.ObjectAttr
namespace Mine
theorem slot_lga : Slot "list" "__getattribute__" "list.__getattribute__" := F.slot_list_getattribute
theorem entry_lga : entryFor table "list.__getattribute__" = some Builtin.«object.__getattribute__» := am_entry_list_getattribute
theorem args_lga (a b : Value) : argsOk "list.__getattribute__" ⟨[a, b], []⟩ := F.args_list_getattribute_2 a b
theorem getAttr_init {w : World} {A : Around} {E : Value → Shared → Prop} {s : Shared} {P : Params} {x d : Addr} {items : Array Value} {k : Nat} {z : Int} {expr : Bool} {Q : Value → Shared → Prop}
    (X : (KB P).In s.heap) (hx : s.heap.get? x = some (accO d items k)) (hd : InitD s.heap d z) (h : ∀ t tz, s.toks ≤ t → Q (.int z tz) { s with toks := t }) :
    wpAny (model pw w) A (getAttr (.ref x) "_initial_size" expr) Q E s := by
  have hga : findIn (KB P) (.ref 101) "__getattribute__" = some (some (.builtin "list.__getattribute__")) := by kernel_rfl
  have hk : findIn (KB P) (.ref 101) "__getattr__" = some none := by kernel_rfl
  have ty : Looks (model pw w) s.heap (typeOf (.ref x)) (.ref 101) := (Looks.ld (part := none) hx).andThen .now
  have sub := acc_sub_list (M := model pw w) X
  obtain ⟨hh, g, dd, t, os⟩ := s
  unfold getAttr getAttrBy
  refine wpAny_bind (wpAny_mkText (wpAny_holding (wpAny_bind (ty.at (wpAny_bind ((looks_findIn X hga).at ?_))))))
  show wpAny _ _ (getAttrByItsOwn _ _ _ _ _ _) _ _ _
  unfold getAttrByItsOwn
  refine wpAny_bind ((looks_hook (mc := .ref 101) X (r := none) hk).at (wpAny_bind (wpAny_attempt (wpAny_holding ?_))))
  unfold callGetattribute
  rw [show (expr && onTheHeap (Value.builtin "list.__getattribute__")) = false from Bool.and_false _, if_neg (by decide)]
  unfold boundAndCalled
  rw [slot_lga.bind]
  refine wpAny_bind (wpAny_pure ?_)
  show wpAny _ _ (call (.builtin "list.__getattribute__") [.ref x, .str _ t]) _ _ _
  refine wpAny_call (codeAny_call_builtin slot_lga.plain entry_lga ?_)
  refine @check_slot (model pw w) _ _ ⟨hh, g, dd, t + 1, os⟩ "list.__getattribute__" "list" "__getattribute__" (.ref x) [.str _ t] [] _ (by decide +kernel) (by decide +kernel) (ty.andThen sub) (args_lga _ _) ?_
  unfold Builtin.«object.__getattribute__»
  refine wpAny_bind (wpAny_pure ?_)
  have at_ : Looks (model pw w) hh (typeLookup (.ref 101) "_initial_size") none := looks_findIn X (by kernel_rfl)
  have cd := looks_clsIn (M := model pw w) X acc_cd
  refine wpAny_bind (wpAny_pure (wpAny_bind (ty.at (wpAny_bind ?_))))
  unfold find
  refine wpAny_bind (at_.at (wpAny_bind (wpAny_pure (wpAny_bind (wpAny_pure ?_)))))
  show wpAny _ _ (ownThenClass (.ref x) _ none none) _ _ _
  unfold ownThenClass inOwnDict Builtin.ObjectAttr.ownDict loadHead
  refine wpAny_bind (wpAny_bind (wpAny_bind (wpAny_loadPart hx ?_)))
  show wpAny _ _ (instanceDict x false) _ _ _
  unfold instanceDict
  refine wpAny_bind (wpAny_loadPart hx ?_)
  refine wpAny_bind (cd.at ?_)
  refine wpAny_pure ?_
  obtain ⟨tz, hd⟩ := hd
  show wpAny _ _ (nsGet d _) _ _ _
  refine wpAny_nsGet hd ?_
  rw [if_pos rfl]
  refine wpAny_bind (wpAny_rule (wpAny_pure ?_))
  refine wpAny_pure ?_
  show wpAny _ _ (handedOut (.int z tz)) _ _ _
  rw [handedOut_of rfl]
  exact wpAny_pure (h _ _ (by first | exact Nat.le_refl _ | exact Nat.le_succ _ | (show t ≤ _; omega)))
end Mine
end
section
open PySem.Calls
open AutoSeq1 (wpAny_loadPart')
namespace Mine
section
variable {w : World} {mg mb : Str → Option Value} {H : Heap} {K : Kn} {n : Nat} {L : Addr} {bs : Bs} {own : Owns} {env : Env}
/-- a call of a builtin by its name, over the heap as it stands -/
theorem rawB {x : Str} {id : String} {e : Expr} {rest : List Expr} {pos pos' : Pos} {A : Around} {E : Value → Shared → Prop} {s : Shared} {Q : Value → Shared → Prop} (B : Base w mg mb s.heap)
    (hx : nsIn (KF w.params) mainGlobals x = some Option.none) (hb : bootBuiltins x = some (.builtin id)) (hl : env.kindOf x = some .globalImplicit)
    (h : wpAny (model pw w) A (spliced (backTo pos (starEach (e :: rest) env))) (fun vs s₁ => wpAny (model pw w) A (call (.builtin id) vs) Q E s₁) E s)
    (hs : starEach (e :: rest) env = (false, eval e env) :: starEach rest env := by rfl) (hp : (starEach (e :: rest) env).any (·.1) = false := by rfl)
    (hg : env.globals = mainGlobals := by rfl) (hbu : env.builtins = builtinsNs := by rfl) (hk : env.scope.kind = .function := by rfl) (hdb : (x == ("__debug__" : Str)) = false := by decide)
    (hn : x ≠ "__name__" := by decide) :
    wpAny (model pw w) A (eval (.Call (.Name x pos') (e :: rest) [] pos) env) Q E s := by
  show wpAny (model pw w) A (do callWith pos (← eval (.Name x pos') env) [] (backTo pos (starEach (e :: rest) env)) (backToKw pos (keywordEach [] env))) Q E s
  refine wpAny_bind (Calls.Name_function_global hk hl (Calls.loadGlobal_builtin (by rw [hg]; exact B.g) (B.mgs _ _ hx) (by rw [hbu]; exact B.b) ((B.mbs _ hn).trans hb) ?_) hdb)
  show wpAny (model pw w) A (callWith pos (.builtin id) [] (backTo pos (starEach (e :: rest) env)) []) Q E s
  rw [hs] at h ⊢
  refine Calls.callWith_builtin ?_ (Calls.evalArgs_plain h)
  rw [hs] at hp
  rw [← hp]
  simp [backTo]
theorem lenName {x : Str} {p1 p2 p3 : Pos} {A : Around} {E : Value → Shared → Prop} {s : Shared} {Q : Value → Shared → Prop} {m : Str → Option Value} {y : Str} (B : Base w mg mb s.heap)
    (hl : env.kindOf "len" = some .globalImplicit) (hlx : env.kindOf x = some .local) (hn : s.heap.Ns env.locals m) (hv : ∃ t, m x = some (.str y t)) (hy : y.length ≤ sizeLine)
    (h : ∀ t k, Q (.int y.length t) { s with toks := k })
    (hg : env.globals = mainGlobals := by rfl) (hbu : env.builtins = builtinsNs := by rfl) (hk : env.scope.kind = .function := by rfl) (hdb : (x == ("__debug__" : Str)) = false := by decide) :
    wpAny (model pw w) A (eval (.Call (.Name "len" p1) [.Name x p2] [] p3) env) Q E s := by
  refine rawB B (by kernel_rfl) (by rfl) hl ?_ (hg := hg) (hbu := hbu) (hk := hk)
  obtain ⟨t, hv⟩ := hv
  refine Calls.spliced_cons (wpAny_Name (wpAny_loadName_local hk hlx hn hv ?_) hdb)
  refine Calls.spliced_nil ?_
  refine P.len_str ?_ (h _ _)
  have : sizeLine < 2 ^ 62 := by decide
  omega
noncomputable def lenS (ps : List (Str × Str)) : Int := (ps.map fun p => ((p.1.length : Int) + (p.2.length : Int))).sum
noncomputable def valS (ps : List (Str × Str)) (i : Nat) : Int := match ps[i]? with
  | some p => (p.1.length : Int) + (p.2.length : Int)
  | none => 0
theorem preSum_valS (ps : List (Str × Str)) : preSum (valS ps) ps.length = lenS ps := by
  have key : ∀ n, n ≤ ps.length → preSum (valS ps) n = lenS (ps.take n) := by
    intro n
    induction n with
    | zero => intro _; rfl
    | succ n ih =>
      intro h
      show preSum (valS ps) n + valS ps n = _
      rw [ih (by omega)]
      have : ps[n]? = some ps[n] := List.getElem?_eq_getElem h
      rw [List.take_add_one, this, Option.toList_some]
      unfold valS lenS
      rw [this, List.map_append, List.sum_append]
      simp only [List.map_cons, List.map_nil, List.sum_cons, List.sum_nil, Int.add_zero]
  rw [key _ (Nat.le_refl _), List.take_length]
theorem nt_tacc {P x d : Addr} {z : Int} {ps : List (Str × Str)} (h : Heap) (ha : ∀ p ∈ ([(P, .raw TabO), (x, .acc d z ps)] : Owns), p.2.At h p.1) : ∀ a ∈ ads [(P, .raw TabO), (x, .acc d z ps)], ∀ o, h.get? a = some o → ¬ IsTupO o := fun a hm o e => by
  rw [ads_cons] at hm
  rcases List.mem_append.mp hm with hm | hm
  · obtain rfl := List.mem_singleton.mp hm
    obtain ⟨o', e', ho⟩ := ha _ (.head _)
    rw [e] at e'; cases e'
    exact nt_tab _ ho
  · exact nt_acc h (fun p hp => ha p (.tail _ hp)) a hm o e
theorem code67 (w : World) (h : Heap) (H : Heap) (B : Base w mg mb H) (us : Array Value) (k : Ext H h) (e : h.get? 63 = some { cls := .none, data := .fields us }) (ht : TriplesOk us.toList) : h.IsCode 67 63 us ∧ h.TableAt 67 63 us :=
  ⟨⟨_, _, _, _, _, _, _, _, _, _, k _ _ (B.k 67 (o67 w.params) (by rfl) (by decide) (by decide)), rfl, rfl, rfl, rfl, rfl, rfl, e, rfl, ht, by decide⟩, ⟨⟨_, _, k _ _ (B.k 67 (o67 w.params) (by rfl) (by decide) (by decide)), rfl, rfl, rfl⟩, e⟩⟩
theorem code74 (w : World) (h : Heap) (H : Heap) (B : Base w mg mb H) (us : Array Value) (k : Ext H h) (e : h.get? 70 = some { cls := .none, data := .fields us }) (ht : TriplesOk us.toList) : h.IsCode 74 70 us ∧ h.TableAt 74 70 us :=
  ⟨⟨_, _, _, _, _, _, _, _, _, _, k _ _ (B.k 74 (o74 w.params) (by rfl) (by decide) (by decide)), rfl, rfl, rfl, rfl, rfl, rfl, e, rfl, ht, by decide⟩, ⟨⟨_, _, k _ _ (B.k 74 (o74 w.params) (by rfl) (by decide) (by decide)), rfl, rfl, rfl⟩, e⟩⟩
theorem fn_len (x d : Addr) (z : Int) (ps : List (Str × Str)) (hps : ps.length ≤ 1000) (hsz : ∀ p ∈ ps, p.1.length ≤ 10000 ∧ p.2.length ≤ 10000) : FnO w mg mb 1 (.ref 68) [.ref x] [(63, .raw TabO), (x, .acc d z ps)] fun f o =>
    f = .int (z + lenS ps) ∧ o = [(63, .raw TabO), (x, .acc d z ps)] := by
  refine FnO.intro (names := [Str.ofString "self"]) (body := bodyOf (clsSt 4)) (c := 67) (by rfl) (by rfl) rfl nt_tacc (fun H K L A s B r S => ?_) (by rfl) (fun vals e => ?_)
  · refine at_of ?_
    have big : (10000 : Nat) ≤ sizeLine := by decide
    have ev : ∀ (Q : Value → Shared → Prop), (∀ t s', St H K L [(Str.ofString "self", .ref x)] [(63, .raw TabO), (x, .acc d z ps)] s' → Q (.int (z + lenS ps) t) s') →
        wpAny (model pw w) A (eval (match bodyOf (clsSt 4) with | [.Return (some e) _] => e | _ => default) (envF (funcOf (o68 w.params)) 68 L)) Q noE s := by
      intro Q q
      refine rawB (B.ext S.keep) (by kernel_rfl) (by rfl) (by rfl) ?_
      refine Calls.spliced_cons ?_
      refine genAcc (c := 67) (F := fun i v => ∃ t, v = .int (valS ps i) t) B r.hd r.limit hps (by rfl) (fun h us k e ht => code67 (mg := mg) (mb := mb) w h H B us k e ht) (by rfl) (by rfl) (by rfl) (by decide +kernel) (by rfl) (by rfl) (by rfl) (by decide) (by rfl) (by rfl) (by rfl) (by rfl) S ?_ ?_
      · intro C code A' E' i va vb p s₂ m₂ hp ha hb hA hns h1 h2 B₂
        obtain ⟨ta, rfl⟩ := ha
        obtain ⟨tb, rfl⟩ := hb
        obtain ⟨z1, z2⟩ := hsz p (List.mem_of_getElem? hp)
        refine wpAny_BinOp ?_
        refine lenName B₂ (by rfl) (by rfl) hns ⟨_, h1⟩ (by omega) fun t k => ?_
        refine lenName (s := { s₂ with toks := k }) B₂ (by rfl) (by rfl) hns ⟨_, h2⟩ (by omega) fun t' k' => ?_
        refine wpAny_add_int ?_
        rw [show valS ps i = (p.1.length : Int) + (p.2.length : Int) from by unfold valS; rw [hp]]
        exact ⟨⟨_, rfl⟩, _, _, rfl, fun _ _ e => e⟩
      · intro a s₅ fp wr g ST W st hfp hfa hty hg ho back
        have S5 := back s₅ (fun _ _ e => e) hg ho s₅ (Moved.refl W.grefl)
        refine Calls.spliced_cons ?_
        refine PyProof.Rows.Attribute_name ?_
        obtain ⟨m, hn, hm⟩ := S5.loc
        obtain ⟨v, hv, hf⟩ := hm (Str.ofString "self") _ (by rfl)
        obtain rfl := hf
        refine wpAny_Name (wpAny_loadName_local (by rfl) (by rfl) hn hv ?_) (by decide)
        obtain ⟨⟨vs, k, ex, pl⟩, hI⟩ := S5.has _ (.tail _ (.head _))
        refine getAttr_init (B.ext S5.keep).frag ex hI fun t tz ht => ?_
        refine Calls.spliced_nil ?_
        have st' := W.frame 0 s₅ s₅.heap t st ht fun _ _ _ e => e
        refine call_sum_start (W.in4_1.self 0 _ _ _ st' ⟨a, fp, wr, _, _, _, _, valS ps, rfl, W.in4_1, st', hfp, fun i v hP => hP, fun s' t' hM => ?_⟩)
        rw [preSum_valS]
        exact q _ _ (back { s₅ with toks := t } (fun _ _ e => e) hg ho s' hM)
    refine wpAny_execs_cons (wpAny_Return_some (ev _ fun t s' S' => ?_))
    exact ⟨_, _, _, S', ⟨rfl, rfl⟩, ⟨t, rfl⟩⟩
  · match vals, e with
    | [v], _ => rfl
end
end Mine
end
section
open PySem.Calls
open AutoSeq1 (wpAny_loadPart')
namespace Mine
section
variable {w : World} {mg mb : Str → Option Value} {H : Heap} {K : Kn} {n : Nat} {L : Addr} {bs : Bs} {own : Owns} {env : Env}
theorem joinTup {prog : Program} {A : Around} {E : Value → Shared → Prop} {s : Shared} {x : Str} {t : Tok} {Q : Value → Shared → Prop} {D : Addr} {l : List (Str × Tok)} {texts : List Str}
    (hl : ∃ o n, s.heap.get? D = some o ∧ o.cls = .type "tuple" ∧ o.data = .seq (strValues l).toArray n) (ht : l.map (·.1) = texts) (hok : JoinOk x texts = true)
    (hq : ∀ t' k, Q (.str (Txt.join x texts) t') { s with toks := k }) : wpAny (model prog w) A (call (.builtin "str.join") [.str x t, .ref D]) Q E s := by
  subst ht
  unfold JoinOk at hok
  rw [Bool.not_eq_true'] at hok
  exact call_meets F.slot_str_join (typeIs_str _ _ _) F.entry_str_join (F.args_str_join_2 _ _) (meets_str_join_tuple x t D l hok) ⟨hl, post_join l ⟨joinFit_length hok, hq⟩⟩
/-- EMPTYSTRING, over the heap as it stands -/
theorem rawE {p : Pos} {A : Around} {E : Value → Shared → Prop} {s : Shared} {Q : Value → Shared → Prop} (B : Base w mg mb s.heap) (hl : env.kindOf "EMPTYSTRING" = some .globalImplicit) (h : ∀ t, Q (.str (T []) t) s)
    (hg : env.globals = mainGlobals := by rfl) (hk : env.scope.kind = .function := by rfl) : wpAny (model pw w) A (eval (.Name "EMPTYSTRING" p) env) Q E s :=
  Calls.Name_function_global hk hl (Calls.loadGlobal_global (by rw [hg]; exact B.g) (B.mgs "EMPTYSTRING" (some (.str (T []) 196)) (by kernel_rfl)) (h _)) (by decide)
noncomputable def strP (ps : List (List Nat × List Nat)) : List Nat := (ps.map fun p => p.1 ++ p.2).flatten
theorem fn_str (x d : Addr) (z : Int) (ps : PS) (hps : ps.length ≤ 1000) (hsz : ∀ p ∈ ps, p.1.length ≤ 400 ∧ p.2.length ≤ 400) : FnO w mg mb 1 (.ref 75) [.ref x] [(70, .raw TabO), (x, .acc d z (ps.map tp))] fun f o =>
    f = .str (T (strP ps)) ∧ o = [(70, .raw TabO), (x, .acc d z (ps.map tp))] := by
  refine FnO.intro (names := [Str.ofString "self"]) (body := bodyOf (clsSt 5)) (c := 74) (by rfl) (by rfl) rfl nt_tacc (fun H K L A s B r S => ?_) (by rfl) (fun vals e => ?_)
  · refine at_of ?_
    have ev : ∀ (Q : Value → Shared → Prop), (∀ t s', St H K L [(Str.ofString "self", .ref x)] [(70, .raw TabO), (x, .acc d z (ps.map tp))] s' → Q (.str (T (strP ps)) t) s') →
        wpAny (model pw w) A (eval (match bodyOf (clsSt 5) with | [.Return (some e) _] => e | _ => default) (envF (funcOf (o75 w.params)) 75 L)) Q noE s := by
      intro Q q
      refine MethodCall_ (pl := _) (rawE (B.ext S.keep) (by rfl) fun t => ?_) (by rfl)
      refine GM.join ?_
      refine callWith_method1 ?_ (by rfl) (by rfl)
      refine Calls.spliced_cons ?_
      refine genAcc (c := 74) (F := fun i v => ∃ p t, ps[i]? = some p ∧ v = .str (T (p.1 ++ p.2)) t) B r.hd r.limit (by simpa using hps) (by rfl) (fun h us k e ht => code74 (mg := mg) (mb := mb) w h H B us k e ht) (by rfl) (by rfl) (by rfl) (by decide +kernel) (by rfl) (by rfl) (by rfl) (by decide) (by rfl) (by rfl) (by rfl) (by rfl) S ?_ ?_
      · intro C code A' E' i va vb p s₂ m₂ hp ha hb hA hns h1 h2 B₂
        obtain ⟨ta, rfl⟩ := ha
        obtain ⟨tb, rfl⟩ := hb
        rw [List.getElem?_map] at hp
        obtain ⟨q, hq, rfl⟩ := Option.map_eq_some_iff.mp hp
        obtain ⟨z1, z2⟩ := hsz q (List.mem_of_getElem? hq)
        refine MethodCall_ (pl := _) (rawE B₂ (by rfl) fun t => ?_) (by rfl)
        refine GM.join ?_
        refine callWith_method1 ?_ (by rfl) (by rfl)
        refine Calls.spliced_cons (wpAny_Tuple (k := 0) ?_)
        refine Calls.spliced_cons (wpAny_Name (wpAny_loadName_local (by rfl) (by rfl) hns h1 ?_) (by decide))
        refine Calls.spliced_cons (wpAny_Name (wpAny_loadName_local (by rfl) (by rfl) hns h2 ?_) (by decide))
        refine Calls.spliced_nil ⟨by show 2 ≤ sizeLine; decide, Calls.spliced_nil ?_⟩
        refine joinTup (l := [(T q.1, ta), (T q.2, tb)]) (texts := [q.1, q.2].map T) ⟨_, 0, Heap.get?_push_size _ rfl, rfl, rfl⟩ rfl (joinOk_T (by simp) ?_ (by decide)) fun t' k => ?_
        · intro l hl
          rcases List.mem_cons.mp hl with rfl | hl
          · omega
          · obtain rfl := List.mem_singleton.mp hl; omega
        · rw [join_T, joinL_nil]
          refine ⟨⟨q, t', hq, ?_⟩, _, _, rfl, fun b o e => Heap.get?_push_of_some _ e⟩
          simp
      · intro a s₅ fp wr g ST W st hfp hfa hty hg ho back
        have hN : (ps.map tp).length ≤ sizeLine := by
          rw [List.length_map]
          have : (1000 : Nat) ≤ sizeLine := by decide
          omega
        refine Calls.spliced_nil ?_
        refine SC.joinGen W.in4_2 (fun i s' h => hty i s' h) st hfp hfa (fun i v hP => by obtain ⟨p, t, _, e⟩ := hP; exact ⟨_, _, e⟩) (fun s' l hM hacc => ?_) hN
        have hl : l.map (·.1) = (ps.map fun p => p.1 ++ p.2).map T := by
          apply List.ext_getElem?
          intro j
          have hsz : l.length = ps.length := by
            have := hacc.1
            simpa [strValues] using this
          by_cases hj : j < ps.length
          · have hj' : j < l.length := hsz ▸ hj
            obtain ⟨p, t, hp, hv⟩ := hacc.2 j (.str l[j].1 l[j].2) (by simp [strValues, List.getElem?_eq_getElem hj'])
            injection hv with h1 _
            rw [List.getElem?_map, List.getElem?_map, List.getElem?_map, hp, List.getElem?_eq_getElem hj']
            show some l[j].1 = some (T (p.1 ++ p.2))
            rw [h1]
          · rw [List.getElem?_eq_none (by simpa [hsz] using hj), List.getElem?_eq_none (by simpa using hj)]
        rw [hl]
        refine ⟨joinOk_T (by simpa using hps) (fun l hl => ?_) (by decide), fun t' k => ?_⟩
        · obtain ⟨p, hp, rfl⟩ := List.mem_map.mp hl
          obtain ⟨z1, z2⟩ := hsz p hp
          simp; omega
        · rw [join_T, joinL_nil]
          exact q _ _ ((back s₅ (fun _ _ e => e) hg ho s' hM).toks k)
    refine wpAny_execs_cons (wpAny_Return_some (ev _ fun t s' S' => ?_))
    exact ⟨_, _, _, S', ⟨rfl, rfl⟩, ⟨t, rfl⟩⟩
  · match vals, e with
    | [v], _ => rfl
end
end Mine
end
section
open PySem.Calls
open AutoSeq1 (wpAny_loadPart')
namespace Mine
section
variable {w : World} {mg mb : Str → Option Value} {H : Heap} {K : Kn} {n : Nat} {L : Addr} {bs : Bs} {own : Owns} {env : Env}
theorem Tu.tup3 {e1 e2 e3 : Expr} {pos : Pos} {k : Nat} {t : Addr} {f1 f2 f3 : Fv} {R : Bs → Owns → Prop} (ht : (t, .tup [f1, f2, f3]) ∈ own)
    (h : ∀ v1 v2 v3, FIs v1 f1 → FIs v2 f2 → FIs v3 f3 → Tu w H K n L bs own (PySem.assign e1 env v1) fun b1 o1 => Tu w H K n L b1 o1 (PySem.assign e2 env v2) fun b2 o2 => Tu w H K n L b2 o2 (PySem.assign e3 env v3) R)
    (hp : assignEach [e1, e2, e3] env = [(false, PySem.assign e1 env), (false, PySem.assign e2 env), (false, PySem.assign e3 env)] := by rfl) :
    Tu w H K n L bs own (PySem.assign (.Tuple [e1, e2, e3] k pos) env (.ref t)) R := fun A s Q r S q => by
  obtain ⟨vs, e, hv⟩ := S.has _ ht
  obtain ⟨v1, v2, v3, ev, h1, h2, h3⟩ := hv.three
  have hsz : vs.size = 3 := by rw [← Array.length_toList, ev]; rfl
  refine wpAny_assign_Tuple r.hd ⟨_, e, rfl, 0, rfl⟩ (by rw [hp, hsz]; rfl) (by rw [hp]; rfl) fun h' hk => ?_
  rw [ev, hp]
  have S' : St H K L bs own { s with heap := h' } := S.ext S.rest.1 rfl fun b o e => hk b o (Nat.ne_of_lt (Heap.lt_size e)) e
  show wpAny _ _ (do holding [v2, v3] (PySem.assign e1 env v1); assignInOrder [PySem.assign e2 env, PySem.assign e3 env] [v2, v3]) _ _ _
  refine wpAny_bind (wpAny_holding (h v1 v2 v3 h1 h2 h3 A _ _ r S' fun s₂ b o z S₂ => ?_))
  show wpAny _ _ (do holding [v3] (PySem.assign e2 env v2); assignInOrder [PySem.assign e3 env] [v3]) _ _ _
  refine wpAny_bind (wpAny_holding (z A _ _ r S₂ fun s₃ b o z S₃ => ?_))
  show wpAny _ _ (do holding [] (PySem.assign e3 env v3); assignInOrder [] []) _ _ _
  exact wpAny_bind (wpAny_holding (z A _ _ r S₃ fun s₄ b o z S₄ => wpAny_pure (q _ _ _ z S₄)))
/-- a, b, c = f(..) -/
theorem Tf.assignT {elts : List Expr} {pt pos : Pos} {k : Nat} {value : Expr} {R : Fl → Bs → Owns → Prop}
    (h : Tv w H K n L bs own (eval value env) fun f o => ∃ t, f = .ref t ∧ Tu w H K n L bs o (PySem.assign (.Tuple elts k pt) env (.ref t)) fun b o => R .next b o)
    (he : exec (.Assign [.Tuple elts k pt] value pos) env = (do standAt pos; let v ← eval value env; PySem.assign (.Tuple elts k pt) env v; Pure.pure .next) := by rfl) :
    Tf w H K n L bs own (exec (.Assign [.Tuple elts k pt] value pos) env) R := fun A s Q r S q => by
  rw [he]
  refine wpAny_bind (wpAny_standAt (wpAny_bind (h A s _ r S fun v s₁ f o z hv S₁ => wpAny_bind ?_)))
  obtain ⟨t, rfl, z⟩ := z
  obtain rfl := hv
  exact z A s₁ _ r S₁ fun s₂ b o z S₂ => wpAny_pure (q _ _ .next _ _ z trivial S₂)
theorem store_cell {i : Nat} {x : Str} {c : Addr} {v : Value} {f : Fv} {g : Option Fv} {A : Around} {s : Shared} {Q : Unit → Shared → Prop} (hl : env.kindOf x = some .cell) (hc : env.cells.lookup x = some c) (S : St H K L bs own s) (e : own[i]? = some (c, .cell g)) (hv : FIs v f)
    (h : ∀ s', St H K L bs (own.set i (c, .cell (some f))) s' → Q () s') (hk : env.scope.kind = .function := by rfl) : PySem.wpAny (model pw w) A (storeName env x v) Q noE s := by
  have hc' : ∃ v₀, s.heap.IsCell c v₀ := by
    rcases S.has _ (List.mem_of_getElem? e) with ⟨o, eo, ed, _⟩ | ⟨o, u, g', eo, ed, _, _⟩
    · exact ⟨_, o, eo, ed⟩
    · exact ⟨_, o, eo, ed⟩
  obtain ⟨v₀, hv₀⟩ := hc'
  refine wpAny_storeName_cell hk hl hc hv₀ fun h' hc'' hs => h _ ?_
  obtain ⟨o₀, eo₀, ed₀⟩ := hv₀
  obtain ⟨o, eo, ed⟩ := hc''
  exact S.mut (i := i) (a := c) (w := .cell g) (w' := .cell (some f)) e (t := s.toks) ⟨(fun o' e' q => by rw [eo₀] at e'; cases e'; obtain ⟨_, vs, m, q⟩ := q; rw [ed₀] at q; cases q), hs.extBut⟩ (.inr ⟨o, v, f, eo, ed, rfl, hv⟩) (n2 := rfl)
/-- a cell's name is given -/
theorem Tf.assignC {x : Str} {pos' pos : Pos} {value : Expr} {c : Addr} {R : Fl → Bs → Owns → Prop} (hl : env.kindOf x = some .cell) (hc : env.cells.lookup x = some c)
    (h : Tv w H K n L bs own (eval value env) fun f o => ∃ i g, o[i]? = some (c, .cell g) ∧ R .next bs (o.set i (c, .cell (some f))))
    (hs : swapsWith value (some (.Name x pos')) pos.line env = Pure.pure false := by rfl) (hk : env.scope.kind = .function := by rfl) :
    Tf w H K n L bs own (exec (.Assign [.Name x pos'] value pos) env) R := fun A s Q r S q =>
  wpAny_Assign_Name (h A s _ r S fun v s₁ f o z hv S₁ => by
    obtain ⟨i, g, e, z⟩ := z
    exact store_cell hl hc S₁ e hv (fun s₂ S₂ => q _ _ .next _ _ z trivial S₂) hk) hs
/- comparisons -/
theorem rcne {A : Around} {E : Value → Shared → Prop} {s : Shared} {a b : Value} {k : Bool} {Q : Value → Shared → Prop} (h : SeqAt.RcNeAt A s a b k) (hq : Q (.bool k) s) : PySem.wpAny (model pw w) A (compareOp .NotEq a b) Q E s := h pw w E Q hq
theorem ne_tup {a b : Addr} {x y x' y' : List Nat} {R : Fv → Owns → Prop} (ha : (a, .tup [.str (T x), .str (T y)]) ∈ own) (hb : (b, .tup [.str (T x'), .str (T y')]) ∈ own) (h : R (.bool (!(x == x' && y == y'))) own) :
    Tv w H K n L bs own (compareOp .NotEq (.ref a) (.ref b)) R := fun A s Q r S q => by
  obtain ⟨vs, e, hv⟩ := S.has _ ha
  obtain ⟨us, e', hu⟩ := S.has _ hb
  obtain ⟨v1, v2, ev, ⟨t1, rfl⟩, t2, rfl⟩ := hv.two
  obtain ⟨u1, u2, eu, ⟨t3, rfl⟩, t4, rfl⟩ := hu.two
  have e1 : vs = #[.str (T x) t1, .str (T y) t2] := by rw [← Array.toList_inj, ev]
  have e2 : us = #[.str (T x') t3, .str (T y') t4] := by rw [← Array.toList_inj, eu]
  subst e1 e2
  refine rcne (SeqAt.RcNeAt.tuples (e := fun j => if j = 0 then T x == T x' else T y == T y') ⟨_, e, rfl, 0, rfl⟩ ⟨_, e', rfl, 0, rfl⟩ r.cline fun j h1 h2 => ?_) (q _ _ _ _ h ?_ S)
  · match j, h1 with
    | 0, _ => exact SeqAt.EqAt.str_str _ _ _ _
    | 1, _ => exact SeqAt.EqAt.str_str _ _ _ _
  · show Value.bool (!(((T x == T x') && ((T y == T y') && true)) && true)) = _
    rw [T_beq, T_beq, Bool.and_true, Bool.and_true]
/-- list != list -/
theorem ne_ints {a b : Addr} {xs ys : List Int} {R : Fv → Owns → Prop} (ha : Hs H own a (.list (xs.map .int))) (hb : Hs H own b (.list (ys.map .int))) (he : xs = ys) (h : R (.bool false) own) :
    Tv w H K n L bs own (compareOp .NotEq (.ref a) (.ref b)) R := fun A s Q r S q => by
  subst he
  obtain ⟨vs, k, e, hv⟩ := S.look ha
  obtain ⟨us, k', e', hu⟩ := S.look hb
  have l1 := hv.length
  have l2 := hu.length
  rw [Array.length_toList] at l1 l2
  refine rcne (SeqAt.RcNeAt.lists (e := fun _ => true) ⟨_, e, rfl, k, rfl⟩ ⟨_, e', rfl, k', rfl⟩ (l1.trans l2.symm) r.cline fun j h1 h2 => ?_) (q _ _ _ _ h ?_ S)
  · have hj : j < xs.length := by rw [l1, List.length_map] at h1; exact h1
    have hx : (xs.map Fv.int)[j]? = some (.int xs[j]) := by rw [List.getElem?_map, List.getElem?_eq_getElem hj]; rfl
    obtain ⟨v, ev, t, rfl⟩ := hv.get hx
    obtain ⟨u, eu, t', rfl⟩ := hu.get hx
    rw [Array.getElem?_toList, Array.getElem?_eq_getElem h1] at ev
    rw [Array.getElem?_toList, Array.getElem?_eq_getElem h2] at eu
    rw [Option.some.inj ev, Option.some.inj eu]
    have := SeqAt.EqAt.int_int (A := A.in1) (s := s) xs[j] t xs[j] t'
    rwa [beq_self_eq_true] at this
  · show Value.bool (!((List.range vs.size).all fun _ => true)) = .bool false
    congr 1
    rw [Bool.not_eq_false', List.all_eq_true]
    exact fun _ _ => rfl
theorem ne_nil {a b : Addr} {R : Fv → Owns → Prop} (ha : Hs H own a (.list [])) (hb : Hs H own b (.list [])) (h : R (.bool false) own) : Tv w H K n L bs own (compareOp .NotEq (.ref a) (.ref b)) R :=
  ne_ints (xs := []) (ys := []) ha hb rfl h
theorem isnot_b {v u : Value} {b c : Bool} {R : Fv → Owns → Prop} (hv : FIs v (.bool b)) (hu : FIs u (.bool c)) (h : R (.bool (b != c)) own) : Tv w H K n L bs own (compareOp .IsNot v u) R := fun A s Q r S q => by
  obtain rfl := hv
  obtain rfl := hu
  exact isnot_bool (q _ _ _ _ h rfl S)
theorem isnot_n {v u : Value} {R : Fv → Owns → Prop} (hv : FIs v .none) (hu : FIs u .none) (h : R (.bool false) own) : Tv w H K n L bs own (compareOp .IsNot v u) R := fun A s Q r S q => by
  obtain rfl := hv
  obtain rfl := hu
  exact isnot_none_none (q _ _ _ _ h rfl S)
theorem FL.ints : ∀ {vs : List Value} {ns : List Int}, FL vs (ns.map .int) → ∃ xs : List (Int × Tok), vs = xs.map (fun p => Value.int p.1 p.2) ∧ xs.map (·.1) = ns
  | [], [], _ => ⟨[], rfl, rfl⟩
  | _ :: _, _ :: _, .cons ⟨t, e⟩ b => by
    subst e
    obtain ⟨l, rfl, h⟩ := FL.ints b
    exact ⟨(_, t) :: l, rfl, by simp [h]⟩
theorem sum_ {a : Addr} {ns : List Int} {R : Fv → Owns → Prop} (ha : Hs H own a (.list (ns.map .int))) (h : R (.int ns.sum) own) : Tv w H K n L bs own (call (.builtin "sum") [.ref a]) R := fun A s Q r S q => by
  obtain ⟨vs, k, e, hv⟩ := S.look ha
  obtain ⟨xs, e1, e2⟩ := hv.ints
  have e3 : vs = intItems xs.toArray := by
    rw [← Array.toList_inj, e1]; simp [intItems]
  subst e3
  refine sum_intListG r.hd ⟨_, e, rfl, k, rfl⟩ fun h' tk t' hk => ?_
  rw [preSum_eq, List.take_of_length_le (by simp)]
  have : ((xs.toArray.toList.map (·.1)).sum : Int) = ns.sum := by rw [← e2]
  rw [this]
  exact q _ _ _ _ h ⟨t', rfl⟩ (S.ext S.rest.1 rfl hk)
/-- the class called with a size -/
theorem Tv.make1 {e : Expr} {pos pos' : Pos} {R : Fv → Owns → Prop} (BH : Base w mg mb H) (hl : env.kindOf "_Accumulator" = some .globalImplicit) (hn : 2 ≤ n)
    (h : Tv w H K n L bs own (eval e env) fun f o => ∃ z, f = .int z ∧ ∀ x d, R (.ref x) ((x, .acc d z []) :: o))
    (he : starEach [e] env = (false, eval e env) :: starEach [] env := by rfl)
    (hg : env.globals = mainGlobals := by rfl) (hk : env.scope.kind = .function := by rfl) :
    Tv w H K n L bs own (eval (.Call (.Name "_Accumulator" pos') [e] [] pos) env) R := fun A s Q r S q => by
  show wpAny (model pw w) A (do callWith pos (← eval (.Name "_Accumulator" pos') env) [] (backTo pos (starEach [e] env)) (backToKw pos (keywordEach [] env))) Q noE s
  refine wpAny_bind (Calls.Name_function_global hk hl (Calls.loadGlobal_global (by rw [hg]; exact BH.g.keeps S.keep) (BH.mgs "_Accumulator" (some (.ref 101)) (by kernel_rfl)) ?_))
  show wpAny (model pw w) A (callWith pos (.ref 101) [] (backTo pos (starEach [e] env)) []) Q noE s
  rw [he]
  refine callWith_of (P := fun h => (KB w.params).In h) rfl (keeps_K (by kernel_rfl)) (Calls.evalArgs_plain (Calls.spliced_cons (h A s _ r S fun v s₁ f o y hv S₁ => Calls.spliced_nil ?_)))
  obtain ⟨z, rfl, y⟩ := y
  obtain ⟨t, rfl⟩ := hv
  exact ⟨(BH.ext S₁.keep).frag, call_make BH (r.le hn) S₁ (.inr ⟨t, rfl⟩) fun s' x d S' => q _ _ _ _ (y x d) rfl S'⟩
/- len and str of an accumulator -/
theorem instAcc {h : Heap} {x d : Addr} {vs : Array Value} {k : Nat} {z : Int} (e : h.get? x = some (accO d vs k)) (hd : InitD h d z) : ∃ od, InstAt h x (accO d vs k) 101 (some od) := by
  obtain ⟨t, o, es, ep, eo, _⟩ := hd
  exact ⟨o, e, rfl, rfl, eo⟩
theorem len_acc {x d : Addr} {z : Int} {ps : List (Str × Str)} {R : Fv → Owns → Prop} (BH : Base w mg mb H) (hs : Sub [(63, .raw TabO), (x, .acc d z ps)] own) (hps : ps.length ≤ 1000) (hsz : ∀ p ∈ ps, p.1.length ≤ 10000 ∧ p.2.length ≤ 10000) (hn : 2 ≤ n)
    (h0 : 0 ≤ z + lenS ps) (h1 : z + lenS ps < 2 ^ 63) (h : R (.int (z + lenS ps)) own) : Tv w H K n L bs own (call (.builtin "len") [.ref x]) R := fun A s Q r S q => by
  obtain ⟨c, hp⟩ := hs
  have X := (BH.ext S.keep).frag
  obtain ⟨⟨vs, k, e, _⟩, hd⟩ := S.has (x, .acc d z ps) (hp.mem_iff.mpr (by simp))
  obtain ⟨od, I⟩ := instAcc e hd
  refine Calls.call_function_entry kind_len plain_len entry_len (args_len1 _) ?_
  unfold Builtin.«len»
  refine wpAny_bind (m := oneArg "len" _) (wpAny_pure ?_)
  refine wpAny_bind (m := callSpecial? (.ref x) (Str.ofString "__len__")) (special_fn (f := 68) X I (by kernel_rfl) (by kernel_rfl) ?_)
  refine fn_len x d z ps hps hsz A.in1 H K L bs c s _ _ ⟨r.hd, by have := r.dp; show A.depth + 1 ≤ 900; omega, by have := r.un; show A.units + 1 + 20 * 1 ≤ 9000; omega⟩ BH (S.perm hp) (.cons rfl .nil) fun v s' g own' y hv S' => ?_
  obtain ⟨rfl, rfl⟩ := y
  obtain ⟨t, rfl⟩ := hv
  refine wpAny_bind (wpAny_holding (wpAny_pure ?_))
  refine wpAny_bind (wpAny_letGo ?_)
  show wpAny _ _ (if z + lenS ps < 0 then _ else _) _ _ _
  rw [if_neg (by omega)]
  show wpAny _ _ (if z + lenS ps ≥ 2 ^ 63 then _ else _) _ _ _
  rw [if_neg (by omega)]
  exact wpAny_bind (wpAny_mkInt (wpAny_pure ⟨_, rfl, q _ _ _ _ h ⟨_, rfl⟩ ((S'.perm hp.symm).toks _)⟩))
theorem str_acc {x d : Addr} {z : Int} {ps : PS} {R : Fv → Owns → Prop} (BH : Base w mg mb H) (hs : Sub [(70, .raw TabO), (x, .acc d z (ps.map tp))] own) (hps : ps.length ≤ 1000) (hsz : ∀ p ∈ ps, p.1.length ≤ 400 ∧ p.2.length ≤ 400) (hn : 2 ≤ n)
    (h : R (.str (T (strP ps))) own) : Tv w H K n L bs own (call (.type "str") [.ref x]) R := fun A s Q r S q => by
  obtain ⟨c, hp⟩ := hs
  have X := (BH.ext S.keep).frag
  obtain ⟨⟨vs, k, e, _⟩, hd⟩ := S.has (x, .acc d z (ps.map tp)) (hp.mem_iff.mpr (by simp))
  obtain ⟨od, I⟩ := instAcc e hd
  refine kso_call (f := 75) (by have := r.un; show A.units + 1 + 1 < 9900; omega) X I (by kernel_rfl) (by kernel_rfl) ?_
  refine fn_str x d z ps hps hsz A.in1.in1 H K L bs c s _ _ ⟨r.hd, by have := r.dp; show A.depth + 1 ≤ 900; omega, by have := r.un; show A.units + 1 + 1 + 20 * 1 ≤ 9000; omega⟩ BH (S.perm hp) (.cons rfl .nil) fun v s' g own' y hv S' => ?_
  obtain ⟨rfl, rfl⟩ := y
  obtain ⟨t, rfl⟩ := hv
  exact q _ _ _ _ h ⟨_, rfl⟩ (S'.perm hp.symm)
end
end Mine
end
section
open PySem.Calls
open AutoSeq1 (wpAny_loadPart')
namespace Mine
noncomputable abbrev lawE (P : Params) (L : Addr) : Env := callEnvC (funcOf (o233 P)) L 233
noncomputable def lawR (f : Fl) (b : Bs) (o : Owns) : Prop := f = .ret (.bool true) ∧ Sub [(63, .raw TabO), (70, .raw TabO)] o
noncomputable def ownZ (L : Addr) (k : Int) (c : Nat) (g : Option Fv) : Owns := [(L + 1 + 1 + 1, .cell g), (L + 1 + 1, .cell (some (.str (T [c])))), (L + 1, .cell (some (.int k))), (63, .raw TabO), (70, .raw TabO)]
noncomputable def gtF (k : Int) (f : Fv) : Bool := match f with
  | .int x => decide (k < x)
  | _ => false
theorem gtF_filter (k : Int) (cs : List Int) : ((cs.map Fv.int).filter (gtF k)).map id = (cs.filter fun x => decide (k < x)).map .int := by
  rw [List.map_id, List.filter_map]
  congr 1
theorem due_snoc (cs : List Int) (N k : Nat) (h : k < N) : (dueN cs N).take (k + 1) = (dueN cs N).take k ++ [((cs.filter fun x => decide ((k : Int) < x)).length : Int)] := by
  have : (dueN cs N)[k]? = some ((cs.filter fun x => decide ((k : Int) < x)).length : Int) := by
    unfold dueN
    rw [List.getElem?_map, List.getElem?_range h]; rfl
  rw [List.take_add_one, this]; rfl
theorem dueN_len (cs : List Int) (N : Nat) : (dueN cs N).length = N := by simp [dueN]
section
variable {w : World} {mg mb : Str → Option Value} {H : Heap} {K : Kn} {n : Nat} {L : Addr} {bs : Bs} {own : Owns} {env : Env}
theorem Tv.postW {t : Sem Value} {R : Fv → Owns → Prop} (h : Tv w H K n L bs own t fun f o => ∃ o', Sub o' o ∧ R f o') : Tv w H K n L bs own t R := fun A s Q r S q =>
  h A s Q r S fun v s' f o y hv S' => by
    obtain ⟨o', hs, y⟩ := y
    exact q _ _ _ _ y hv (S'.sub hs)
theorem Sub.app {a b c d : Owns} (h : Sub a b) (k : Sub c d) : Sub (a ++ c) (b ++ d) := by
  obtain ⟨x, p⟩ := h
  obtain ⟨y, q⟩ := k
  refine ⟨x ++ y, (p.append q).trans ?_⟩
  rw [List.append_assoc, List.append_assoc]
  refine List.Perm.append_left a ?_
  rw [← List.append_assoc, ← List.append_assoc]
  exact List.Perm.append_right y List.perm_append_comm
theorem law_last {k : Int} {c : Nat} {boxes : List (List Nat)} {cs : List Int} {N : Nat} {ct : Addr} (B : Base w mg mb H) (X : LawF k c boxes cs N) :
    Tf w H K 5 (lawE w.params L).locals [(Str.ofString "first", .str (T boxes.flatten)), (Str.ofString "line", .str (T (linL k c boxes.flatten 4)))] (ownZ L k c (some (.ref ct))) (execs ((bodyOf (topSt 23)).drop 16) (lawE w.params L)) lawR := by
  have l4 := X.len 4 (by omega)
  refine Tf.cons (Tf.assign (by rfl) (Tv.callFn (G := noG) B (by rfl) (by rfl) (by rfl) rfl (by decide) (by decide) (Ts.cons (Tv.cell (by rfl) (by rfl) (.tail _ (.tail _ (.head _))) (Ts.cons (Tv.name (by rfl) (by rfl) (Ts.nil ⟨fun _ _ => trivial, (Fn.le (m := 5) (fn_turn k (linL k c boxes.flatten 4) (by omega))).mono ?_⟩))))) (.inr ⟨_, _, rfl, rfl⟩)))
  rintro g o ⟨rfl, rfl⟩
  refine Tf.cons (Tf.for_range (by rfl) (Tv.callT (id := "range") B (by rfl) (by decide +kernel) (by rfl) (Ts.cons (Tv.int (Ts.nil fun vals hvs => ?_)))))
  obtain ⟨v, rfl, hv⟩ := hvs.one
  refine range_ (N := 4) hv fun rg => ⟨rg, 4, fun i b r => BSub [(Str.ofString "first", .str (T boxes.flatten)), (Str.ofString "back", .str (T (linL k c (turnL k (linL k c boxes.flatten 4)) i)))] b ∧
      r = (rg, .raw (RangeO 4)) :: ownZ L k c (some (.ref ct)), rfl, by decide, .head _, ?_, ?_, ?_⟩
  · exact ⟨.cons rfl (.cons rfl .nil), rfl⟩
  · rintro i b r it hi ⟨hb, rfl⟩
    have bl := X.blen i (by omega)
    refine Tf.weak (bs' := [(Str.ofString "first", .str (T boxes.flatten)), (Str.ofString "back", .str (T (linL k c (turnL k (linL k c boxes.flatten 4)) i)))]) ?_ ?_ Sub.refl
    · refine Tf.cons (Tf.assign (by rfl) (Tv.callFn (G := noG) B (by rfl) (by rfl) (by rfl) rfl (by decide) (by decide) (Ts.cons (Tv.cell (by rfl) (by rfl) (.tail _ (.tail _ (.tail _ (.tail _ (.head _))))) (Ts.cons (Tv.name (by rfl) (by rfl) (Ts.cons (Tv.cell (by rfl) (by rfl) (.tail _ (.tail _ (.tail _ (.head _)))) (Ts.nil ⟨fun _ _ => trivial, (Fn.le (m := 5) (fn_step k (linL k c (turnL k (linL k c boxes.flatten 4)) i) [c] (by omega) (by simp))).mono ?_⟩))))))) (.inr ⟨_, _, rfl, rfl⟩)))
      rintro g o ⟨rfl, rfl⟩
      exact Tf.nil ⟨[(Str.ofString "first", .str (T boxes.flatten)), (Str.ofString "back", .str (T (linL k c (turnL k (linL k c boxes.flatten 4)) (i + 1))))], _, ⟨.cons rfl (.cons rfl .nil), rfl⟩, .cons rfl (.cons rfl .nil), Sub.refl⟩
    · refine .cons ?_ (.cons ?_ .nil)
      · rw [lookup_setB]; exact hb.get _ _ rfl
      · rw [lookup_setB]; exact hb.get _ _ rfl
  · rintro b r ⟨hb, rfl⟩
    have bl := X.blen 4 (by omega)
    refine Tf.weak (bs' := [(Str.ofString "first", .str (T boxes.flatten)), (Str.ofString "back", .str (T (linL k c (turnL k (linL k c boxes.flatten 4)) 4)))]) ?_ hb (Sub.skip Sub.refl)
    have bt := turnL_len k (linL k c (turnL k (linL k c boxes.flatten 4)) 4)
    have fs := X.fsz
    refine Tf.nil (Tf.cons (Tf.ret (Tv.compare1 (Tv.rstrip (Tv.callFn (G := noG) B (by rfl) (by rfl) (by rfl) rfl (by decide) (by decide) (Ts.cons (Tv.cell (by rfl) (by rfl) (.tail _ (.tail _ (.head _))) (Ts.cons (Tv.name (by rfl) (by rfl) (Ts.nil ⟨fun _ _ => trivial, (Fn.le (m := 5) (fn_turn k (linL k c (turnL k (linL k c boxes.flatten 4)) 4) (by omega))).mono ?_⟩))))) (.inr ⟨_, _, rfl, rfl⟩))))))
    rintro g o ⟨rfl, rfl⟩
    refine ⟨_, rfl, by omega, Tv.cell (by rfl) (by rfl) (.tail _ (.head _)) ⟨[c], rfl, ?_⟩⟩
    refine Tv.rstrip (Tv.name (by rfl) (by rfl) ⟨_, rfl, by omega, Tv.cell (by rfl) (by rfl) (.tail _ (.head _)) ⟨[c], rfl, ?_⟩⟩)
    intro v u hv hu
    refine eq_s hv hu ?_
    rw [X.home, beq_self_eq_true]
    exact ⟨rfl, Sub.skip (Sub.skip (Sub.skip Sub.refl))⟩
end
end Mine
end
section
open PySem.Calls
open AutoSeq1 (wpAny_loadPart')
namespace Mine
section
variable {w : World} {mg mb : Str → Option Value} {H : Heap} {K : Kn} {n : Nat} {L : Addr} {bs : Bs} {own : Owns} {env : Env}
/-- a name is given a list made by a comprehension, its name a cell -/
theorem Tf.assignW {x y : Str} {py spos : Pos} {tgt elt iter : Expr} {ifs : List Expr} {scope : Scope} {pos : Pos} {cl : List (Str × Addr)} {R : Fl → Bs → Owns → Prop} (hy : env.kindOf y = some .local)
    (h : Tv w H K n env.locals bs own (eval iter env) fun f o₁ => ∀ v, FIs v f → Tv w H K n env.locals bs o₁ (pyIter v) fun g o₂ => ∃ it N its Sd item rest, g = .ref it ∧ o₂ = its 0 ++ rest ∧
      Iter w H K tgt it N its Sd item ∧ ∀ C D cw, ∃ J : Nat → List Fv → Owns → Prop, J 0 [] ((cw, .cell Option.none) :: rest) ∧ Turns w H K n env.locals bs (compEnvW scope cl x cw C env) D it tgt elt ifs N its Sd item J ∧ ∀ ys r, J N ys r → R .next (setB y (.ref D) bs) ((D, .list ys) :: r))
    (hsw : swapsWith (.ListComp elt [⟨tgt, iter, ifs, 0⟩] scope pos) (some (.Name y py)) spos.line env = Pure.pure true := by rfl)
    (hclos : closureFor scope env = Pure.pure cl := by rfl) (hcf : ∀ n, cellsFrom n scope.names cl = (x, n) :: cl := by intro _; rfl) (hpc : ∀ h, pushCells h scope.names = h.push { cls := .type "cell", data := .cell Option.none } := by intro _; rfl) (hkind : scope.kind = .function := by rfl)
    (hnames : ∀ y ∈ scope.names, y.2 = .local → scope.names.lookup y.1 = some .local := by decide +kernel)
    (hs : ∀ x, foldedSetIterable iter env x = Pure.pure x := by intro _; rfl)
    (hp : (env.scope.kind == .class || (env.scope.kind == .module && env.locals != env.globals)) = false := by rfl) :
    Tf w H K n env.locals bs own (exec (.Assign [.Name y py] (.ListComp elt [⟨tgt, iter, ifs, 0⟩] scope pos) spos) env) R := fun A s Q r S q => by
  rw [exec_Assign_Name_used _ _ _ _ hsw]
  refine wpAny_bind (wpAny_standAt (wpAny_bind ?_))
  show PySem.wpAny _ A (do let _ ← comprehension (.ListComp elt [⟨tgt, iter, ifs, 0⟩] scope pos) scope env _ (newList []) false (eval iter env) (some (PySem.assign (.Name y py) env))) _ _ s
  refine wpAny_bind (PySem.wpAny_mono (wpAny_comprehension_free (use := some (PySem.assign (.Name y py) env)) (g := ⟨tgt, iter, ifs, 0⟩) (gs := []) (Q := fun _ s' => Q .next s') rfl hs hclos hkind hnames (h A s _ r S fun v s₁ f o₁ y0 hv S₁ => y0 v hv A s₁ _ r S₁ fun u s₂ g o₂ z hu S₂ => ?_)) (fun _ s' hq => wpAny_pure (wpAny_pure hq)) fun _ _ e => e)
  obtain ⟨it, N, its, Sd, item, rest, rfl, rfl, I, z⟩ := z
  obtain rfl := hu
  refine wpAny_newObj_type (newEnv_cell hcf hpc ?_)
  have S3 := S₂.push (o := { cls := .type "list", dict := Option.none, data := .seq ([] : List Value).toArray }) (t := s₂.toks) (w := .list []) ⟨_, 0, Heap.get?_push_size _ rfl, .nil⟩
  generalize hH2 : s₂.heap.push { cls := .type "list", dict := Option.none, data := .seq ([] : List Value).toArray } = H2 at S3 ⊢
  have S4 := S3.push (o := { cls := .type "dict", data := .dict #[] }) (t := s₂.toks) (w := .ns []) ⟨_, Heap.Ns.new H2 (.type "dict"), fun x f e => nomatch e⟩
  have S5 := S4.push (o := { cls := .type "cell", data := .cell Option.none }) (t := s₂.toks) (w := .cell Option.none) (.inl ⟨_, Heap.get?_push_size _ rfl, rfl, rfl⟩)
  rw [show ({ s₂ with heap := H2.push { cls := .type "dict", data := .dict #[] }, toks := s₂.toks } : Shared).heap.objs.size = H2.objs.size + 1 from Heap.size_push ..] at S5
  obtain ⟨J, h0, T, fin⟩ := z H2.objs.size s₂.heap.objs.size (H2.objs.size + 1)
  have S6 := (S5.perm (List.Perm.swap ..)).swapF.perm (own' := its 0 ++ ((s₂.heap.objs.size, .list []) :: (env.locals, .ns bs) :: (H2.objs.size + 1, .cell Option.none) :: rest)) (by
    refine List.Perm.trans ?_ (List.perm_middle (l₁ := its 0) (a := (s₂.heap.objs.size, Own.list [])) (l₂ := (env.locals, Own.ns bs) :: (H2.objs.size + 1, .cell Option.none) :: rest)).symm
    refine List.Perm.trans ?_ (List.Perm.cons _ (List.perm_middle (l₁ := its 0) (a := (env.locals, Own.ns bs)) (l₂ := (H2.objs.size + 1, .cell Option.none) :: rest)).symm)
    refine List.Perm.trans ?_ (List.Perm.cons _ (List.Perm.cons _ (List.perm_middle (l₁ := its 0) (a := (H2.objs.size + 1, Own.cell Option.none)) (l₂ := rest)).symm))
    refine (List.Perm.cons _ (List.Perm.swap ..)).trans ?_
    exact (List.Perm.swap ..))
  refine comp_core (cenv := compEnvW scope cl x (H2.objs.size + 1) H2.objs.size env) I T h0 r S6 fun s' b ys r' hJ S' => ?_
  show PySem.wpAny _ A (PySem.assign (.Name y py) env (.ref s₂.heap.objs.size)) _ _ _
  have S7 := (S'.perm (List.Perm.swap ..)).swapF
  refine wpAny_assign_Name (store_local hy S7 (f := .ref s₂.heap.objs.size) rfl (fun s'' S'' => ?_) hp)
  obtain ⟨m, hm, _⟩ := S''.has _ (.head _)
  refine ⟨m, hm, fun h' hs' => q _ _ .next _ _ (fin ys r' hJ) trivial ?_⟩
  exact St.offF S''.swapF hs'
end
end Mine
end
section
open PySem.Calls
open AutoSeq1 (wpAny_loadPart')
namespace Mine
section
variable {w : World} {mg mb : Str → Option Value} {H : Heap} {K : Kn} {n : Nat} {L : Addr} {bs : Bs} {own : Owns} {env : Env}
theorem fvi_mem {ls : List Int} {f : Fv} (h : f ∈ ls.map Fv.int) : ∃ i ∈ ls, f = .int i := by
  obtain ⟨i, hi, rfl⟩ := List.mem_map.mp h
  exact ⟨i, hi, rfl⟩
theorem law_due {k : Int} {c : Nat} {boxes : List (List Nat)} {cs : List Int} {N : Nat} {ct : Addr} (B : Base w mg mb H) (X : LawF k c boxes cs N) :
    Tf w H K 5 (lawE w.params L).locals [(Str.ofString "first", .str (T boxes.flatten)), (Str.ofString "line", .str (T (linL k c boxes.flatten 4)))] ((ct, .list (cs.map .int)) :: ownZ L k c (some (.ref ct))) (execs ((bodyOf (topSt 23)).drop 14) (lawE w.params L)) lawR := by
  have l4 := X.len 4 (by omega)
  have c4 := X.clen 4 (by omega)
  have hN := X.N20
  have hcs := X.csz
  have hcN := X.cN
  have hok := X.okb
  have hsi := X.siz
  have last := law_last (mg := mg) (mb := mb) (w := w) (H := H) (K := K) (L := L) (ct := ct) B X
  clear X
  generalize linL k c boxes.flatten 4 = ln at *
  refine Tf.cons (Tf.assignW (by rfl) (x := Str.ofString "word") (cl := [(Str.ofString "counts", L + 1 + 1 + 1)]) (Tv.callT (id := "range") B (by rfl) (by decide +kernel) (by rfl) (Ts.cons (Tv.callB (id := "sum") B (by rfl) (by decide +kernel) (by rfl) (Ts.cons (Tv.to1 (Tv.cell (by rfl) (by rfl) (.tail _ (.head _)) ⟨ct, cs.map .int, rfl, .inr (.head _), by rw [List.length_map]; omega, fun t1 => ?_⟩)))))))
  refine Ts.nil fun vals hvs => ?_
  obtain ⟨v, rfl, hv⟩ := hvs.one
  obtain rfl := hv
  refine sum_ (ns := cs.take 1) (.inr (by rw [List.map_take]; exact .head _)) ?_
  rw [hcN]
  refine Ts.nil fun vals hvs => ?_
  obtain ⟨v, rfl, hv⟩ := hvs.one
  refine range_ (N := N) hv fun rg v hv => ?_
  obtain rfl := hv
  refine Tv.iter_r (N := N) (by omega) (.head _) fun it => ⟨it, N, _, _, _, _, rfl, rfl, iter_range N (by intro _; rfl), fun C D cw => ⟨fun j ys r => ys = ((dueN cs N).take j).map .int ∧ ∃ g, r = (cw, .cell g) :: (rg, .raw (RangeO N)) :: (t1, .list ((cs.map Fv.int).take 1)) :: (ct, .list (cs.map .int)) :: ownZ L k c (some (.ref ct)), ⟨rfl, _, rfl⟩, ⟨?_, ?_⟩, ?_⟩⟩
  · rintro j ys r ⟨rfl, g, rfl⟩
    refine ⟨trivial, ?_⟩
    rw [List.length_map, List.length_take, dueN_len]; omega
  · rintro j ys b r v f ex hj ⟨rfl, g, rfl⟩ ⟨rfl, rfl⟩ hv
    refine Tu.cellName (i := 3) (c := cw) (g := g) (by rfl) (by rfl) (by rfl) hv ?_
    show Tv w H K 5 C _ _ _ _
    refine Tv.callB (env := compEnvW _ _ _ cw C _) (id := "len") B (by rfl) (by decide +kernel) (by rfl) (Ts.cons ?_)
    refine Tv.comp_l (env := compEnvW _ _ _ cw C _) (cl := [(Str.ofString "word", cw)]) (Tv.cell (env := compEnvW _ _ _ cw C _) (f := .ref ct) (by rfl) (by rfl) (.tail _ (.tail _ (.tail _ (.tail _ (.tail _ (.tail _ (.tail _ (.head _)))))))) ⟨ct, cs.map .int, gtF j, id, rfl, .inr (.tail _ (.tail _ (.tail _ (.tail _ (.tail _ (.tail _ (.head _))))))), by rw [List.length_map]; omega, fun f hf C' b o hb hq => ?_, fun D' => ?_⟩)
    · obtain ⟨x, hx, rfl⟩ := fvi_mem hf
      refine Tb.compare1 (Tv.name (env := compEnvC _ _ C' _) (by rfl) hb (Tv.cell (env := compEnvC _ _ C' _) (f := .int j) (by rfl) (by rfl) (hq _ (.tail _ (.tail _ (.tail _ (.head _))))) fun v u hv hu => gt_i hv hu ⟨_, rfl, Sub.refl, rfl, fun _ => ?_⟩))
      exact Tv.name (env := compEnvC _ _ C' _) (by rfl) hb ⟨Sub.refl, rfl⟩
    · rw [gtF_filter]
      refine Ts.nil fun vals hvs => ?_
      obtain ⟨v, rfl, hv⟩ := hvs.one
      obtain rfl := hv
      have hfl := List.length_filter_le (fun x => decide ((j : Int) < x)) cs
      refine len_l (.inr (.head _)) (by rw [List.length_map]; omega) ?_
      rw [List.length_map]
      refine ⟨_, Sub.skip Sub.refl, ?_, some (.int j), rfl⟩
      rw [due_snoc cs N j hj, List.map_append]; rfl
  · rintro ys r ⟨rfl, g, rfl⟩
    rw [List.take_of_length_le (by rw [dueN_len]; omega)]
    refine Tf.weak (bs' := [(Str.ofString "first", .str (T boxes.flatten)), (Str.ofString "line", .str (T (ln))), (Str.ofString "due", .ref D)]) (own' := (D, .list ((dueN cs N).map .int)) :: ownZ L k c (some (.ref ct))) ?_ (.cons rfl (.cons rfl (.cons rfl .nil))) (Sub.keep (Sub.skip (Sub.skip (Sub.skip (Sub.skip Sub.refl)))))
    refine Tf.cons (Tf.if_ (Tb.compare1 (Tv.callFn (G := noG) B (by rfl) (by rfl) (by rfl) rfl (by decide) (by decide) (Ts.cons (Tv.cell (by rfl) (by rfl) (.tail _ (.tail _ (.tail _ (.head _)))) (Ts.cons ?_))) (.inr ⟨_, _, rfl, rfl⟩))))
    refine Tv.callFn (G := noG) B (by rfl) (by rfl) (by rfl) rfl (by decide) (by decide) (Ts.cons ?_) (.inr ⟨_, _, rfl, rfl⟩)
    refine Tv.binop (Tv.cell (by rfl) (by rfl) (.tail _ (.tail _ (.head _))) ?_)
    refine Tv.name (by rfl) (by rfl) fun v u hv hu => ?_
    refine add_t (x := [c]) (y := ln) hv hu (by simp; omega) ?_
    refine Ts.cons (Tv.cell (by rfl) (by rfl) (.tail _ (.tail _ (.head _))) ?_)
    refine Ts.nil ⟨fun _ _ => trivial, (Fn.le (m := 5) (fn_capwords ([c] ++ ln) [c] (by simp; omega) (by simp) (by simp))).mono ?_⟩
    rintro g o ⟨rfl, rfl⟩
    refine Ts.nil ⟨fun _ _ => trivial, (Fn.le (m := 5) (fn_sizes k (capw (c :: ln) [c]) (by omega) hok)).mono ?_⟩
    rintro g o ⟨a, rfl, rfl⟩
    rw [hsi]
    refine Tv.rev (Tv.name (by rfl) (by rfl) ⟨D, _, rfl, .inr (.tail _ (.head _)), by rw [List.length_map, dueN_len]; omega, fun e v u hv hu => ?_⟩)
    obtain rfl := hv
    obtain rfl := hu
    refine ne_ints (xs := (dueN cs N).reverse) (ys := (dueN cs N).reverse) (.inr (.tail _ (.head _))) (.inr (by rw [List.map_reverse]; exact .head _)) rfl ⟨_, rfl, ?_⟩
    exact Tf.nil (Tf.weak last (.cons rfl (.cons rfl .nil)) (Sub.skip (Sub.skip (Sub.skip Sub.refl))))
end
end Mine
end
section
open PySem.Calls
open AutoSeq1 (wpAny_loadPart')
namespace Mine
noncomputable def forBody (st : Stmt) : List Stmt := match st with
  | .For _ _ b _ _ => b
  | _ => []
theorem flat_len2 : ∀ {ls : List (List Nat)}, (∀ l ∈ ls, l.length ≤ 2) → ls.flatten.length ≤ 2 * ls.length
  | [], _ => by simp
  | x :: r, h => by
    have := flat_len2 (ls := r) fun l hl => h l (.tail _ hl)
    have h1 := h x (.head _)
    rw [List.flatten_cons, List.length_append, List.length_cons]
    omega
theorem filt_true {α : Type} (l : List α) (F : α → List Nat) : (l.filter fun _ => true).map (fun q => Fv.str (T (F q))) = Fvs (l.map F) := by
  unfold Fvs
  rw [List.map_map, List.filter_eq_self.mpr fun _ _ => rfl]
  rfl
theorem pairF_len (c : Nat) (q : Nat × Nat) : (pairF c q).length ≤ 3 := by
  unfold pairF
  split
  · have := upT_len [q.2]
    simpa using this
  · simp
section
variable {w : World} {mg mb : Str → Option Value} {H : Heap} {K : Kn} {n : Nat} {L : Addr} {bs : Bs} {own : Owns} {env : Env}
theorem NoT.nil : NoT [] := fun p hp => nomatch hp
theorem NoT.cons {a : Addr} {v : Own} {o : Owns} (h : v.NT) (k : NoT o) : NoT ((a, v) :: o) := fun p hp => by
  rcases List.mem_cons.mp hp with rfl | hp
  · exact h
  · exact k p hp
noncomputable def bsC (bx : Addr) (F ln : List Nat) : Bs := [(Str.ofString "boxes", .ref bx), (Str.ofString "first", .str (T F)), (Str.ofString "line", .str (T ln))]
noncomputable def ownC (L : Addr) (k : Int) (c : Nat) (boxes : List (List Nat)) (cs : List Int) (bx ct : Addr) : Owns := (bx, .list (Fvs boxes)) :: (ct, .list (cs.map .int)) :: ownZ L k c (some (.ref ct))
theorem law_turn1 {k : Int} {c : Nat} {boxes : List (List Nat)} {cs : List Int} {N i : Nat} {ct bx it rg : Addr} {F ln : List Nat} (B : Base w mg mb H) (h1 : ln.length ≤ 200) (h2 : (capw (c :: ln) [c]).length ≤ 300)
    (h3 : capw (c :: ln) [c] = (((c :: c :: lowT ln).zip (c :: lowT ln)).map (pairF c)).flatten) (h4 : ((capw (c :: ln) [c]).filter grt).length = N) (h5 : (cs.take 1).sum = (N : Int)) (hcs : cs.length ≤ 20)
    (h6 : i = 0 → rstripT (stepL k ln [c]) [c] = rstripT (joinL [] (closed boxes [c] boxes).2) [c]) (hb : ∀ b ∈ boxes, b.length ≤ 2) (h7 : boxes.length = 7) :
    Tf w H K 5 (lawE w.params L).locals (setB (Str.ofString "step") (.int i) (bsC bx F ln)) ((it, .raw (RangeIt (i + 1) 4)) :: (rg, .raw (RangeO 4)) :: ownC L k c boxes cs bx ct) (execs (forBody ((bodyOf (topSt 23)).getD 13 default)) (lawE w.params L))
      fun fl b o => fl = .next ∧ BSub (bsC bx F (stepL k ln [c])) b ∧ Sub ((it, .raw (RangeIt (i + 1) 4)) :: (rg, .raw (RangeO 4)) :: ownC L k c boxes cs bx ct) o := by
  have hlow := lowT_len ln
  generalize hcap : capw (c :: ln) [c] = cap at *
  -- capped
  refine Tf.cons (Tf.assign (by rfl) (Tv.callFn (G := noG) B (by rfl) (by rfl) (by rfl) rfl (by decide) (by decide) (Ts.cons ?_) (.inr ⟨_, _, rfl, rfl⟩)))
  refine Tv.binop (Tv.cell (f := .str (T [c])) (by rfl) (by rfl) (.tail _ (.tail _ (.tail _ (.tail _ (.tail _ (.head _)))))) ?_)
  refine Tv.name (by rfl) (by rfl) fun v u hv hu => ?_
  refine add_t (x := [c]) (y := ln) hv hu (by simp; omega) ?_
  refine Ts.cons (Tv.cell (f := .str (T [c])) (by rfl) (by rfl) (.tail _ (.tail _ (.tail _ (.tail _ (.tail _ (.head _)))))) ?_)
  refine Ts.nil ⟨fun _ _ => trivial, (Fn.le (m := 5) (fn_capwords ([c] ++ ln) [c] (by simp; omega) (by simp) (by simp))).mono ?_⟩
  rintro g o ⟨rfl, rfl⟩
  rw [show capw ([c] ++ ln) [c] = cap from hcap]
  -- small
  refine Tf.cons (Tf.assign (by rfl) ?_)
  refine Tv.binop (Tv.cell (f := .str (T [c])) (by rfl) (by rfl) (.tail _ (.tail _ (.tail _ (.tail _ (.tail _ (.head _)))))) ?_)
  refine Tv.lower (Tv.name (by rfl) (by rfl) ⟨ln, rfl, by omega, fun v u hv hu => ?_⟩)
  refine add_t (x := [c]) (y := lowT ln) hv hu (by simp; omega) ?_
  generalize hlo : lowT ln = lo at *
  -- the pairs
  refine Tf.cons (Tf.if_ (Tb.compare1 (Tv.name (by rfl) (by rfl) ?_)))
  refine Tv.join (Tv.strT (l := []) (by decide +kernel) ⟨[], rfl, by simp, ?_⟩)
  refine Tv.comp_z (cl := [(Str.ofString "free", L + 1 + 1)]) (Tv.callT (id := "zip") B (by rfl) (by decide +kernel) (by rfl) (Ts.cons ?_))
  refine Tv.binop (Tv.cell (f := .str (T [c])) (by rfl) (by rfl) (.tail _ (.tail _ (.tail _ (.tail _ (.tail _ (.head _)))))) ?_)
  refine Tv.name (by rfl) (by rfl) fun v u hv hu => ?_
  refine add_t (x := [c]) (y := [c] ++ lo) hv hu (by simp; omega) ?_
  refine Ts.cons (Tv.name (by rfl) (by rfl) (Ts.nil fun vals hvs => ?_))
  obtain ⟨v, u, rfl, hv, hu⟩ := hvs.two
  refine zip_ (x := [c] ++ ([c] ++ lo)) (y := [c] ++ lo) hv hu fun z TI TO i1 i2 => ⟨z, TI, TO, i1, i2, _, c :: c :: lo, c :: lo, fun _ => true, fun q => .str (T (pairF c q)), rfl, rfl, by simp, by simp; omega, ?_, fun q hq C b o hbl hmem => ?_, fun D => ?_⟩
  · exact .cons trivial (.cons trivial (.cons trivial (.cons trivial (.cons trivial (.cons trivial (.cons trivial (.cons trivial (.cons trivial .nil))))))))
  · refine ⟨Sub.refl, rfl, fun _ => ?_⟩
    refine Tv.ifExp (Tb.compare1 (Tv.name (env := compEnvC _ _ C _) (by rfl) hbl.1 ?_))
    refine Tv.cell (env := compEnvC _ _ C _) (f := .str (T [c])) (by rfl) (by rfl) (hmem _ (.tail _ (.tail _ (.tail _ (.tail _ (.tail _ (.head _))))))) fun v u hv hu => ?_
    refine eq_s hv hu ⟨_, rfl, ?_⟩
    rw [T_beq]
    have hup : (upT [q.2]).length ≤ 100000 := by
      have := upT_len [q.2]
      simp at this; omega
    by_cases hqc : q.1 = c
    · rw [if_pos (by rw [hqc]; simp)]
      refine Tv.upper (Tv.name (env := compEnvC _ _ C _) (by rfl) hbl.2 ⟨[q.2], rfl, hup, Sub.refl, ?_⟩)
      show _ = Fv.str (T (pairF c q))
      rw [show pairF c q = upT [q.2] from if_pos hqc]
    · rw [if_neg (by simpa using hqc)]
      refine Tv.name (env := compEnvC _ _ C _) (by rfl) hbl.2 ⟨Sub.refl, ?_⟩
      show _ = Fv.str (T (pairF c q))
      rw [show pairF c q = [q.2] from if_neg hqc]
  rw [filt_true]
  refine ⟨D, _, rfl, .inr (.head _), by rw [List.length_map, List.length_zip]; simp; omega, fun l hl => ?_, fun v u hv hu => ?_⟩
  · obtain ⟨q, _, rfl⟩ := List.mem_map.mp hl
    have := pairF_len c q
    omega
  rw [joinL_nil, ← h3] at hu
  refine ne_s hv hu ⟨_, rfl, ?_⟩
  rw [bne_self_eq_false]
  refine Tf.nil ?_
  -- the great ones
  refine Tf.cons (Tf.if_ (Tb.compare1 (Tv.callB (id := "len") B (by rfl) (by decide +kernel) (by rfl) (Ts.cons ?_))))
  refine Tv.comp_s (cl := []) (Tv.name (by rfl) (by rfl) ⟨cap, grt, fun x => .str (T [x]), rfl, by omega, fun x hx C b o hbl hmem => ?_, fun D2 => ?_⟩)
  · refine Tb.mono (R := fun ok o' => ok = grt x ∧ o' = o) (Tb.chain2 (Tv.strT (l := [65]) (by decide +kernel) (Tv.name (env := compEnvC _ _ C _) (by rfl) hbl fun v u hv hu => le_t hv hu ⟨_, rfl, ?_⟩))) ?_
    · unfold grt
      cases h1 : !(decide ([x] < [65])) with
      | true => exact Tv.strT (l := [90]) (by decide +kernel) fun y hy => le_t hu hy ⟨_, rfl, rfl, rfl⟩
      | false => exact ⟨rfl, rfl⟩
    · rintro ok o' ⟨rfl, rfl⟩
      exact ⟨Sub.refl, rfl, fun _ => Tv.name (env := compEnvC _ _ C _) (by rfl) hbl ⟨Sub.refl, rfl⟩⟩
  refine Ts.nil fun vals hvs => ?_
  obtain ⟨v, rfl, hv⟩ := hvs.one
  obtain rfl := hv
  have hfl := List.length_filter_le grt cap
  refine len_l (.inr (.head _)) (by rw [List.length_map]; omega) ?_
  rw [List.length_map, h4]
  refine Tv.callB (id := "sum") B (by rfl) (by decide +kernel) (by rfl) (Ts.cons ?_)
  refine Tv.to1 (Tv.cell (f := .ref ct) (by rfl) (by rfl) (.tail _ (.tail _ (.tail _ (.tail _ (.tail _ (.tail _ (.head _))))))) ⟨ct, cs.map .int, rfl, .inr (.tail _ (.tail _ (.tail _ (.tail _ (.tail _ (.head _)))))), by rw [List.length_map]; omega, fun t1 => ?_⟩)
  refine Ts.nil fun vals hvs => ?_
  obtain ⟨v, rfl, hv⟩ := hvs.one
  obtain rfl := hv
  refine sum_ (ns := cs.take 1) (.inr (by rw [List.map_take]; exact .head _)) ?_
  rw [h5]
  intro v u hv hu
  refine ne_i hv hu ⟨_, rfl, ?_⟩
  rw [bne_self_eq_false]
  refine Tf.nil ?_
  -- the step
  refine Tf.weak (bs' := [(Str.ofString "boxes", .ref bx), (Str.ofString "first", .str (T F)), (Str.ofString "line", .str (T ln)), (Str.ofString "step", .int i)]) (own' := (it, .raw (RangeIt (i + 1) 4)) :: (rg, .raw (RangeO 4)) :: ownC L k c boxes cs bx ct) ?_ (.cons rfl (.cons rfl (.cons rfl (.cons rfl .nil)))) (Sub.skip (Sub.skip (Sub.skip Sub.refl)))
  refine Tf.cons (Tf.assign (by rfl) (Tv.callFn (G := noG) B (by rfl) (by rfl) (by rfl) rfl (by decide) (by decide) (Ts.cons ?_) (.inr ⟨_, _, rfl, rfl⟩)))
  refine Tv.cell (f := .int k) (by rfl) (by rfl) (.tail _ (.tail _ (.tail _ (.tail _ (.tail _ (.tail _ (.head _))))))) ?_
  refine Ts.cons (Tv.name (by rfl) (by rfl) ?_)
  refine Ts.cons (Tv.cell (f := .str (T [c])) (by rfl) (by rfl) (.tail _ (.tail _ (.tail _ (.tail _ (.tail _ (.head _)))))) ?_)
  refine Ts.nil ⟨fun _ _ => trivial, (Fn.le (m := 5) (fn_step k ln [c] (by omega) (by simp))).mono ?_⟩
  rintro g o ⟨rfl, rfl⟩
  have hsl := stepL_len k ln [c] (by simp)
  generalize stepL k ln [c] = l1 at *
  refine Tf.cons (Tf.if_ (Tb.boolOp (Tb.and_cons (Tb.compare1 (Tv.name (by rfl) (by rfl) (Tv.int fun v u hv hu => eq_i hv hu ⟨_, rfl, ?_⟩))))))
  by_cases hi : i = 0
  · rw [if_pos (by rw [hi]; rfl)]
    have h6 := h6 hi
    refine Tb.and_cons (Tb.compare1 (Tv.rstrip (Tv.name (by rfl) (by rfl) ⟨l1, rfl, by omega, ?_⟩)))
    refine Tv.cell (f := .str (T [c])) (by rfl) (by rfl) (.tail _ (.tail _ (.tail _ (.tail _ (.tail _ (.head _)))))) ⟨[c], rfl, ?_⟩
    refine Tv.rstrip (Tv.callFn (G := fun h => (Own.list (Fvs boxes)).At h bx) B (by rfl) (by rfl) (by rfl) rfl (by decide) (by decide) (Ts.cons ?_) (.inr ⟨_, _, rfl, rfl⟩))
    refine Tv.name (by rfl) (by rfl) ?_
    refine Ts.cons (Tv.cell (f := .str (T [c])) (by rfl) (by rfl) (.tail _ (.tail _ (.tail _ (.tail _ (.tail _ (.head _)))))) ?_)
    refine Ts.nil ⟨fun s S => S.has _ (.tail _ (.tail _ (.head _))), (Fn.le (m := 5) (fn_closed bx boxes [c] (by omega) (fun l hl => Nat.le_trans (hb l hl) (by decide)) (by simp))).mono ?_⟩
    rintro g o ⟨rfl, rfl⟩
    have hcl : (joinL [] (closed boxes [c] boxes).2).length ≤ 100000 := by
      rw [joinL_nil]
      have := flat_len2 (ls := (closed boxes [c] boxes).2) fun l hl => by
        rcases closed_mem _ _ _ l hl with rfl | h
        · simp
        · exact hb l h
      rw [closed_len, h7] at this
      omega
    generalize joinL [] (closed boxes [c] boxes).2 = jl at *
    refine ⟨jl, rfl, hcl, ?_⟩
    refine Tv.cell (f := .str (T [c])) (by rfl) (by rfl) (.tail _ (.tail _ (.tail _ (.tail _ (.tail _ (.head _)))))) ⟨[c], rfl, fun v u hv hu => ?_⟩
    refine ne_s hv hu ⟨_, rfl, ?_⟩
    rw [h6, bne_self_eq_false]
    exact Tf.nil (Tf.nil ⟨rfl, .cons rfl (.cons rfl (.cons rfl .nil)), Sub.refl⟩)
  · rw [if_neg (by rw [beq_iff_eq]; omega)]
    exact Tf.nil (Tf.nil ⟨rfl, .cons rfl (.cons rfl (.cons rfl .nil)), Sub.refl⟩)
end
end Mine
end
section
open PySem.Calls
open AutoSeq1 (wpAny_loadPart')
namespace Mine
section
variable {w : World} {mg mb : Str → Option Value} {H : Heap} {K : Kn} {n : Nat} {L : Addr} {bs : Bs} {own : Owns} {env : Env}
theorem bsC_up {bx : Addr} {F ln : List Nat} {i : Nat} {b : Bs} (h : BSub (bsC bx F ln) b) : BSub (setB (Str.ofString "step") (.int i) (bsC bx F ln)) (setB (Str.ofString "step") (.int i) b) := by
  refine .cons ?_ (.cons ?_ (.cons ?_ (.cons ?_ .nil)))
  · rw [lookup_setB]; exact h.get _ _ rfl
  · rw [lookup_setB]; exact h.get _ _ rfl
  · rw [lookup_setB]; exact h.get _ _ rfl
  · rw [lookup_setB]; rfl
theorem law_for {k : Int} {c : Nat} {boxes : List (List Nat)} {cs : List Int} {N : Nat} {ct bx : Addr} (B : Base w mg mb H) (X : LawF k c boxes cs N) (h7 : boxes.length = 7) :
    Tf w H K 5 (lawE w.params L).locals (bsC bx boxes.flatten boxes.flatten) (ownC L k c boxes cs bx ct) (execs ((bodyOf (topSt 23)).drop 13) (lawE w.params L)) lawR := by
  have last := law_due (mg := mg) (mb := mb) (w := w) (H := H) (K := K) (L := L) (ct := ct) B X
  refine Tf.cons (Tf.for_range (by rfl) (Tv.callT (id := "range") B (by rfl) (by decide +kernel) (by rfl) (Ts.cons (Tv.int (Ts.nil fun vals hvs => ?_)))))
  obtain ⟨v, rfl, hv⟩ := hvs.one
  refine range_ (N := 4) hv fun rg => ⟨rg, 4, fun i b r => BSub (bsC bx boxes.flatten (linL k c boxes.flatten i)) b ∧ r = (rg, .raw (RangeO 4)) :: ownC L k c boxes cs bx ct, rfl, by decide, .head _, ?_, ?_, ?_⟩
  · exact ⟨.cons rfl (.cons rfl (.cons rfl .nil)), rfl⟩
  · rintro i b r it hi ⟨hb, rfl⟩
    refine Tf.weak (Tf.mono (law_turn1 (bx := bx) (ct := ct) (F := boxes.flatten) (cs := cs) (it := it) (rg := rg) B (X.len i (by omega)) (X.clen i (by omega)) (X.cap i (by omega)) (X.ups i (by omega)) X.cN X.csz (fun h0 => by subst h0; exact X.clo) X.bsz h7) ?_) (bsC_up hb) Sub.refl
    rintro f b o ⟨rfl, h1, h2⟩
    exact ⟨bsC bx boxes.flatten (linL k c boxes.flatten (i + 1)), _, ⟨.cons rfl (.cons rfl (.cons rfl .nil)), rfl⟩, h1, h2⟩
  · rintro b r ⟨hb, rfl⟩
    refine Tf.nil (Tf.weak last ?_ (Sub.skip (Sub.skip Sub.refl)))
    exact .cons (hb.get _ _ rfl) (.cons (hb.get _ _ rfl) .nil)
end
end Mine
end
section
open PySem.Calls
open AutoSeq1 (wpAny_loadPart')
namespace Mine
section
variable {w : World} {mg mb : Str → Option Value} {H : Heap} {K : Kn} {n : Nat} {L : Addr} {bs : Bs} {own : Owns} {env : Env}
theorem lenS_tp (ps : PS) : lenS (ps.map tp) = (wt ps : Int) := by
  induction ps with
  | nil => rfl
  | cons p r ih =>
    have e : lenS ((p :: r).map tp) = ((tp p).1.length : Int) + ((tp p).2.length : Int) + lenS (r.map tp) := by simp [lenS]
    have e2 : wt (p :: r) = p.1.length + p.2.length + wt r := by simp [wt]
    rw [e, e2, ih]
    show (((T p.1).length : Nat) : Int) + (((T p.2).length : Nat) : Int) + _ = _
    rw [T_len, T_len]
    omega
theorem law_pile {k : Int} {c : Nat} {boxes : List (List Nat)} {cs : List Int} {N : Nat} {bx : Addr} (B : Base w mg mb H) (X : LawF k c boxes cs N) (h7 : boxes.length = 7) :
    Tf w H K 5 (lawE w.params L).locals [(Str.ofString "boxes", .ref bx), (Str.ofString "first", .str (T boxes.flatten))] ((bx, .list (Fvs boxes)) :: ownZ L k c none) (execs ((bodyOf (topSt 23)).drop 8) (lawE w.params L)) lawR := by
  have last := fun ct => law_for (mg := mg) (mb := mb) (w := w) (H := H) (K := K) (L := L) (ct := ct) (bx := bx) B X h7
  have fsz := X.fsz
  have back := X.back
  have parts := X.parts
  have cnt := X.cnt
  have csz := X.csz
  have wtF := rd_wt k boxes.flatten
  have bnd := rd_bnd k boxes.flatten
  have tl := turnL_len k boxes.flatten
  clear X
  generalize boxes.flatten = F at *
  generalize hrd : rd k F = rdv at *
  refine Tf.cons (Tf.assign2 (by rfl) (by rfl) (Tv.callFn (G := noG) B (by rfl) (by rfl) (by rfl) rfl (by decide) (by decide) (Ts.cons ?_) (.inr ⟨_, _, rfl, rfl⟩)))
  refine Tv.cell (f := .int k) (by rfl) (by rfl) (.tail _ (.tail _ (.tail _ (.head _)))) ?_
  refine Ts.cons (Tv.name (by rfl) (by rfl) ?_)
  refine Ts.nil ⟨fun _ _ => trivial, (Fn.le (m := 5) (fn_read k F (by omega))).mono ?_⟩
  rintro g o ⟨t, p, d, rfl, rfl⟩
  rw [hrd]
  refine ⟨t, _, _, rfl, .head _, ?_⟩
  -- str and len
  refine Tf.weak (bs' := [(Str.ofString "boxes", .ref bx), (Str.ofString "first", .str (T F)), (Str.ofString "pile", .ref p), (Str.ofString "behind", .str (T rdv.2))]) (own' := (p, .acc d 0 (rdv.1.map tp)) :: (bx, .list (Fvs boxes)) :: ownZ L k c none) ?_ (.cons rfl (.cons rfl (.cons rfl (.cons rfl .nil)))) (Sub.skip Sub.refl)
  have hps : (rdv.1.map tp).length ≤ 1000 := by rw [List.length_map]; have := bnd.1.1; omega
  refine Tf.cons (Tf.if_ (Tb.boolOp (Tb.or_cons (Tb.compare1 (Tv.binop (Tv.callT (id := "str") B (by rfl) (by decide +kernel) (by rfl) (Ts.cons ?_)))))))
  refine Tv.name (by rfl) (by rfl) (Ts.nil fun vals hvs => ?_)
  obtain ⟨v, rfl, hv⟩ := hvs.one
  obtain rfl := hv
  have hb1 := bnd.1.2
  refine str_acc (d := d) (z := 0) (ps := rdv.1) B (Sub.perm (a := [(p, .acc d 0 (rdv.1.map tp)), (70, .raw TabO)]) (Sub.keep (Sub.skip (Sub.skip (Sub.skip (Sub.skip (Sub.skip (Sub.keep Sub.nil))))))) (List.Perm.swap ..)) (by have := bnd.1.1; omega) (fun q hq => by obtain ⟨a, b⟩ := hb1 q hq; constructor <;> omega) (by decide) ?_
  have hsp : (strP rdv.1).length ≤ F.length := by
    have := congrArg List.length back
    rw [List.length_append] at this
    show ((rdv.1.map fun p => p.1 ++ p.2).flatten).length ≤ _
    omega
  refine Tv.name (by rfl) (by rfl) fun v u hv hu => ?_
  refine add_t (x := strP rdv.1) (y := rdv.2) hv hu (by omega) ?_
  rw [show strP rdv.1 ++ rdv.2 = F from back]
  refine Tv.name (by rfl) (by rfl) fun v u hv hu => ?_
  refine ne_s hv hu ⟨_, rfl, ?_⟩
  rw [bne_self_eq_false, if_neg Bool.false_ne_true]
  refine Tb.or_cons (Tb.compare1 (Tv.binop (Tv.callB (id := "len") B (by rfl) (by decide +kernel) (by rfl) (Ts.cons ?_))))
  refine Tv.name (by rfl) (by rfl) (Ts.nil fun vals hvs => ?_)
  obtain ⟨v, rfl, hv⟩ := hvs.one
  obtain rfl := hv
  refine len_acc (d := d) (z := 0) (ps := rdv.1.map tp) B (Sub.perm (a := [(p, .acc d 0 (rdv.1.map tp)), (63, .raw TabO)]) (Sub.keep (Sub.skip (Sub.skip (Sub.skip (Sub.skip (Sub.keep Sub.nil)))))) (List.Perm.swap ..)) hps (fun q hq => ?_) (by decide) (by rw [lenS_tp]; omega) (by rw [lenS_tp]; omega) ?_
  · obtain ⟨q', hq', rfl⟩ := List.mem_map.mp hq
    obtain ⟨a, b⟩ := hb1 q' hq'
    show (T q'.1).length ≤ 10000 ∧ (T q'.2).length ≤ 10000
    rw [T_len, T_len]
    constructor <;> omega
  refine Tv.callB (id := "len") B (by rfl) (by decide +kernel) (by rfl) (Ts.cons ?_)
  refine Tv.name (by rfl) (by rfl) (Ts.nil fun vals hvs => ?_)
  obtain ⟨v, rfl, hv⟩ := hvs.one
  refine len_s hv (by rw [T_len]; have : (100000 : Nat) ≤ sizeLine := by decide
                      omega) fun v u hv hu => ?_
  refine add_i hv hu ?_
  rw [lenS_tp, T_len]
  refine Tv.callB (id := "len") B (by rfl) (by decide +kernel) (by rfl) (Ts.cons ?_)
  refine Tv.name (by rfl) (by rfl) (Ts.nil fun vals hvs => ?_)
  obtain ⟨v, rfl, hv⟩ := hvs.one
  refine len_s hv (by rw [T_len]; have : (100000 : Nat) ≤ sizeLine := by decide
                      omega) fun v u hv hu => ?_
  refine ne_i hv hu ⟨_, rfl, ?_⟩
  rw [T_len, show (0 + (wt rdv.1 : Int) + (rdv.2.length : Int)) = (F.length : Int) from by omega, bne_self_eq_false, if_neg Bool.false_ne_true]
  refine Tb.or_nil (Tf.nil ?_)
  -- the parts
  refine Tf.cons (Tf.if_ (Tb.compare1 (Tv.partM (i := 0) B (by rfl) (by rfl) (by rfl) (by decide) ?_)))
  refine Tv.callB (id := "len") B (by rfl) (by decide +kernel) (by rfl) (Ts.cons ?_)
  refine Tv.comp_l (cl := [(Str.ofString "free", L + 1 + 1)]) (Tv.name (by rfl) (by rfl) ⟨bx, Fvs boxes, pS [c], id, rfl, .inr (.tail _ (.head _)), by rw [fvs_len]; omega, fun f hf C b o hb hq => ?_, fun D => ?_⟩)
  · obtain ⟨y, hy, rfl⟩ := fvs_mem hf
    refine Tb.compare1 (Tv.name (env := compEnvC _ _ C _) (by rfl) hb ?_)
    refine Tv.cell (env := compEnvC _ _ C _) (f := .str (T [c])) (by rfl) (by rfl) (hq _ (.tail _ (.tail _ (.tail _ (.head _))))) fun v u hv hu => ?_
    refine ne_s hv hu ⟨_, rfl, Sub.refl, rfl, fun _ => ?_⟩
    exact Tv.name (env := compEnvC _ _ C _) (by rfl) hb ⟨Sub.refl, rfl⟩
  rw [fvs_filter]
  refine Ts.nil fun vals hvs => ?_
  obtain ⟨v, rfl, hv⟩ := hvs.one
  obtain rfl := hv
  have hfl := List.length_filter_le (· != [c]) boxes
  refine len_l (.inr (.head _)) (by rw [fvs_len]; omega) fun v u hv hu => ?_
  rw [fvs_len, ← parts] at hu
  refine ne_i hv hu ⟨_, rfl, ?_⟩
  rw [bne_self_eq_false]
  refine Tf.nil ?_
  -- the counts
  refine Tf.weak (bs' := [(Str.ofString "boxes", .ref bx), (Str.ofString "first", .str (T F))]) (own' := (bx, .list (Fvs boxes)) :: ownZ L k c none) ?_ (.cons rfl (.cons rfl .nil)) (Sub.skip (Sub.skip Sub.refl))
  refine Tf.cons (Tf.assignC (c := L + 1 + 1 + 1) (by rfl) (by rfl) (Tv.postW ?_))
  refine Tv.callFn (G := noG) B (by rfl) (by rfl) (by rfl) rfl (by decide) (by decide) (Ts.cons ?_) (.inr ⟨_, _, rfl, rfl⟩)
  refine Tv.cell (f := .int k) (by rfl) (by rfl) (.tail _ (.tail _ (.tail _ (.head _)))) ?_
  refine Ts.cons (Tv.name (by rfl) (by rfl) ?_)
  refine Ts.cons (Tv.cell (f := .str (T [c])) (by rfl) (by rfl) (.tail _ (.tail _ (.head _))) ?_)
  refine Ts.nil ⟨fun _ _ => trivial, (fn_counts k F [c] cs 20 (by decide) (by omega) (by simp) (by simp) cnt).mono ?_⟩
  rintro g o ⟨ct, rfl, ho⟩
  refine ⟨_, Sub.app ho Sub.refl, 2, none, rfl, ?_⟩
  refine Tf.cons (Tf.assign (by rfl) (Tv.name (by rfl) (by rfl) ?_))
  refine Tf.weak (last ct) (.cons rfl (.cons rfl (.cons rfl .nil))) ?_
  exact Sub.perm Sub.refl (List.Perm.swap ..)
end
end Mine
end
section
open PySem.Calls
open AutoSeq1 (wpAny_loadPart')
namespace Mine
section
variable {w : World} {mg mb : Str → Option Value} {H : Heap} {K : Kn} {n : Nat} {L : Addr} {bs : Bs} {own : Owns} {env : Env}
noncomputable def bsE (bx : Addr) (F : List Nat) : Bs := [(Str.ofString "boxes", .ref bx), (Str.ofString "first", .str (T F))]
noncomputable def ownE (L : Addr) (k : Int) (c : Nat) (boxes : List (List Nat)) (bx : Addr) : Owns := (bx, .list (Fvs boxes)) :: ownZ L k c none
theorem law_lone {k : Int} {c : Nat} {boxes : List (List Nat)} {F : List Nat} {bx : Addr} (B : Base w mg mb H)
    (last : Tf w H K 5 (lawE w.params L).locals (bsE bx F) (ownE L k c boxes bx) (execs ((bodyOf (topSt 23)).drop 8) (lawE w.params L)) lawR) :
    Tf w H K 5 (lawE w.params L).locals (bsE bx F) (ownE L k c boxes bx) (execs ((bodyOf (topSt 23)).drop 5) (lawE w.params L)) lawR := by
  refine Tf.cons (Tf.assign (by rfl) (Tv.make1 B (by rfl) (by decide) (Tv.int ⟨1, rfl, fun x d => ?_⟩)))
  -- the four
  refine Tf.cons (Tf.if_ (Tb.boolOp (Tb.or_cons (Tb.compare1 (Tv.popM (i := 0) (d := d) (z := 1) (ps := []) B (by rfl) (by rfl) (by rfl) (by decide) (by decide) fun t => ?_)))))
  refine Tv.tuple (Ts.cons (Tv.strT (l := []) (by decide +kernel) ?_))
  refine Ts.cons (Tv.strT (l := []) (by decide +kernel) ?_)
  refine Ts.nil ⟨Nat.le_of_ble_eq_true rfl, fun t2 v u hv hu => ?_⟩
  obtain rfl := hv
  obtain rfl := hu
  refine ne_tup (x := []) (y := []) (x' := []) (y' := []) (.tail _ (.head _)) (.head _) ⟨_, rfl, ?_⟩
  show if false = true then _ else _
  rw [if_neg Bool.false_ne_true]
  refine Tb.or_cons (Tb.compare1 ?_)
  refine Tv.pushM (p := x) B (by rfl) (by rfl) ⟨d, 1, [], .tail _ (.tail _ (.head _))⟩ (by decide) ?_
  refine Tv.strT (l := []) (by decide +kernel) ?_
  refine Tv.strT (l := []) (by decide +kernel) ⟨2, d, 1, [], [], [], rfl, rfl, by rfl, by decide, ?_⟩
  refine Tv.none fun v u hv hu => ?_
  refine isnot_n hv hu ⟨_, rfl, ?_⟩
  rw [if_neg Bool.false_ne_true]
  refine Tb.or_cons (Tb.compare1 (Tv.partM (i := 2) (d := d) (z := 1) (ps := [([], [])]) B (by rfl) (by rfl) (by rfl) (by decide) ?_))
  refine Tv.int fun v u hv hu => ?_
  refine ne_i hv hu ⟨_, rfl, ?_⟩
  show if false = true then _ else _
  rw [if_neg Bool.false_ne_true]
  refine Tb.or_cons (Tb.compare1 (Tv.popM (i := 2) (d := d) (z := 1) (ps := [([], [])]) B (by rfl) (by rfl) (by rfl) (by decide) (by decide) fun t3 => ?_))
  refine Tv.tuple (Ts.cons (Tv.strT (l := []) (by decide +kernel) ?_))
  refine Ts.cons (Tv.strT (l := []) (by decide +kernel) ?_)
  refine Ts.nil ⟨Nat.le_of_ble_eq_true rfl, fun t4 v u hv hu => ?_⟩
  obtain rfl := hv
  obtain rfl := hu
  refine ne_tup (x := []) (y := []) (x' := []) (y' := []) (.tail _ (.head _)) (.head _) ⟨_, rfl, ?_⟩
  show if false = true then _ else _
  rw [if_neg Bool.false_ne_true]
  refine Tb.or_nil (Tf.nil ?_)
  -- the first size
  refine Tf.weak (bs' := [(Str.ofString "boxes", .ref bx), (Str.ofString "first", .str (T F)), (Str.ofString "lone", .ref x)]) (own' := (x, .acc d 1 []) :: ownE L k c boxes bx) ?_ (.cons rfl (.cons rfl (.cons rfl .nil))) (Sub.skip (Sub.skip (Sub.skip (Sub.skip Sub.refl))))
  refine Tf.cons (Tf.if_ (Tb.boolOp (Tb.or_cons (Tb.compare1 (Tv.partM (i := 0) (d := d) (z := 1) (ps := []) B (by rfl) (by rfl) (by rfl) (by decide) ?_)))))
  refine Tv.int fun v u hv hu => ?_
  refine ne_i hv hu ⟨_, rfl, ?_⟩
  show if false = true then _ else _
  rw [if_neg Bool.false_ne_true]
  refine Tb.or_cons (Tb.compare1 (Tv.callB (id := "len") B (by rfl) (by decide +kernel) (by rfl) (Ts.cons ?_)))
  refine Tv.name (by rfl) (by rfl) (Ts.nil fun vals hvs => ?_)
  obtain ⟨v, rfl, hv⟩ := hvs.one
  obtain rfl := hv
  refine len_acc (d := d) (z := 1) (ps := []) B (Sub.perm (a := [(x, .acc d 1 []), (63, .raw TabO)]) (Sub.keep (Sub.skip (Sub.skip (Sub.skip (Sub.skip (Sub.keep Sub.nil)))))) (List.Perm.swap ..)) (by decide) (fun q hq => nomatch hq) (by decide) (by decide) (by decide) ?_
  refine Tv.int fun v u hv hu => ?_
  refine ne_i hv hu ⟨_, rfl, ?_⟩
  show if false = true then _ else _
  rw [if_neg Bool.false_ne_true]
  refine Tb.or_nil (Tf.nil ?_)
  exact Tf.weak last (.cons rfl (.cons rfl .nil)) (Sub.skip Sub.refl)
theorem law_signs {k : Int} {c : Nat} {boxes : List (List Nat)} {F : List Nat} {bx : Addr} (B : Base w mg mb H) (hF : F.length ≤ 200) (hfre : ∀ x ∈ F, isFree k x = (x == c))
    (last : Tf w H K 5 (lawE w.params L).locals (bsE bx F) (ownE L k c boxes bx) (execs ((bodyOf (topSt 23)).drop 5) (lawE w.params L)) lawR) :
    Tf w H K 5 (lawE w.params L).locals (bsE bx F) (ownE L k c boxes bx) (execs ((bodyOf (topSt 23)).drop 4) (lawE w.params L)) lawR := by
  refine Tf.cons (Tf.if_ (Tb.compare1 ?_))
  refine Tv.comp_s (cl := [(Str.ofString "kind", L + 1), (Str.ofString "free", L + 1 + 1)]) (Tv.name (by rfl) (by rfl) ⟨F, fun _ => false, fun x => .str (T [x]), rfl, by omega, fun x hx C b o hb hmem => ?_, fun D => ?_⟩)
  · refine Tb.compare1 (Tv.callFn (env := compEnvC _ _ C _) (G := noG) B (by rfl) (by rfl) (by rfl) rfl (by decide) (by decide) (Ts.cons ?_) (.inr ⟨_, _, rfl, rfl⟩))
    refine Tv.cell (env := compEnvC _ _ C _) (f := .int k) (by rfl) (by rfl) (hmem _ (.tail _ (.tail _ (.tail _ (.head _))))) ?_
    refine Ts.cons (Tv.name (env := compEnvC _ _ C _) (by rfl) hb ?_)
    refine Ts.nil ⟨fun _ _ => trivial, (Fn.le (m := 5) (fn_free k x)).mono ?_⟩
    rintro g o' ⟨rfl, rfl⟩
    refine Tv.compare1 (Tv.name (env := compEnvC _ _ C _) (by rfl) hb ?_)
    refine Tv.cell (env := compEnvC _ _ C _) (f := .str (T [c])) (by rfl) (by rfl) (hmem _ (.tail _ (.tail _ (.head _)))) fun v u hv hu => ?_
    refine eq_s hv hu fun v u hv hu => ?_
    refine isnot_b hv hu ⟨_, rfl, Sub.refl, ?_, fun h => ?_⟩
    · rw [T_beq, hfre x hx]
      by_cases h : x = c
      · subst h; simp
      · simp [h]
    · rw [T_beq, hfre x hx] at h
      by_cases h' : x = c
      · subst h'; simp at h
      · simp [h'] at h
  have e0 : ((F.filter fun _ => false).map fun x => Fv.str (T [x])) = [] := by simp
  rw [e0]
  refine Tv.list (Ts.nil ⟨Nat.le_of_ble_eq_true rfl, fun e v u hv hu => ?_⟩)
  obtain rfl := hv
  obtain rfl := hu
  refine ne_nil (.inr (.tail _ (.head _))) (.inr (.head _)) ⟨_, rfl, ?_⟩
  refine Tf.nil ?_
  exact Tf.weak last (.cons rfl (.cons rfl .nil)) (Sub.skip (Sub.skip Sub.refl))
end
end Mine
end
section
open PySem.Calls
open AutoSeq1 (wpAny_loadPart')
namespace Mine
section
variable {w : World} {mg mb : Str → Option Value} {H : Heap} {K : Kn} {n : Nat} {L : Addr} {bs : Bs} {own : Owns} {env : Env}
theorem kind_bsd {k c : Nat} {bsd : List (List Nat)} (h : KindOk k c bsd) : bsd ≠ [] ∧ bsd.length ≤ 100 ∧ ∀ s ∈ bsd, s.length ≤ 1 := by
  cases h <;> exact ⟨by simp, by simp, by decide⟩
theorem law_body {a : Addr} {ns : List Int} (B : Base w mg mb H) (hG : (Own.list (ns.map .int)).At H a) :
    Tf w H K 5 (lawE w.params L).locals [(Str.ofString "script", .ref a)] [(L + 1 + 1 + 1, .cell none), (L + 1 + 1, .cell none), (L + 1, .cell none), (63, .raw TabO), (70, .raw TabO)] (execs (bodyOf (topSt 23)) (lawE w.params L)) lawR := by
  refine Tf.cons (Tf.assign (by rfl) (Tv.callFn (G := fun h => (Own.list (ns.map .int)).At h a) B (by rfl) (by rfl) (by rfl) rfl (by decide) (by decide) (Ts.cons ?_) (.inr ⟨_, _, rfl, rfl⟩)))
  refine Tv.name (by rfl) (by rfl) ?_
  refine Ts.nil ⟨fun s S => hG.ext S.keep, (Fn.le (m := 5) (fn_cells a ns)).mono ?_⟩
  rintro g o ⟨b, c0, c1, c2, rfl, rfl⟩
  -- the kind
  refine Tf.cons (Tf.assignT (Tv.callFn (G := noG) B (by rfl) (by rfl) (by rfl) rfl (by decide) (by decide) (Ts.cons ?_) (.inr ⟨_, _, rfl, rfl⟩)))
  refine Tv.sub (Tv.name (by rfl) (by rfl) ?_)
  refine Tv.int fun v u hv hu => ?_
  obtain rfl := hv
  refine ⟨ty_list (.inr (.head _)), get_list (i := 0) (.inr (.head _)) hu (by decide) (by decide) (by rfl) ?_⟩
  refine Ts.nil ⟨fun _ _ => trivial, (Fn.le (m := 5) (fn_kind c0)).mono ?_⟩
  rintro g o ⟨t, l, k, c, bsd, rfl, rfl, hk⟩
  refine ⟨t, rfl, Tu.tup3 (.head _) fun v1 v2 v3 h1 h2 h3 => ?_⟩
  refine Tu.cellName (i := 5) (c := L + 1) (g := none) (by rfl) (by rfl) (by rfl) h1 ?_
  refine Tu.cellName (i := 4) (c := L + 1 + 1) (g := none) (by rfl) (by rfl) (by rfl) h2 ?_
  refine Tu.name (by rfl) h3 ?_
  obtain ⟨hb0, hb1, hb2⟩ := kind_bsd hk
  -- the boxes
  refine Tf.weak (bs' := [(Str.ofString "cells", .ref b), (Str.ofString "besides", .ref l)]) (own' := (l, .list (Fvs bsd)) :: (b, .list [.int c0, .int c1, .int c2]) :: ownZ L k c none) ?_ (.cons rfl (.cons rfl .nil)) (Sub.skip Sub.refl)
  refine Tf.cons (Tf.assign (by rfl) (Tv.postW ?_))
  refine Tv.callFn (G := fun h => (Own.list (Fvs bsd)).At h l) B (by rfl) (by rfl) (by rfl) rfl (by decide) (by decide) (Ts.cons ?_) (.inr ⟨_, _, rfl, rfl⟩)
  refine Tv.sub (Tv.name (by rfl) (by rfl) ?_)
  refine Tv.int fun v u hv hu => ?_
  obtain rfl := hv
  refine ⟨ty_list (.inr (.tail _ (.head _))), get_list (i := 1) (.inr (.tail _ (.head _))) hu (by decide) (by decide) (by rfl) ?_⟩
  refine Ts.cons ?_
  refine Tv.sub (Tv.name (by rfl) (by rfl) ?_)
  refine Tv.int fun v u hv hu => ?_
  obtain rfl := hv
  refine ⟨ty_list (.inr (.tail _ (.head _))), get_list (i := 2) (.inr (.tail _ (.head _))) hu (by decide) (by decide) (by rfl) ?_⟩
  refine Ts.cons (Tv.cell (f := .str (T [c])) (by rfl) (by rfl) (.tail _ (.tail _ (.tail _ (.head _)))) ?_)
  refine Ts.cons (Tv.name (by rfl) (by rfl) ?_)
  refine Ts.nil ⟨fun s S => S.has _ (.head _), (Fn.le (m := 5) (fn_boxes c1 c2 c l bsd hb1 hb0 hb2)).mono ?_⟩
  rintro g o ⟨bx, boxes, rfl, ho, h7, hok⟩
  refine ⟨_, Sub.app ho (Sub.skip (Sub.skip Sub.refl)), ?_⟩
  obtain ⟨cs, N, X⟩ := law_plain hk hok h7
  -- the line
  have hbz := X.bsz
  refine Tf.cons (Tf.assign (by rfl) (Tv.join (Tv.strT (l := []) (by decide +kernel) ⟨[], rfl, by decide, ?_⟩)))
  refine Tv.name (by rfl) (by rfl) ⟨bx, boxes, rfl, .inr (.head _), by omega, fun l hl => Nat.le_trans (hbz l hl) (by decide), ?_⟩
  rw [joinL_nil]
  refine Tf.weak (bs' := bsE bx boxes.flatten) (own' := ownE L k c boxes bx) ?_ (.cons rfl (.cons rfl .nil)) Sub.refl
  exact law_signs B X.fsz X.fre (law_lone B (law_pile B X h7))
end
end Mine
end
section
open PySem.Calls
open AutoSeq1 (wpAny_loadPart')
namespace Mine
theorem look_of_map : ∀ (K : List (Addr × Obj)) (f : Addr → Option Obj), (K.map (·.1)).map f = K.map (fun p => some p.2) → ∀ a o, K.lookup a = some o → f a = some o
  | [], _, _, a, o, e => by cases e
  | (b, x) :: r, f, h, a, o, e => by
    rw [List.map_cons, List.map_cons, List.map_cons, List.cons.injEq] at h
    rw [List.lookup_cons] at e
    cases hb : a == b with
    | true =>
      rw [hb] at e
      cases e
      rw [beq_iff_eq.mp hb]
      exact h.1
    | false =>
      rw [hb] at e
      exact look_of_map r f h.2 a o e
theorem kas_eq (P : Params) : KAs = (KF P).map (·.1) := by kernel_rfl
theorem kf_in {w : World} {s₀ : Shared} {h : Heap} (y : Yf s₀ = Ya w) (k : ∀ b o, s₀.heap.get? b = some o → h.get? b = some o) : ∀ a o, (KF w.params).lookup a = some o → h.get? a = some o := fun a o e => by
  refine k a o (look_of_map (KF w.params) s₀.heap.get? ?_ a o e)
  rw [← kas_eq]
  exact y
theorem base_of {w : World} {mg mb : Str → Option Value} {h : Heap} (X : ∀ a o, (KF w.params).lookup a = some o → h.get? a = some o) (g : h.Ns mainGlobals mg) (b : h.Ns builtinsNs mb) (nl : h.NoLimit) (mbs : ∀ x : Str, x ≠ "__name__" → mb x = bootBuiltins x) : Base w mg mb h :=
  ⟨fun a o e _ _ => X a o e, g, b, nl, fun x v e => by
    have X' : (KF w.params).In h := X
    cases v with
    | none => exact mg_none_of X' g e
    | some v => exact mg_of X' g e, mbs⟩
theorem Base.drop {w : World} {mg mb : Str → Option Value} {h : Heap} (B : Base w mg mb h) : Base w mg mb (dropH h [63, 70]) := by
  refine ⟨fun a o e n1 n2 => ?_, B.g.at' fun o e => ?_, B.b.at' fun o e => ?_, ?_, B.mgs, B.mbs⟩
  · rw [dropH_out (by simp [n1, n2])]; exact B.k a o e n1 n2
  · rw [dropH_out (by decide)]; exact e
  · rw [dropH_out (by decide)]; exact e
  · obtain ⟨mc, hn, hz⟩ := B.nl
    exact ⟨mc, hn.at' fun o e => by rw [dropH_out (by decide)]; exact e, hz⟩
section
variable {w : World} {mg mb : Str → Option Value}
theorem law_call {a : Addr} {ns : List Int} {A : Around} {s : Shared} {Q : Value → Shared → Prop} (r : Room 6 A) (B : Base w mg mb s.heap) (hg : AllBare s.gens) (hl : (Own.list (ns.map .int)).At s.heap a)
    (t63 : (Own.raw TabO).At s.heap 63) (t70 : (Own.raw TabO).At s.heap 70)
    (q : ∀ s', AllBare s'.gens → s'.os = s.os → Ext (dropH s.heap [63, 70]) s'.heap → (Own.raw TabO).At s'.heap 63 → (Own.raw TabO).At s'.heap 70 → Q (.bool true) s') : PySem.wpAny (model pw w) A (call (.ref 233) [.ref a]) Q noE s := by
  have ho : s.heap.get? 233 = some (o233 w.params) := B.k _ _ (by rfl) (by decide) (by decide)
  have hc : s.heap.get? 232 = some (o232 w.params) := B.k _ _ (by rfl) (by decide) (by decide)
  have hnd : a ∉ [63, 70] := fun hm => by
    obtain ⟨vs, n, e, _⟩ := hl
    rcases List.mem_cons.mp hm with rfl | hm
    · obtain ⟨o, e', ps, rfl, _⟩ := t63
      rw [e] at e'; cases e'
    · obtain rfl := List.mem_singleton.mp hm
      obtain ⟨o, e', ps, rfl, _⟩ := t70
      rw [e] at e'; cases e'
  have hl' : (Own.list (ns.map .int)).At (dropH s.heap [63, 70]) a := by
    obtain ⟨vs, n, e, f⟩ := hl
    exact ⟨vs, n, by rw [dropH_out hnd]; exact e, f⟩
  have h63 : 63 < s.heap.objs.size := by obtain ⟨o, e, _⟩ := t63; exact Heap.lt_size e
  have h70 : 70 < s.heap.objs.size := by obtain ⟨o, e, _⟩ := t70; exact Heap.lt_size e
  refine wpAny_call (codeAny_call_cells (fd := funcOf (o233 w.params)) (vals := [.ref a]) (binds := [(Str.ofString "script", .ref a)]) (body := bodyOf (topSt 23)) r.limit ho rfl B.nl ⟨232, _, _, _, rfl, hc, rfl, rfl⟩ (by rfl) (by rfl) (by rfl) (fun x hx => ?_) (fun s₁ I => ?_) (by rfl) (by rfl) (by rfl))
  · obtain rfl := List.mem_singleton.mp hx
    exact .inl (by rfl)
  obtain ⟨h₁, tk, rfl⟩ := I.toInCall.same
  have k : Ext s.heap h₁ := I.toInCall.keep
  generalize hL : s.heap.objs.size = L at *
  have S : St (dropH s.heap [63, 70]) s.os L [(Str.ofString "script", .ref a)] [(L + 1 + 1 + 1, .cell none), (L + 1 + 1, .cell none), (L + 1, .cell none), (63, .raw TabO), (70, .raw TabO)] { s with heap := h₁, toks := tk } := by
    refine ⟨⟨hg, rfl⟩, fun b o e => ?_, ⟨_, I.toInCall.ns, fun x f e => ?_⟩, fun p hp => ?_, ?_, fun b hb => ?_⟩
    · by_cases hb : b ∈ [63, 70]
      · rw [dropH_in hb] at e; cases e
      · rw [dropH_out hb] at e; exact k _ _ e
    · rw [List.lookup_cons] at e
      cases hx : x == Str.ofString "script" with
      | false => rw [hx] at e; cases e
      | true =>
        rw [hx] at e
        cases e
        rw [beq_iff_eq.mp hx]
        exact ⟨.ref a, rfl, rfl⟩
    · have cell : ∀ (x : Str) (c : Addr), (callEnvC (funcOf (o233 w.params)) L 233).cells.lookup x = some c → bindC (callEnvC (funcOf (o233 w.params)) L 233).kindOf [(Str.ofString "script", .ref a)] (fun _ => none) x = none → (Own.cell none).At h₁ c := fun x c h1 h2 => by
        obtain ⟨o, eo, ed⟩ := I.cell x c h1
        rw [h2] at ed
        exact .inl ⟨o, eo, ed, rfl⟩
      rcases List.mem_cons.mp hp with rfl | hp
      · exact cell (Str.ofString "counts") _ rfl rfl
      rcases List.mem_cons.mp hp with rfl | hp
      · exact cell (Str.ofString "free") _ rfl rfl
      rcases List.mem_cons.mp hp with rfl | hp
      · exact cell (Str.ofString "kind") _ rfl rfl
      rcases List.mem_cons.mp hp with rfl | hp
      · exact t63.ext k
      rcases List.mem_cons.mp hp with rfl | hp
      · exact t70.ext k
      · cases hp
    · show (L :: [L + 1 + 1 + 1, L + 1 + 1, L + 1, 63, 70]).Nodup
      simp only [List.nodup_cons, List.mem_cons, List.not_mem_nil, or_false, List.nodup_nil, not_false_eq_true, and_true]
      refine ⟨?_, ?_, ?_, ?_, ?_⟩ <;> omega
    · by_cases hm : b ∈ [63, 70]
      · exact dropH_in hm
      · rw [dropH_out hm]
        have hb' : b ∈ (L :: [L + 1 + 1 + 1, L + 1 + 1, L + 1, 63, 70]) := hb
        have hge : L ≤ b := by
          simp only [List.mem_cons, List.not_mem_nil, or_false] at hb' hm
          rcases hb' with h | h | h | h | h | h
          · exact Nat.le_of_eq h.symm
          · rw [h]; exact Nat.le_add_right L 3
          · rw [h]; exact Nat.le_add_right L 2
          · rw [h]; exact Nat.le_add_right L 1
          · exact (hm (.inl h)).elim
          · exact (hm (.inr h)).elim
        cases e : s.heap.get? b with
        | none => rfl
        | some o =>
          have hlt := Heap.lt_size e
          rw [hL] at hlt
          exact absurd hlt (Nat.not_lt_of_le hge)
  refine PySem.wpAny_mono (law_body B.drop hl' _ _ (fun f s' => Q (match f with | .ret v => v | _ => .none) s') r.deeper S (fun v s' f bs' own' x hf S' => ?_)) (fun f s' x => x) (fun _ _ x => x.elim)
  obtain ⟨rfl, hs⟩ := x
  have S2 := S'.sub hs
  cases v <;> first | exact hf.elim | skip
  obtain rfl := hf
  exact q s' S'.rest.1 S'.rest.2 S'.keep (S2.has _ (.head _)) (S2.has _ (.tail _ (.head _)))
end
theorem fl_of : ∀ {vs : List Value} {ns : List Int}, IntsAre vs ns → FL vs (ns.map .int)
  | _, _, .nil => .nil
  | _, _, .cons n t h => .cons ⟨t, rfl⟩ (fl_of h)
theorem oldK_of {w : World} {h h' : Heap} (e63 : h.get? 63 = some (o63 w.params)) (e70 : h.get? 70 = some (o70 w.params)) (e67 : h.get? 67 = some (o67 w.params)) (e74 : h.get? 74 = some (o74 w.params))
    (k : Ext (dropH h [63, 70]) h') (t63 : (Own.raw TabO).At h' 63) (t70 : (Own.raw TabO).At h' 70) : OldK h h' := by
  have c63 : isCodeTable h 63 := ⟨67, _, _, e67, rfl, rfl, rfl⟩
  have c70 : isCodeTable h 70 := ⟨74, _, _, e74, rfl, rfl, rfl⟩
  obtain ⟨o1, f1, ps1, rfl, _⟩ := t63
  obtain ⟨o2, f2, ps2, rfl, _⟩ := t70
  refine ⟨fun b o e => ?_, fun b o e => ?_⟩
  · by_cases h1 : b = 63
    · subst h1
      rw [e63] at e; cases e
      exact .inr (.inl ⟨c63, rfl, #[], ps1, rfl, by rw [f1]; simp [o63]⟩)
    · by_cases h2 : b = 70
      · subst h2
        rw [e70] at e; cases e
        exact .inr (.inl ⟨c70, rfl, #[], ps2, rfl, by rw [f2]; simp [o70]⟩)
      · exact .inl (k b o (by rw [dropH_out (by simp [h1, h2])]; exact e))
  · by_cases h1 : b = 63
    · subst h1; exact ⟨_, f1⟩
    · by_cases h2 : b = 70
      · subst h2; exact ⟨_, f2⟩
      · exact ⟨o, k b o (by rw [dropH_out (by simp [h1, h2])]; exact e)⟩
theorem said : OpenLaw.wellSaid PySem.Challenge.rw_wo0008_01 = true := by kernel_rfl
end Mine
end
theorem PySem.Challenge.cw_wo0008_01_holds : PySem.Challenge.rw_wo0008_01.Holds := by
  w_on
  refine PySem.W.holds_law Mine.said fun said => ?_
  refine PySem.W.holds_openX (q := Mine.qv) (loose := Mine.loose) (Xt := Mine.Xt) (XP := fun _ _ => True) (Yf := Mine.Yf) (Ya := Mine.Ya) (N := 12000) Mine.left (fun _ _ => trivial) (fun _ _ _ _ _ => trivial) (by rfl) (by rfl) (by rfl) (fun s e => recFacts_nil rfl) (by rfl) (by first | assumption | decide +kernel) (by decide +kernel) ⟨rfl, rfl, rfl, rfl, rfl, by decide +kernel⟩ ?hw ?hc
  case hw => w_witness2
  case hc =>
    intro w s₀ s₁ mg mb G y fa o pm cd doc dV kV ho hd hcd hD hmg hg args vals as L hpre hlay hrd hwl hlo
    clear ho hd hcd hD
    replace hmg : mg (Str.ofString "law") = some (.ref fa) := hmg
    have T := topRead_of G.T
    have X := Mine.kf_in (h := s₁.heap) y L.keeps
    have B := Mine.base_of X T.g T.b T.nolimit T.builtins
    have efa : fa = 233 := by
      have e := B.mgs (Str.ofString "law") (some (.ref 233)) (by kernel_rfl)
      rw [hmg] at e
      cases e; rfl
    subst efa
    refine Ground.open G ?_
    intro T' B' D' TE TW
    clear T' B' D' TE TW
    wrow_args hpre hlay hrd hwl hlo
    rename_i a vs as' hL ra w1 r0 hI hr hc1 hc2
    cases w1 with
    | list ha wa =>
      obtain ⟨oL, hoL, _, nL, hdL⟩ := hL
      rw [ha] at hoL; cases hoL
      obtain ⟨e1, _⟩ := Data.seq.inj hdL
      have hl : (Mine.Own.list (_ : List Mine.Fv)).At s₁.heap a := ⟨_, 0, ha, by rw [e1]; exact Mine.fl_of hI⟩
      have t63 : (Mine.Own.raw Mine.TabO).At s₁.heap 63 := ⟨_, X 63 (Mine.o63 w.params) (by rfl), #[], rfl, trivial⟩
      have t70 : (Mine.Own.raw Mine.TabO).At s₁.heap 70 := ⟨_, X 70 (Mine.o70 w.params) (by rfl), #[], rfl, trivial⟩
      refine PySem.wpAny_mono (Mine.law_call (Q := _) ⟨rfl, by decide, by decide⟩ B (by rw [hg]; exact AllBare.empty) hl t63 t70 fun s' h1 h2 h3 h4 h5 => ?_) (fun _ _ h => h) fun _ _ h => h.elim
      exact ⟨.inl ⟨_, _, [], rfl, fun _ => rfl, ReadsW.bool true, by first | rfl | wrow_post, fun _ => ⟨List.nodup_nil, fun _ hm => (nomatch hm)⟩⟩, Mine.oldK_of (X 63 _ (by rfl)) (X 70 _ (by rfl)) (X 67 _ (by rfl)) (X 74 _ (by rfl)) h3 h4 h5, h2, h1⟩
